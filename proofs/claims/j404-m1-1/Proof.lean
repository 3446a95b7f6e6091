import JvmDerived
import JvmDerived.Pilot.@@N@@Statement
import JvmDerived.Pilot.@@N@@Code
set_option linter.unusedVariables false
set_option linter.unusedSimpArgs false
namespace Jvm.Pilot.@@N@@
open Jvm Jvm.ClassFile Sem Op Lib Jvm.Free Jvm.Stand Jvm.LawKit Jvm.RoadKit Bundle Jvm.Pilot.@@N@@.Jvm.D
theorem hwi {Z : State} {a0 : Array Value} (hw : ∀ d ∈ tables_1, d.before a0 Z = true) (i : Nat) {d : Jvm.Cond} (h : tables_1[i]? = some d) : d.before a0 Z = true := hw _ (List.mem_of_getElem? h)
section Own
variable {p : Program} {l : Launch} {e : Env} {R : Room} {s : State} {m : MethodId} {args : Array Value} {below : List Frame} {meth : Method} {c : Code} {T : State} {locs : List Loc} {cells slots : Nat} {Z : State} {a0 : Array Value} {h h' : Heap} {Q : Option Value → Heap → List Loc → Prop} {rc rs : Nat} {P : State → Outcome → Prop}
/-- from here the run comes to its end, and what it leaves is P -/
def Ends (p : Program) (e : Env) (below : List Frame) (P : State → Outcome → Prop) (T : State) (g : JFrame) : Prop :=
  ∃ s₂ o, Steps p.tables e below (T.setTop g) s₂ ∧ s₂.status = .running ∧ Ended s₂ below o ∧ P s₂ o
/-- the narrow end -/
def NP (s : State) (Q : Option Value → Heap → List Loc → Prop) (rc rs : Nat) : State → Outcome → Prop := fun s₂ o => ∃ v L, o = .returned v ∧ Q v s₂.heap L ∧ FrameEnd s o s₂ L rc rs
theorem go {T' : State} {g g' : JFrame} (f : ∀ t, Steps p.tables e below (T'.setTop g') t → Steps p.tables e below (T.setTop g) t) (k : Ends p e below P T' g') : Ends p e below P T g := by
  obtain ⟨s₂, o, h1, r⟩ := k
  exact ⟨s₂, o, f _ h1, r⟩
theorem goS {T' : State} {g g' : JFrame} (f : Steps p.tables e below (T.setTop g) (T'.setTop g')) (k : Ends p e below P T' g') : Ends p e below P T g := by
  obtain ⟨s₂, o, h1, r⟩ := k
  exact ⟨s₂, o, f.trans h1, r⟩
/-- the frame is left with v, and what stands then is P -/
def Lv (e : Env) (m : MethodId) (below : List Frame) (T : State) (v : Option Value) (P : State → Outcome → Prop) : Prop :=
  ∃ fs, (∀ (f : JFrame) (acts : List Action), f.method = m → f.locked = none → f.entered = [] → (doReturn e (T.setTop f) acts v).1 = T.setFrames fs) ∧ (T.setFrames fs).status = .running ∧ Ended (T.setFrames fs) below (.returned v) ∧ P (T.setFrames fs) (.returned v)
theorem lvN (X : Stand p l e R s m args below meth c T locs cells slots) (hlk : meth.locks = false) (eT : T.heap = h) {v : Option Value} (hv : meth.sig.returnType = none → v = none) (hq : Q v h locs) (hc : cells ≤ rc) (hs : slots ≤ rs) : Lv e m below T v (NP s Q rc rs) := by
  subst eT
  obtain ⟨fs, hr, hrun, hended, hW, hsame⟩ := X.leave (v := v) hv hlk
  exact ⟨fs, hr, hrun, hended, _, _, rfl, hq, ⟨_, rfl⟩, hW, hsame.mono hc hs⟩
theorem retI (X : Stand p l e R s m args below meth c T locs cells slots) (hx : p.tables.exec = Jvm.exec) {pc : Nat} {Ls : Array Slot} {z : Int32} {rest : List Value} (hret : meth.sig.returnType = some .int) (hd : decode c.code pc = .ok (.ireturn, 1)) {fs : List Frame}
    (hl : ∀ (f : JFrame) (acts : List Action), f.method = m → f.locked = none → f.entered = [] → (doReturn e (T.setTop f) acts (some (.int z))).1 = T.setFrames fs) : Steps p.tables e below (T.setTop (mkF m pc Ls (.int z :: rest))) (T.setFrames fs) := by
  have hm' : T.vm.method? m = some meth := X.method'
  have hn : narrow .int (.int z) = .int z := rfl
  show Steps p.tables e below (T.setTop { method := m, pc := pc, locals := Ls, stack := _ :: rest, locked := none }) _
  jvm_step X.here [X.here.top, hx, hd, hm', hret, hn]
  first | (intro acts; rw [hl _ acts rfl rfl rfl]) | rw [hl _ _ rfl rfl rfl]
  exact Steps.refl _
theorem endI (X : Stand p l e R s m args below meth c T locs cells slots) (hx : p.tables.exec = Jvm.exec) {pc : Nat} {Ls : Array Slot} {z : Int32} {rest : List Value} (hret : meth.sig.returnType = some .int) (hd : decode c.code pc = .ok (.ireturn, 1)) (hL : Lv e m below T (some (.int z)) P) :
    Ends p e below P T (mkF m pc Ls (.int z :: rest)) := by
  obtain ⟨fs, hr, hrun, hended, hp⟩ := hL
  exact ⟨_, _, retI X hx hret hd hr, hrun, hended, hp⟩
/-- a boolean, byte, char or short: what is returned is narrowed -/
theorem endN (X : Stand p l e R s m args below meth c T locs cells slots) (hx : p.tables.exec = Jvm.exec) {pc : Nat} {Ls : Array Slot} {z : Int32} {t : FieldType} {rest : List Value} (hret : meth.sig.returnType = some t) (ht : t = .boolean ∨ t = .byte ∨ t = .char ∨ t = .short) (hd : decode c.code pc = .ok (.ireturn, 1)) (hL : Lv e m below T (some (.int (nar t z))) P) :
    Ends p e below P T (mkF m pc Ls (.int z :: rest)) := by
  obtain ⟨fs, hr, hrun, hended, hp⟩ := hL
  exact ⟨_, _, retN X hx hret ht hd hr, hrun, hended, hp⟩
theorem endA (X : Stand p l e R s m args below meth c T locs cells slots) (hx : p.tables.exec = Jvm.exec) {pc : Nat} {Ls : Array Slot} {w : Value} {t : FieldType} {rest : List Value} (hret : meth.sig.returnType = some t) (ht : t.isReference = true) (hw : w.isRef = true) (hd : decode c.code pc = .ok (.areturn, 1)) (hL : Lv e m below T (some w) P) :
    Ends p e below P T (mkF m pc Ls (w :: rest)) := by
  obtain ⟨fs, hr, hrun, hended, hp⟩ := hL
  have hn : narrow t w = w := by rcases ref_cases hw with rfl | ⟨b, rfl⟩ <;> cases t <;> rfl
  exact ⟨_, _, retOut X hx hret hn (Or.inr (Or.inr (Or.inr (Or.inr ⟨rfl, ht, hw⟩)))) hd hr, hrun, hended, hp⟩
theorem endJ (X : Stand p l e R s m args below meth c T locs cells slots) (hx : p.tables.exec = Jvm.exec) {pc : Nat} {Ls : Array Slot} {z : Int64} {rest : List Value} (hret : meth.sig.returnType = some .long) (hd : decode c.code pc = .ok (.lreturn, 1)) (hL : Lv e m below T (some (.long z)) P) :
    Ends p e below P T (mkF m pc Ls (.long z :: rest)) := by
  obtain ⟨fs, hr, hrun, hended, hp⟩ := hL
  exact ⟨_, _, retOut X hx hret rfl (Or.inr (Or.inl ⟨rfl, rfl, z, rfl⟩)) hd hr, hrun, hended, hp⟩
theorem endV (X : Stand p l e R s m args below meth c T locs cells slots) (hx : p.tables.exec = Jvm.exec) {pc : Nat} {Ls : Array Slot} (hret : meth.sig.returnType = none) (hd : decode c.code pc = .ok (.return_, 1)) (hL : Lv e m below T none P) :
    Ends p e below P T (mkF m pc Ls []) := by
  obtain ⟨fs, hr, hrun, hended, hp⟩ := hL
  exact ⟨_, _, X.returnOut hx hret hd hr, hrun, hended, hp⟩
/-- a method's contract, at one heap and one list of arguments -/
def Con (l : Launch) (y : MethodName) (bytes : ByteArray) (maxL : Nat) (ret : Option FieldType) (rm : Room) (Z : State) (as' : Array Value) (h0 : Heap) (Q : Option Value → Heap → List Loc → Prop) : Prop :=
  ∀ ws, MetFree l y (head1 (Jvm.Cond.code y bytes maxL ret :: ws) rm) (fun a U => a = as' ∧ Z.Warmed39 U.vm ∧ U.heap = h0) (fun _ _ _ _ _ => True) (fun _ U o U' => ∃ v L, o = .returned v ∧ Q v U'.heap L ∧ FrameEnd U o U' L rm.cells rm.slots)
theorem efOf {m : MethodId} {args : Array Value} {n : Nat} {Ls : Array Slot} (h : Jvm.Sym.laidSlots args.toList ++ List.replicate (n - (Jvm.Sym.laidSlots args.toList).length) .unset = Ls.toList) : entryFrame m args n = mkF m 0 Ls [] := by
  have q : argsToLocals args n = Ls := Array.toList_inj.mp (by rw [Jvm.Sym.argsToLocals_toList]; exact h)
  show mkF m 0 (argsToLocals args n) [] = _
  rw [q]
theorem Con.of {y : MethodName} {bytes : ByteArray} {maxL : Nat} {ret : Option FieldType} {rm : Room} {as' : Array Value} {h0 : Heap} (hp : plainFor y = true) {Ls : Array Slot} (hef : ∀ m, entryFrame m as' maxL = mkF m 0 Ls [])
    (body : ∀ {p : Program} {e : Env} {s : State} {m : MethodId} {below : List Frame} {meth : Method} {c : Code} {T : State}, Stand p l e rm s m as' below meth c T [] 0 0 → p.tables.exec = Jvm.exec → Z.Warmed39 s.vm → c.code = bytes → c.maxLocals = maxL → s.vm.findClass y.cls = some m.cls → meth.name = y.name → meth.sig.returnType = ret → meth.locks = false → T.heap = h0 → Ends p e below (NP s Q rm.cells rm.slots) T (mkF m 0 Ls [])) :
    Con l y bytes maxL ret rm Z as' h0 Q := by
  intro ws
  refine MetFree.of_bodySF hp hisR ?_
  intro p e s m args below meth c s₁ Bd hml0 hP hK
  obtain ⟨rfl, hZ, hh⟩ := hP
  have X0 : Stand p l e rm s m _ below meth c s₁ [] 0 0 := Stand.of_body Bd
  have e0 : s₁.heap = h0 := by rw [← hh, Bd.state]; rfl
  obtain ⟨s₂, o, h1, r⟩ := body X0 Bd.exec hZ Bd.bytes hml0 (findClass_of_methodNamed Bd.named) (name_of_methodNamed Bd.named Bd.method).1 Bd.returns Bd.notSynchronized e0
  exact ⟨s₂, o, castTop (hef m) h1, r⟩
theorem cStat {own : String} {index : Nat} {y : MethodName} {bytes : ByteArray} {maxL : Nat} {ret : Option FieldType} {rm : Room} {Q' : Option Value → Heap → List Loc → Prop} {pc : Nat} {Ls : Array Slot} {st : List Value}
    (X : Stand p l e R s m args below meth c T locs cells slots) (hx : p.tables.exec = Jvm.exec) (hZ : Z.Warmed39 s.vm) (hown : s.vm.findClass own = some m.cls) (hml : Ls.size = c.maxLocals) (eT : T.heap = h)
    (w1 : (Cond.methodLink own index y).before a0 Z = true) (w2 : (Cond.static y).before a0 Z = true) (w3 : (Cond.initialized y.cls).before a0 Z = true) (w4 : (Cond.code y bytes maxL ret).before a0 Z = true)
    (argsL rest : List Value) {as' : Array Value} (has : argsL.toArray = as') (hM : Con l y bytes maxL ret rm Z as' h Q') (hd : decode c.code pc = .ok (.invokestatic index, 3)) (hst : st = argsL.reverse ++ rest)
    (hlen : ∀ sig, parseMethodDescriptor y.desc = some sig → argsL.length = sig.parameters.length) (hy : y.cls ≠ "java/lang/invoke/MethodHandle" ∧ y.cls ≠ "java/lang/invoke/VarHandle")
    (hf : rm.frames + 1 ≤ R.frames) (hl : (rest.map fun v => v.category).sum + (maxL + 11) + rm.locals ≤ R.locals) (hc : cells + rm.cells ≤ R.cells) (hs : slots + rm.slots ≤ R.slots)
    (k : ∀ v T' h' L, Stand p l e R s m args below meth c T' (locs ++ L) (cells + rm.cells) (slots + rm.slots) → T'.heap = h' → Q' v h' L → Ends p e below P T' (mkF m (pc + 3) Ls (v.toList ++ rest))) :
    Ends p e below P T (mkF m pc Ls st) := by
  subst has
  obtain ⟨v, _, ⟨T', L', k', n'⟩, -, X', ⟨Lc, hQ, e1, e2, e3⟩, stp⟩ := Jvm.LawKit.callS X hx (y := y) hown (mvT hZ w1) (mvT hZ w2) (mvT hZ w3) (mvT hZ w4) hy (backOf (W := (rest.map fun v => v.category).sum) (hM []) hZ w4 w3 hf hl) (g := mkF m pc Ls st) rfl hml (argsL := argsL) (rest := rest) hlen hst (by show 2 * 0 + _ ≤ _; omega) hd (fun _ _ => ⟨rfl, eT, hc, hs⟩)
  dsimp only [Pt.U, Pt.locs, Pt.cells, Pt.slots] at X' e1 e2 e3 stp hQ
  subst e1 e2 e3
  exact go stp (k v T' _ Lc X' rfl hQ)
theorem cInit {own : String} {index : Nat} {y : MethodName} {bytes : ByteArray} {maxL : Nat} {rm : Room} {Q' : Option Value → Heap → List Loc → Prop} {pc : Nat} {Ls : Array Slot} {st : List Value}
    (X : Stand p l e R s m args below meth c T locs cells slots) (hx : p.tables.exec = Jvm.exec) (hZ : Z.Warmed39 s.vm) (hown : s.vm.findClass own = some m.cls) (hml : Ls.size = c.maxLocals) (eT : T.heap = h)
    (w1 : (Cond.methodLink own index y).before a0 Z = true) (w2 : (Cond.instanceMethod y).before a0 Z = true) (w3 : (Cond.initialized y.cls).before a0 Z = true) (w4 : (Cond.code y bytes maxL none).before a0 Z = true)
    (a : Addr) (argsL rest : List Value) {as' : Array Value} (has : (.ref a :: argsL).toArray = as') (hM : Con l y bytes maxL none rm Z as' h Q') (hd : decode c.code pc = .ok (.invokespecial index, 3)) (hst : st = argsL.reverse ++ .ref a :: rest)
    (hlen : ∀ sig, parseMethodDescriptor y.desc = some sig → argsL.length = sig.parameters.length) (hy1 : y.name = "<init>") (hy : y.cls ≠ "java/lang/invoke/MethodHandle" ∧ y.cls ≠ "java/lang/invoke/VarHandle")
    (hf : rm.frames + 1 ≤ R.frames) (hl : (rest.map fun v => v.category).sum + (maxL + 11) + rm.locals ≤ R.locals) (hc : cells + rm.cells ≤ R.cells) (hs : slots + rm.slots ≤ R.slots)
    (k : ∀ v T' h' L, Stand p l e R s m args below meth c T' (locs ++ L) (cells + rm.cells) (slots + rm.slots) → T'.heap = h' → Q' v h' L → Ends p e below P T' (mkF m (pc + 3) Ls (v.toList ++ rest))) :
    Ends p e below P T (mkF m pc Ls st) := by
  subst has
  obtain ⟨v, _, ⟨T', L', k', n'⟩, -, X', ⟨Lc, hQ, e1, e2, e3⟩, stp⟩ := X.specialBack hx (y := y) hy1 hown (mvT hZ w1) (mvT hZ w2) (mvT hZ w4) hy (backOf (W := (rest.map fun v => v.category).sum) (hM []) hZ w4 w3 hf hl) (g := mkF m pc Ls st) rfl hml (Steps.refl _) (a := a) (argsL := argsL) (rest := rest) hlen hst (by show 2 * 0 + _ ≤ _; omega) hd (fun _ _ => ⟨rfl, eT, hc, hs⟩)
  dsimp only [Pt.U, Pt.locs, Pt.cells, Pt.slots] at X' e1 e2 e3 stp hQ
  subst e1 e2 e3
  exact goS stp (k v T' _ Lc X' rfl hQ)
theorem cVirt {own K : String} {index : Nat} {y z : MethodName} {bytes : ByteArray} {maxL : Nat} {ret : Option FieldType} {rm : Room} {Q' : Option Value → Heap → List Loc → Prop} {pc : Nat} {Ls : Array Slot} {st : List Value}
    (X : Stand p l e R s m args below meth c T locs cells slots) (hx : p.tables.exec = Jvm.exec) (hZ : Z.Warmed39 s.vm) (hown : s.vm.findClass own = some m.cls) (hml : Ls.size = c.maxLocals) (eT : T.heap = h)
    (w1 : (Cond.methodLink own index y).before a0 Z = true) (w2 : (Cond.declares y).before a0 Z = true) (w3 : (Cond.selects K y z).before a0 Z = true) (w4 : (Cond.instanceMethod z).before a0 Z = true) (w5 : (Cond.initialized z.cls).before a0 Z = true) (w6 : (Cond.code z bytes maxL ret).before a0 Z = true) (hnf : NotFace s y)
    (a : Addr) (E : Exa Z h a K) (argsL rest : List Value) {as' : Array Value} (has : (.ref a :: argsL).toArray = as') (hM : Con l z bytes maxL ret rm Z as' h Q') (hd : decode c.code pc = .ok (.invokevirtual index, 3)) (hst : st = argsL.reverse ++ .ref a :: rest)
    (hlen : ∀ sig, parseMethodDescriptor y.desc = some sig → argsL.length = sig.parameters.length) (hy : y.cls ≠ "java/lang/invoke/MethodHandle" ∧ y.cls ≠ "java/lang/invoke/VarHandle")
    (hf : rm.frames + 1 ≤ R.frames) (hl : (rest.map fun v => v.category).sum + (maxL + 11) + rm.locals ≤ R.locals) (hc : cells + rm.cells ≤ R.cells) (hs : slots + rm.slots ≤ R.slots)
    (k : ∀ v T' h' L, Stand p l e R s m args below meth c T' (locs ++ L) (cells + rm.cells) (slots + rm.slots) → T'.heap = h' → Q' v h' L → Ends p e below P T' (mkF m (pc + 3) Ls (v.toList ++ rest))) :
    Ends p e below P T (mkF m pc Ls st) := by
  subst has
  obtain ⟨cq, kq, qa, qb, qc⟩ := isOf hZ eT E
  obtain ⟨v, _, ⟨T', L', k', n'⟩, -, X', ⟨Lc, hQ, e1, e2, e3⟩, stp⟩ := X.virtualBack hx (y := y) (z := z) hown (mvT hZ w1) (mvT hZ w2) hnf (mvT hZ w3) (mvT hZ w4) hy (backOf (W := (rest.map fun v => v.category).sum) (hM []) hZ w6 w5 hf hl) qa qc (g := mkF m pc Ls st) rfl hml (Steps.refl _) (argsL := argsL) (rest := rest) hlen hst (by show 2 * 0 + _ ≤ _; omega) hd (fun _ _ => ⟨rfl, eT, hc, hs⟩)
  dsimp only [Pt.U, Pt.locs, Pt.cells, Pt.slots] at X' e1 e2 e3 stp hQ
  subst e1 e2 e3
  exact goS stp (k v T' _ Lc X' rfl hQ)
theorem cFace {own K : String} {index count : Nat} {y z : MethodName} {bytes : ByteArray} {maxL : Nat} {ret : Option FieldType} {rm : Room} {Q' : Option Value → Heap → List Loc → Prop} {pc : Nat} {Ls : Array Slot} {st : List Value}
    (X : Stand p l e R s m args below meth c T locs cells slots) (hx : p.tables.exec = Jvm.exec) (hZ : Z.Warmed39 s.vm) (hown : s.vm.findClass own = some m.cls) (hml : Ls.size = c.maxLocals) (eT : T.heap = h)
    (w1 : (Cond.methodLink own index y).before a0 Z = true) (w2 : (Cond.declares y).before a0 Z = true) (wf : (Cond.interfaceMethod y.cls y.cls y.name y.desc).before args s = true) (w3 : (Cond.selects K y z).before a0 Z = true) (w4 : (Cond.instanceMethod z).before a0 Z = true) (wp : (Cond.publicMethod z).before a0 Z = true) (wu : (Cond.unhidden K y.name y.desc).before args s = true) (wc : (Cond.castable K y.cls).before a0 Z = true) (w5 : (Cond.initialized z.cls).before a0 Z = true) (w6 : (Cond.code z bytes maxL ret).before a0 Z = true)
    (a : Addr) (E : Exa Z h a K) (argsL rest : List Value) {as' : Array Value} (has : (.ref a :: argsL).toArray = as') (hM : Con l z bytes maxL ret rm Z as' h Q') (hd : decode c.code pc = .ok (.invokeinterface index count, 5)) (hst : st = argsL.reverse ++ .ref a :: rest)
    (hlen : ∀ sig, parseMethodDescriptor y.desc = some sig → argsL.length = sig.parameters.length) (hy : y.cls ≠ "java/lang/invoke/MethodHandle" ∧ y.cls ≠ "java/lang/invoke/VarHandle")
    (hf : rm.frames + 1 ≤ R.frames) (hl : (rest.map fun v => v.category).sum + (maxL + 11) + rm.locals ≤ R.locals) (hc : cells + rm.cells ≤ R.cells) (hs : slots + rm.slots ≤ R.slots)
    (k : ∀ v T' h' L, Stand p l e R s m args below meth c T' (locs ++ L) (cells + rm.cells) (slots + rm.slots) → T'.heap = h' → Q' v h' L → Ends p e below P T' (mkF m (pc + 5) Ls (v.toList ++ rest))) :
    Ends p e below P T (mkF m pc Ls st) := by
  subst has
  obtain ⟨cq, kq, qa, qb, qc⟩ := isOf hZ eT E
  obtain ⟨v, _, ⟨T', L', k', n'⟩, -, X', ⟨Lc, hQ, e1, e2, e3⟩, stp⟩ := X.interfaceBack hx (xi := y) (y := z) hown (mvT hZ w1) (mvT hZ w2) wf (mvT hZ w3) (mvT hZ w4) (mvT hZ wp) wu (mvT hZ wc) hy (backOf (W := (rest.map fun v => v.category).sum) (hM []) hZ w6 w5 hf hl) qa qb qc (g := mkF m pc Ls st) rfl hml (Steps.refl _) (argsL := argsL) (rest := rest) hlen hst (by show 2 * 0 + _ ≤ _; omega) hd (fun _ _ => ⟨rfl, eT, hc, hs⟩)
  dsimp only [Pt.U, Pt.locs, Pt.cells, Pt.slots] at X' e1 e2 e3 stp hQ
  subst e1 e2 e3
  exact goS stp (k v T' _ Lc X' rfl hQ)
theorem cPriv {own K : String} {index nn : Nat} {y : MethodName} {bytes : ByteArray} {maxL : Nat} {ret : Option FieldType} {rm : Room} {Q' : Option Value → Heap → List Loc → Prop} {pc : Nat} {Ls : Array Slot} {st : List Value}
    (X : Stand p l e R s m args below meth c T locs cells slots) (hx : p.tables.exec = Jvm.exec) (hZ : Z.Warmed39 s.vm) (hown : s.vm.findClass own = some m.cls) (hml : Ls.size = c.maxLocals) (eT : T.heap = h)
    (w1 : (Cond.methodLink own index y).before a0 Z = true) (w2 : (Cond.instanceMethod y).before a0 Z = true) (w3 : (Cond.privateMethod y).before a0 Z = true) (w4 : (Cond.instantiable y.cls nn).before a0 Z = true) (w5 : (Cond.initialized y.cls).before a0 Z = true) (w6 : (Cond.code y bytes maxL ret).before a0 Z = true)
    (a : Addr) (E : Exa Z h a K) (argsL rest : List Value) {as' : Array Value} (has : (.ref a :: argsL).toArray = as') (hM : Con l y bytes maxL ret rm Z as' h Q') (hd : decode c.code pc = .ok (.invokevirtual index, 3)) (hst : st = argsL.reverse ++ .ref a :: rest)
    (hlen : ∀ sig, parseMethodDescriptor y.desc = some sig → argsL.length = sig.parameters.length) (hy : y.cls ≠ "java/lang/invoke/MethodHandle" ∧ y.cls ≠ "java/lang/invoke/VarHandle")
    (hf : rm.frames + 1 ≤ R.frames) (hl : (rest.map fun v => v.category).sum + (maxL + 11) + rm.locals ≤ R.locals) (hc : cells + rm.cells ≤ R.cells) (hs : slots + rm.slots ≤ R.slots)
    (k : ∀ v T' h' L, Stand p l e R s m args below meth c T' (locs ++ L) (cells + rm.cells) (slots + rm.slots) → T'.heap = h' → Q' v h' L → Ends p e below P T' (mkF m (pc + 3) Ls (v.toList ++ rest))) :
    Ends p e below P T (mkF m pc Ls st) := by
  subst has
  obtain ⟨cell, q1, q2⟩ := E.cell
  have hpr := Cond.privateMethod_at (mvP hZ w3 (args := #[]))
  obtain ⟨cc, kc, i1, i2, -, i4, -⟩ := Cond.instantiable_spec (mvT (args := args) hZ w4)
  have hni : kc.isInterface = false := by
    cases hq : kc.isInterface with
    | false => rfl
    | true => rw [hq] at i4; simp at i4
  have hsel := Jvm.Stand.selects_self_of_private (args := args) i1 i2 hni hpr (mvT hZ w2) hy
  obtain ⟨v, _, ⟨T', L', k', n'⟩, -, X', ⟨Lc, hQ, e1, e2, e3⟩, stp⟩ := X.privateBack hx (y := y) hown (mvT hZ w1) (mvT hZ w2) hsel hpr (mvT hZ w6) hy (backOf (W := (rest.map fun v => v.category).sum) (hM []) hZ w6 w5 hf hl) (g := mkF m pc Ls st) rfl hml (Steps.refl _) (a := a) (by rw [eT]; exact q1) q2 (argsL := argsL) (rest := rest) hlen hst (by show 2 * 0 + _ ≤ _; omega) hd (fun _ _ => ⟨rfl, eT, hc, hs⟩)
  dsimp only [Pt.U, Pt.locs, Pt.cells, Pt.slots] at X' e1 e2 e3 stp hQ
  subst e1 e2 e3
  exact goS stp (k v T' _ Lc X' rfl hQ)
theorem xx (O : Ext Z.heap h) (E : Ext h h') : Ext Z.heap h' := ⟨Nat.le_trans O.1 E.1, fun a c q => E.2 _ _ (O.2 _ _ q)⟩
theorem xk {ws : List Addr} (O : Ext Z.heap h) (K : Keep h h' ws) (q : ∀ x ∈ ws, Z.heap.size ≤ x) : Ext Z.heap h' := (Old.keep ⟨rfl, O⟩ K q).2
theorem xw {a : Addr} {sl : Nat} {v : Value} (O : Ext Z.heap h) (W : Wr h h' a sl v) (q : Z.heap.size ≤ a) : Ext Z.heap h' := (Old.wr ⟨rfl, O⟩ W q).2
theorem ke (E : Ext h h') : Keep h h' [] := (Keep.refl h []).ext E
theorem ek (K : Keep h h' []) : Ext h h' := ⟨K.1, fun a c q => K.2.1 a c q nin0⟩
end Own
section OwnW
variable {p : Program} {l : Launch} {e : Env} {R : Room} {s : State} {m : MethodId} {args : Array Value} {below : List Frame} {meth : Method} {c : Code} {T : State} {locs : List Loc} {cells slots : Nat} {Z : State} {a0 : Array Value} {h h' : Heap} {Q : Option Value → Heap → List Loc → Prop} {rc rs : Nat} {P : State → Outcome → Prop} {vm0 : Vm} {EL : List (String × Nat)} {k0 : Nat}
/-- the wide end: literals may have been interned -/
def WP (s : State) (Z : State) (EL : List (String × Nat)) (Q : Option Value → Heap → List Loc → Prop) (rc rs : Nat) : State → Outcome → Prop := fun s₂ o => ∃ v L, o = .returned v ∧ Q v s₂.heap L ∧ CHr Z EL s.vm s.heap s₂.vm s₂.heap ∧ ReturnedEndW s o s₂ L rc rs
theorem lvW (X : Stand p l e R (s.setVm vm0) m args below meth c T locs cells slots) (hlk : meth.locks = false) (hZ : Z.Warmed39 vm0) (hEL : EW Z a0 EL) (hs0 : s.heap = h') (hS : s.Since vm0 k0) (hk : k0 ≤ h.size) (H : CHr Z EL s.vm h' vm0 h) (eT : T.heap = h) {v : Option Value} (hv : meth.sig.returnType = none → v = none) (hq : Q v h locs) (hc : cells ≤ rc) (hs : slots ≤ rs) : Lv e m below T v (WP s Z EL Q rc rs) := by
  subst eT
  obtain ⟨fs, hr, hrun, hended, hv', hW, hb, hsame⟩ := Jvm.Stand.leaveW X hS hk (v := v) hv hlk
  refine ⟨fs, hr, hrun, hended, _, _, rfl, hq, ?_, hv', hW, hb, hsame.mono hc hs⟩
  rw [hs0]
  show CHr Z EL s.vm h' T.vm T.heap
  exact H.trans (CHv.at X hZ hEL H.1)
def ConW (l : Launch) (y : MethodName) (bytes : ByteArray) (maxL : Nat) (ret : Option FieldType) (rm : Room) (Z : State) (EL : List (String × Nat)) (as' : Array Value) (h0 : Heap) (Q : Option Value → Heap → List Loc → Prop) : Prop :=
  ∀ ws, MetFree l y (head1 (Jvm.Cond.code y bytes maxL ret :: ws) rm) (fun a U => a = as' ∧ Z.Warmed39 U.vm ∧ U.heap = h0 ∧ CHv Z EL U.vm h0) (fun _ _ _ _ _ => True) (fun _ U o U' => ∃ v L, o = .returned v ∧ Q v U'.heap L ∧ CHr Z EL U.vm U.heap U'.vm U'.heap ∧ ReturnedEndW U o U' L rm.cells rm.slots)
theorem ConW.of {y : MethodName} {bytes : ByteArray} {maxL : Nat} {ret : Option FieldType} {rm : Room} {as' : Array Value} {h0 : Heap} (hp : plainFor y = true) {Ls : Array Slot} (hef : ∀ m, entryFrame m as' maxL = mkF m 0 Ls [])
    (body : ∀ {p : Program} {e : Env} {s : State} {m : MethodId} {below : List Frame} {meth : Method} {c : Code} {T : State}, Stand p l e rm (s.setVm s.vm) m as' below meth c T [] 0 0 → p.tables.exec = Jvm.exec → Z.Warmed39 s.vm → c.code = bytes → c.maxLocals = maxL → s.vm.findClass y.cls = some m.cls → meth.name = y.name → meth.sig.returnType = ret → meth.locks = false → T.heap = h0 → s.heap = h0 → s.Since s.vm 0 → 0 ≤ h0.size → CHr Z EL s.vm h0 s.vm h0 → Ends p e below (WP s Z EL Q rm.cells rm.slots) T (mkF m 0 Ls [])) :
    ConW l y bytes maxL ret rm Z EL as' h0 Q := by
  intro ws
  refine MetFree.of_bodySF hp hisR ?_
  intro p e s m args below meth c s₁ Bd hml0 hP hK
  obtain ⟨rfl, hZ, hh, hC⟩ := hP
  have X0 : Stand p l e rm s m _ below meth c s₁ [] 0 0 := Stand.of_body Bd
  have e0 : s₁.heap = h0 := by rw [← hh, Bd.state]; rfl
  obtain ⟨s₂, o, h1, r⟩ := body (s := s) X0 Bd.exec hZ Bd.bytes hml0 (findClass_of_methodNamed Bd.named) (name_of_methodNamed Bd.named Bd.method).1 Bd.returns Bd.notSynchronized e0 hh ((State.WarmedH.refl s).since 0) (Nat.zero_le _) (CHr.refl hC)
  exact ⟨s₂, o, castTop (hef m) h1, r⟩
theorem cStatW {own : String} {index : Nat} {y : MethodName} {bytes : ByteArray} {maxL : Nat} {ret : Option FieldType} {rm : Room} {Q' : Option Value → Heap → List Loc → Prop} {pc : Nat} {Ls : Array Slot} {st : List Value}
    (X : Stand p l e R (s.setVm vm0) m args below meth c T locs cells slots) (hx : p.tables.exec = Jvm.exec) (hZ : Z.Warmed39 vm0) (hown : vm0.findClass own = some m.cls) (hml : Ls.size = c.maxLocals) (eT : T.heap = h) (hEL : EW Z a0 EL) (hS : s.Since vm0 k0) (hk : k0 ≤ h.size) (H : CHv Z EL vm0 h)
    (w1 : (Cond.methodLink own index y).before a0 Z = true) (w2 : (Cond.static y).before a0 Z = true) (w3 : (Cond.initialized y.cls).before a0 Z = true) (w4 : (Cond.code y bytes maxL ret).before a0 Z = true)
    (argsL rest : List Value) {as' : Array Value} (has : argsL.toArray = as') (hM : ConW l y bytes maxL ret rm Z EL as' h Q') (hd : decode c.code pc = .ok (.invokestatic index, 3)) (hst : st = argsL.reverse ++ rest)
    (hlen : ∀ sig, parseMethodDescriptor y.desc = some sig → argsL.length = sig.parameters.length) (hy : y.cls ≠ "java/lang/invoke/MethodHandle" ∧ y.cls ≠ "java/lang/invoke/VarHandle")
    (hf : rm.frames + 1 ≤ R.frames) (hl : (rest.map fun v => v.category).sum + (maxL + 11) + rm.locals ≤ R.locals) (hc : cells + rm.cells ≤ R.cells) (hs : slots + rm.slots ≤ R.slots)
    (k : ∀ v T' h' L k1, Stand p l e R (s.setVm T'.vm) m args below meth c T' (locs ++ L) (cells + rm.cells) (slots + rm.slots) → T'.heap = h' → s.Since T'.vm k1 → k1 ≤ h'.size → Z.Warmed39 T'.vm → T'.vm.findClass own = some m.cls → CHr Z EL vm0 h T'.vm h' → Q' v h' L → Ends p e below P T' (mkF m (pc + 3) Ls (v.toList ++ rest))) :
    Ends p e below P T (mkF m pc Ls st) := by
  subst has
  obtain ⟨v, vm1, ⟨T', L', k', n'⟩, -, X', hS', hle, ⟨Lc, hQ, e1, e2, e3, hC⟩, stp⟩ := callSS X hx (y := y) hown (mvT (s := s.setVm vm0) hZ w1) (mvT (s := s.setVm vm0) hZ w2) (mvT (s := s.setVm vm0) hZ w3) (mvT (s := s.setVm vm0) hZ w4) hy (backOfSH (s := s) (W := (rest.map fun v => v.category).sum) (hM []) hZ w4 w3 hf hl hEL H) (g := mkF m pc Ls st) rfl hml (argsL := argsL) (rest := rest) hlen hst (by show 2 * 0 + _ ≤ _; omega) hd (fun _ _ => ⟨rfl, eT, hc, hs⟩)
  dsimp only [Pt.U, Pt.locs, Pt.cells, Pt.slots] at X' e1 e2 e3 stp hQ hS' hle hC
  subst e1 e2 e3
  have hS2 := hS.trans hS' (Nat.le_trans hk (by rw [← eT]; exact hle))
  have hW : Z.Warmed39 T'.vm := State.Warmed39.trans (t := s.setVm vm0) hZ hS'.1
  have hf' : T'.vm.findClass own = some m.cls := by rw [hS'.1.alike.findClass]; exact hown
  exact goS stp (k v T' _ Lc _ X' rfl hS2 (Nat.le_refl _) hW hf' hC hQ)
theorem cInitW {own : String} {index : Nat} {y : MethodName} {bytes : ByteArray} {maxL : Nat} {rm : Room} {Q' : Option Value → Heap → List Loc → Prop} {pc : Nat} {Ls : Array Slot} {st : List Value}
    (X : Stand p l e R (s.setVm vm0) m args below meth c T locs cells slots) (hx : p.tables.exec = Jvm.exec) (hZ : Z.Warmed39 vm0) (hown : vm0.findClass own = some m.cls) (hml : Ls.size = c.maxLocals) (eT : T.heap = h) (hEL : EW Z a0 EL) (hS : s.Since vm0 k0) (hk : k0 ≤ h.size) (H : CHv Z EL vm0 h)
    (w1 : (Cond.methodLink own index y).before a0 Z = true) (w2 : (Cond.instanceMethod y).before a0 Z = true) (w3 : (Cond.initialized y.cls).before a0 Z = true) (w4 : (Cond.code y bytes maxL none).before a0 Z = true)
    (a : Addr) (argsL rest : List Value) {as' : Array Value} (has : (.ref a :: argsL).toArray = as') (hM : ConW l y bytes maxL none rm Z EL as' h Q') (hd : decode c.code pc = .ok (.invokespecial index, 3)) (hst : st = argsL.reverse ++ .ref a :: rest)
    (hlen : ∀ sig, parseMethodDescriptor y.desc = some sig → argsL.length = sig.parameters.length) (hy1 : y.name = "<init>") (hy : y.cls ≠ "java/lang/invoke/MethodHandle" ∧ y.cls ≠ "java/lang/invoke/VarHandle")
    (hf : rm.frames + 1 ≤ R.frames) (hl : (rest.map fun v => v.category).sum + (maxL + 11) + rm.locals ≤ R.locals) (hc : cells + rm.cells ≤ R.cells) (hs : slots + rm.slots ≤ R.slots)
    (k : ∀ v T' h' L k1, Stand p l e R (s.setVm T'.vm) m args below meth c T' (locs ++ L) (cells + rm.cells) (slots + rm.slots) → T'.heap = h' → s.Since T'.vm k1 → k1 ≤ h'.size → Z.Warmed39 T'.vm → T'.vm.findClass own = some m.cls → CHr Z EL vm0 h T'.vm h' → Q' v h' L → Ends p e below P T' (mkF m (pc + 3) Ls (v.toList ++ rest))) :
    Ends p e below P T (mkF m pc Ls st) := by
  subst has
  obtain ⟨v, vm1, ⟨T', L', k', n'⟩, -, X', hS', hle, ⟨Lc, hQ, e1, e2, e3, hC⟩, stp⟩ := Jvm.Stand.specialBackS X hx (y := y) hy1 hown (mvT (s := s.setVm vm0) hZ w1) (mvT (s := s.setVm vm0) hZ w2) (mvT (s := s.setVm vm0) hZ w4) hy (backOfSH (s := s) (W := (rest.map fun v => v.category).sum) (hM []) hZ w4 w3 hf hl hEL H) (g := mkF m pc Ls st) rfl hml (Steps.refl _) (a := a) (argsL := argsL) (rest := rest) hlen hst (by show 2 * 0 + _ ≤ _; omega) hd (fun _ _ => ⟨rfl, eT, hc, hs⟩)
  dsimp only [Pt.U, Pt.locs, Pt.cells, Pt.slots] at X' e1 e2 e3 stp hQ hS' hle hC
  subst e1 e2 e3
  have hS2 := hS.trans hS' (Nat.le_trans hk (by rw [← eT]; exact hle))
  have hW : Z.Warmed39 T'.vm := State.Warmed39.trans (t := s.setVm vm0) hZ hS'.1
  have hf' : T'.vm.findClass own = some m.cls := by rw [hS'.1.alike.findClass]; exact hown
  exact goS stp (k v T' _ Lc _ X' rfl hS2 (Nat.le_refl _) hW hf' hC hQ)
theorem cVirtW {own K : String} {index : Nat} {y z : MethodName} {bytes : ByteArray} {maxL : Nat} {ret : Option FieldType} {rm : Room} {Q' : Option Value → Heap → List Loc → Prop} {pc : Nat} {Ls : Array Slot} {st : List Value}
    (X : Stand p l e R (s.setVm vm0) m args below meth c T locs cells slots) (hx : p.tables.exec = Jvm.exec) (hZ : Z.Warmed39 vm0) (hown : vm0.findClass own = some m.cls) (hml : Ls.size = c.maxLocals) (eT : T.heap = h) (hEL : EW Z a0 EL) (hS : s.Since vm0 k0) (hk : k0 ≤ h.size) (H : CHv Z EL vm0 h)
    (w1 : (Cond.methodLink own index y).before a0 Z = true) (w2 : (Cond.declares y).before a0 Z = true) (w3 : (Cond.selects K y z).before a0 Z = true) (w4 : (Cond.instanceMethod z).before a0 Z = true) (w5 : (Cond.initialized z.cls).before a0 Z = true) (w6 : (Cond.code z bytes maxL ret).before a0 Z = true) (hnf : NotFace (s.setVm vm0) y)
    (a : Addr) (E : Exa Z h a K) (argsL rest : List Value) {as' : Array Value} (has : (.ref a :: argsL).toArray = as') (hM : ConW l z bytes maxL ret rm Z EL as' h Q') (hd : decode c.code pc = .ok (.invokevirtual index, 3)) (hst : st = argsL.reverse ++ .ref a :: rest)
    (hlen : ∀ sig, parseMethodDescriptor y.desc = some sig → argsL.length = sig.parameters.length) (hy : y.cls ≠ "java/lang/invoke/MethodHandle" ∧ y.cls ≠ "java/lang/invoke/VarHandle")
    (hf : rm.frames + 1 ≤ R.frames) (hl : (rest.map fun v => v.category).sum + (maxL + 11) + rm.locals ≤ R.locals) (hc : cells + rm.cells ≤ R.cells) (hs : slots + rm.slots ≤ R.slots)
    (k : ∀ v T' h' L k1, Stand p l e R (s.setVm T'.vm) m args below meth c T' (locs ++ L) (cells + rm.cells) (slots + rm.slots) → T'.heap = h' → s.Since T'.vm k1 → k1 ≤ h'.size → Z.Warmed39 T'.vm → T'.vm.findClass own = some m.cls → CHr Z EL vm0 h T'.vm h' → Q' v h' L → Ends p e below P T' (mkF m (pc + 3) Ls (v.toList ++ rest))) :
    Ends p e below P T (mkF m pc Ls st) := by
  subst has
  obtain ⟨cq, kq, qa, qb, qc⟩ := isOf (s := s.setVm vm0) hZ eT E
  obtain ⟨v, vm1, ⟨T', L', k', n'⟩, -, X', hS', hle, ⟨Lc, hQ, e1, e2, e3, hC⟩, stp⟩ := Jvm.Stand.virtualBackS X hx (y := y) (z := z) hown (mvT (s := s.setVm vm0) hZ w1) (mvT (s := s.setVm vm0) hZ w2) hnf (mvT (s := s.setVm vm0) hZ w3) (mvT (s := s.setVm vm0) hZ w4) hy (backOfSH (s := s) (W := (rest.map fun v => v.category).sum) (hM []) hZ w6 w5 hf hl hEL H) qa qc (g := mkF m pc Ls st) rfl hml (Steps.refl _) (argsL := argsL) (rest := rest) hlen hst (by show 2 * 0 + _ ≤ _; omega) hd (fun _ _ => ⟨rfl, eT, hc, hs⟩)
  dsimp only [Pt.U, Pt.locs, Pt.cells, Pt.slots] at X' e1 e2 e3 stp hQ hS' hle hC
  subst e1 e2 e3
  have hS2 := hS.trans hS' (Nat.le_trans hk (by rw [← eT]; exact hle))
  have hW : Z.Warmed39 T'.vm := State.Warmed39.trans (t := s.setVm vm0) hZ hS'.1
  have hf' : T'.vm.findClass own = some m.cls := by rw [hS'.1.alike.findClass]; exact hown
  exact goS stp (k v T' _ Lc _ X' rfl hS2 (Nat.le_refl _) hW hf' hC hQ)
theorem cFaceW {own K : String} {index count : Nat} {y z : MethodName} {bytes : ByteArray} {maxL : Nat} {ret : Option FieldType} {rm : Room} {Q' : Option Value → Heap → List Loc → Prop} {pc : Nat} {Ls : Array Slot} {st : List Value}
    (X : Stand p l e R (s.setVm vm0) m args below meth c T locs cells slots) (hx : p.tables.exec = Jvm.exec) (hZ : Z.Warmed39 vm0) (hown : vm0.findClass own = some m.cls) (hml : Ls.size = c.maxLocals) (eT : T.heap = h) (hEL : EW Z a0 EL) (hS : s.Since vm0 k0) (hk : k0 ≤ h.size) (H : CHv Z EL vm0 h)
    (w1 : (Cond.methodLink own index y).before a0 Z = true) (w2 : (Cond.declares y).before a0 Z = true) (wf : (Cond.interfaceMethod y.cls y.cls y.name y.desc).before args (s.setVm vm0) = true) (w3 : (Cond.selects K y z).before a0 Z = true) (w4 : (Cond.instanceMethod z).before a0 Z = true) (wp : (Cond.publicMethod z).before a0 Z = true) (wu : (Cond.unhidden K y.name y.desc).before args (s.setVm vm0) = true) (wc : (Cond.castable K y.cls).before a0 Z = true) (w5 : (Cond.initialized z.cls).before a0 Z = true) (w6 : (Cond.code z bytes maxL ret).before a0 Z = true)
    (a : Addr) (E : Exa Z h a K) (argsL rest : List Value) {as' : Array Value} (has : (.ref a :: argsL).toArray = as') (hM : ConW l z bytes maxL ret rm Z EL as' h Q') (hd : decode c.code pc = .ok (.invokeinterface index count, 5)) (hst : st = argsL.reverse ++ .ref a :: rest)
    (hlen : ∀ sig, parseMethodDescriptor y.desc = some sig → argsL.length = sig.parameters.length) (hy : y.cls ≠ "java/lang/invoke/MethodHandle" ∧ y.cls ≠ "java/lang/invoke/VarHandle")
    (hf : rm.frames + 1 ≤ R.frames) (hl : (rest.map fun v => v.category).sum + (maxL + 11) + rm.locals ≤ R.locals) (hc : cells + rm.cells ≤ R.cells) (hs : slots + rm.slots ≤ R.slots)
    (k : ∀ v T' h' L k1, Stand p l e R (s.setVm T'.vm) m args below meth c T' (locs ++ L) (cells + rm.cells) (slots + rm.slots) → T'.heap = h' → s.Since T'.vm k1 → k1 ≤ h'.size → Z.Warmed39 T'.vm → T'.vm.findClass own = some m.cls → CHr Z EL vm0 h T'.vm h' → Q' v h' L → Ends p e below P T' (mkF m (pc + 5) Ls (v.toList ++ rest))) :
    Ends p e below P T (mkF m pc Ls st) := by
  subst has
  obtain ⟨cq, kq, qa, qb, qc⟩ := isOf (s := s.setVm vm0) hZ eT E
  obtain ⟨v, vm1, ⟨T', L', k', n'⟩, -, X', hS', hle, ⟨Lc, hQ, e1, e2, e3, hC⟩, stp⟩ := Jvm.Stand.interfaceBackS X hx (xi := y) (y := z) hown (mvT (s := s.setVm vm0) hZ w1) (mvT (s := s.setVm vm0) hZ w2) wf (mvT (s := s.setVm vm0) hZ w3) (mvT (s := s.setVm vm0) hZ w4) (mvT (s := s.setVm vm0) hZ wp) wu (mvT (s := s.setVm vm0) hZ wc) hy (backOfSH (s := s) (W := (rest.map fun v => v.category).sum) (hM []) hZ w6 w5 hf hl hEL H) qa qb qc (g := mkF m pc Ls st) rfl hml (Steps.refl _) (argsL := argsL) (rest := rest) hlen hst (by show 2 * 0 + _ ≤ _; omega) hd (fun _ _ => ⟨rfl, eT, hc, hs⟩)
  dsimp only [Pt.U, Pt.locs, Pt.cells, Pt.slots] at X' e1 e2 e3 stp hQ hS' hle hC
  subst e1 e2 e3
  have hS2 := hS.trans hS' (Nat.le_trans hk (by rw [← eT]; exact hle))
  have hW : Z.Warmed39 T'.vm := State.Warmed39.trans (t := s.setVm vm0) hZ hS'.1
  have hf' : T'.vm.findClass own = some m.cls := by rw [hS'.1.alike.findClass]; exact hown
  exact goS stp (k v T' _ Lc _ X' rfl hS2 (Nat.le_refl _) hW hf' hC hQ)
end OwnW
theorem own_sfnull {Z : State} {EL : List (String × Nat)} {vm : Vm} {h : Heap} {x : Addr} (hal : Z.vm.Alike vm) (E : Exa Z h x "java/lang/String") (F : Fld Z h x "java/lang/String" "value" "[B" .null) : Safe Z EL vm h x := fun B => by
  obtain ⟨cell, k, e1, e2, e3, -, -⟩ := E
  obtain ⟨p, -, u, a, -, q, -, G, rfl | rfl⟩ := B
  · obtain ⟨cell', cf, kf, i, f, f1, f2, f3, f4, f5, f6, f7⟩ := F
    obtain ⟨cS, ⟨⟨s1, -, -, ⟨c, kc, ic, g1, -⟩, -, -, -, s8, -⟩, -, -⟩, -⟩ := G
    obtain ⟨c2, k2, i2, g2⟩ := Jvm.Free.BdW.found_ride (U := Wst Z vm h) (U' := Z) (show (Wst Z vm h).vm.Alike Z.vm from hal.symm) ⟨c, kc, ic, g1⟩
    have q1 := f2.symm.trans g2
    simp only [Option.some.injEq, Prod.mk.injEq] at q1
    obtain ⟨-, -, -, rfl⟩ := q1
    cases (show h[q.sa]? = some q.sC from s1).symm.trans f1
    rw [s8] at f7
    cases f7
  · cases (show h[q.sd]? = some q.SA from G.hd).symm.trans e1
    obtain ⟨cS, -, -, f, -⟩ := G
    have f : vm.findClass "[B" = some q.SA.cls := f
    rw [hal.findClass] at f
    obtain ⟨k1, q1, q2⟩ := Vm.findClass_spec f
    obtain ⟨k2, q3, q4⟩ := Vm.findClass_spec e2
    cases q1.symm.trans q3
    exact absurd (q2.symm.trans q4) (by decide)
theorem pn_0 : plainName "java/lang/String" = true := by first | (simp [plainName, overriddenIn]; done) | decide +kernel
theorem d0_0 : decode jdk_42_method_149_code 0 = .ok (.aload_n 0, 1) := by decide +kernel
theorem d0_1 : decode jdk_42_method_149_code 1 = .ok (.invokespecial 1, 3) := by decide +kernel
theorem d0_4 : decode jdk_42_method_149_code 4 = .ok (.iload_n 3, 1) := by decide +kernel
theorem d0_5 : decode jdk_42_method_149_code 5 = .ok (.ifCond .ne 22, 3) := by decide +kernel
theorem d0_8 : decode jdk_42_method_149_code 8 = .ok (.aload_n 0, 1) := by decide +kernel
theorem d0_9 : decode jdk_42_method_149_code 9 = .ok (.ldc 7, 2) := by decide +kernel
theorem d0_11 : decode jdk_42_method_149_code 11 = .ok (.getfield 9, 3) := by decide +kernel
theorem d0_14 : decode jdk_42_method_149_code 14 = .ok (.putfield 9, 3) := by decide +kernel
theorem d0_17 : decode jdk_42_method_149_code 17 = .ok (.aload_n 0, 1) := by decide +kernel
theorem d0_18 : decode jdk_42_method_149_code 18 = .ok (.ldc 7, 2) := by decide +kernel
theorem d0_20 : decode jdk_42_method_149_code 20 = .ok (.getfield 15, 3) := by decide +kernel
theorem d0_23 : decode jdk_42_method_149_code 23 = .ok (.putfield 15, 3) := by decide +kernel
theorem d0_26 : decode jdk_42_method_149_code 26 = .ok (.return_, 1) := by decide +kernel
theorem d1_0 : decode jdk_42_method_3_code 0 = .ok (.aload_n 0, 1) := by decide +kernel
theorem d1_1 : decode jdk_42_method_3_code 1 = .ok (.aload_n 1, 1) := by decide +kernel
theorem d1_2 : decode jdk_42_method_3_code 2 = .ok (.iconst 0, 1) := by decide +kernel
theorem d1_3 : decode jdk_42_method_3_code 3 = .ok (.aload_n 1, 1) := by decide +kernel
theorem d1_4 : decode jdk_42_method_3_code 4 = .ok (.arraylength, 1) := by decide +kernel
theorem d1_5 : decode jdk_42_method_3_code 5 = .ok (.aconst_null, 1) := by decide +kernel
theorem d1_6 : decode jdk_42_method_3_code 6 = .ok (.invokespecial 27, 3) := by decide +kernel
theorem pd_1 : parseMethodDescriptor "([CIILjava/lang/Void;)V" = some ⟨[(.array .char), .int, .int, (.object "java/lang/Void")], none⟩ := by decide +kernel
theorem d1_9 : decode jdk_42_method_3_code 9 = .ok (.return_, 1) := by decide +kernel
theorem pn_2 : plainName "java/lang/StringUTF16" = true := by first | (simp [plainName, overriddenIn]; done) | decide +kernel
theorem d2_0 : decode jdk_52_method_21_code 0 = .ok (.iconst 0, 1) := by decide +kernel
theorem d2_1 : decode jdk_52_method_21_code 1 = .ok (.istore 5, 2) := by decide +kernel
theorem d2_3 : decode jdk_52_method_21_code 3 = .ok (.iload 5, 2) := by decide +kernel
theorem d2_5 : decode jdk_52_method_21_code 5 = .ok (.iload 4, 2) := by decide +kernel
theorem d2_7 : decode jdk_52_method_21_code 7 = .ok (.if_icmp .ge 37, 3) := by decide +kernel
theorem d2_10 : decode jdk_52_method_21_code 10 = .ok (.aload_n 0, 1) := by decide +kernel
theorem d2_11 : decode jdk_52_method_21_code 11 = .ok (.iload_n 1, 1) := by decide +kernel
theorem d2_12 : decode jdk_52_method_21_code 12 = .ok (.caload, 1) := by decide +kernel
theorem d2_13 : decode jdk_52_method_21_code 13 = .ok (.istore 6, 2) := by decide +kernel
theorem d2_15 : decode jdk_52_method_21_code 15 = .ok (.iload 6, 2) := by decide +kernel
theorem d2_17 : decode jdk_52_method_21_code 17 = .ok (.sipush 255, 3) := by decide +kernel
theorem d2_20 : decode jdk_52_method_21_code 20 = .ok (.if_icmp .le 6, 3) := by decide +kernel
theorem d2_26 : decode jdk_52_method_21_code 26 = .ok (.aload_n 2, 1) := by decide +kernel
theorem d2_27 : decode jdk_52_method_21_code 27 = .ok (.iload_n 3, 1) := by decide +kernel
theorem d2_28 : decode jdk_52_method_21_code 28 = .ok (.iload 6, 2) := by decide +kernel
theorem d2_30 : decode jdk_52_method_21_code 30 = .ok (.i2b, 1) := by decide +kernel
theorem d2_31 : decode jdk_52_method_21_code 31 = .ok (.bastore, 1) := by decide +kernel
theorem d2_32 : decode jdk_52_method_21_code 32 = .ok (.iinc 1 1, 3) := by decide +kernel
theorem d2_35 : decode jdk_52_method_21_code 35 = .ok (.iinc 3 1, 3) := by decide +kernel
theorem d2_38 : decode jdk_52_method_21_code 38 = .ok (.iinc 5 1, 3) := by decide +kernel
theorem d2_41 : decode jdk_52_method_21_code 41 = .ok (.goto (-38), 3) := by decide +kernel
theorem d2_44 : decode jdk_52_method_21_code 44 = .ok (.iload 4, 2) := by decide +kernel
theorem d2_46 : decode jdk_52_method_21_code 46 = .ok (.ireturn, 1) := by decide +kernel
theorem d3_0 : decode jdk_52_method_16_code 0 = .ok (.iload_n 2, 1) := by decide +kernel
theorem d3_1 : decode jdk_52_method_16_code 1 = .ok (.newarray .byte, 2) := by decide +kernel
theorem d3_3 : decode jdk_52_method_16_code 3 = .ok (.astore_n 3, 1) := by decide +kernel
theorem d3_4 : decode jdk_52_method_16_code 4 = .ok (.aload_n 0, 1) := by decide +kernel
theorem d3_5 : decode jdk_52_method_16_code 5 = .ok (.iload_n 1, 1) := by decide +kernel
theorem d3_6 : decode jdk_52_method_16_code 6 = .ok (.aload_n 3, 1) := by decide +kernel
theorem d3_7 : decode jdk_52_method_16_code 7 = .ok (.iconst 0, 1) := by decide +kernel
theorem d3_8 : decode jdk_52_method_16_code 8 = .ok (.iload_n 2, 1) := by decide +kernel
theorem d3_9 : decode jdk_52_method_16_code 9 = .ok (.invokestatic 115, 3) := by decide +kernel
theorem pd_3 : parseMethodDescriptor "([CI[BII)I" = some ⟨[(.array .char), .int, (.array .byte), .int, .int], some .int⟩ := by decide +kernel
theorem d3_12 : decode jdk_52_method_16_code 12 = .ok (.istore 4, 2) := by decide +kernel
theorem d3_14 : decode jdk_52_method_16_code 14 = .ok (.iload 4, 2) := by decide +kernel
theorem d3_16 : decode jdk_52_method_16_code 16 = .ok (.iload_n 2, 1) := by decide +kernel
theorem d3_17 : decode jdk_52_method_16_code 17 = .ok (.if_icmp .eq 40, 3) := by decide +kernel
theorem d3_57 : decode jdk_52_method_16_code 57 = .ok (.aload_n 3, 1) := by decide +kernel
theorem d3_58 : decode jdk_52_method_16_code 58 = .ok (.areturn, 1) := by decide +kernel
theorem d4_0 : decode jdk_52_method_15_code 0 = .ok (.iload_n 1, 1) := by decide +kernel
theorem d4_1 : decode jdk_52_method_15_code 1 = .ok (.aload_n 0, 1) := by decide +kernel
theorem d4_2 : decode jdk_52_method_15_code 2 = .ok (.arraylength, 1) := by decide +kernel
theorem d4_3 : decode jdk_52_method_15_code 3 = .ok (.isub, 1) := by decide +kernel
theorem d4_4 : decode jdk_52_method_15_code 4 = .ok (.bipush 31, 2) := by decide +kernel
theorem d4_6 : decode jdk_52_method_15_code 6 = .ok (.iushr, 1) := by decide +kernel
theorem d4_7 : decode jdk_52_method_15_code 7 = .ok (.i2b, 1) := by decide +kernel
theorem d4_8 : decode jdk_52_method_15_code 8 = .ok (.ireturn, 1) := by decide +kernel
theorem d0_27 : decode jdk_42_method_149_code 27 = .ok (.getstatic 38, 3) := by decide +kernel
theorem d0_30 : decode jdk_42_method_149_code 30 = .ok (.ifCond .eq 28, 3) := by decide +kernel
theorem d0_33 : decode jdk_42_method_149_code 33 = .ok (.aload_n 1, 1) := by decide +kernel
theorem d0_34 : decode jdk_42_method_149_code 34 = .ok (.iload_n 2, 1) := by decide +kernel
theorem d0_35 : decode jdk_42_method_149_code 35 = .ok (.iload_n 3, 1) := by decide +kernel
theorem d0_36 : decode jdk_42_method_149_code 36 = .ok (.invokestatic 177, 3) := by decide +kernel
theorem pd_4 : parseMethodDescriptor "([CII)[B" = some ⟨[(.array .char), .int, .int], some (.array .byte)⟩ := by decide +kernel
theorem d0_39 : decode jdk_42_method_149_code 39 = .ok (.astore 5, 2) := by decide +kernel
theorem d0_41 : decode jdk_42_method_149_code 41 = .ok (.aload_n 0, 1) := by decide +kernel
theorem d0_42 : decode jdk_42_method_149_code 42 = .ok (.aload 5, 2) := by decide +kernel
theorem d0_44 : decode jdk_42_method_149_code 44 = .ok (.iload_n 3, 1) := by decide +kernel
theorem d0_45 : decode jdk_42_method_149_code 45 = .ok (.invokestatic 47, 3) := by decide +kernel
theorem pd_5 : parseMethodDescriptor "([BI)B" = some ⟨[(.array .byte), .int], some .byte⟩ := by decide +kernel
theorem d0_48 : decode jdk_42_method_149_code 48 = .ok (.putfield 15, 3) := by decide +kernel
theorem d0_51 : decode jdk_42_method_149_code 51 = .ok (.aload_n 0, 1) := by decide +kernel
theorem d0_52 : decode jdk_42_method_149_code 52 = .ok (.aload 5, 2) := by decide +kernel
theorem d0_54 : decode jdk_42_method_149_code 54 = .ok (.putfield 9, 3) := by decide +kernel
theorem d0_57 : decode jdk_42_method_149_code 57 = .ok (.return_, 1) := by decide +kernel
theorem pn_6 : plainName "java/lang/StringLatin1" = true := by first | (simp [plainName, overriddenIn]; done) | decide +kernel
theorem d5_0 : decode jdk_43_method_3_code 0 = .ok (.iload_n 0, 1) := by decide +kernel
theorem d5_1 : decode jdk_43_method_3_code 1 = .ok (.sipush 255, 3) := by decide +kernel
theorem d5_4 : decode jdk_43_method_3_code 4 = .ok (.if_icmp .gt 7, 3) := by decide +kernel
theorem d5_7 : decode jdk_43_method_3_code 7 = .ok (.iconst 1, 1) := by decide +kernel
theorem d5_8 : decode jdk_43_method_3_code 8 = .ok (.goto 4, 3) := by decide +kernel
theorem d5_12 : decode jdk_43_method_3_code 12 = .ok (.ireturn, 1) := by decide +kernel
theorem d6_0 : decode jdk_43_method_46_code 0 = .ok (.iconst 1, 1) := by decide +kernel
theorem d6_1 : decode jdk_43_method_46_code 1 = .ok (.newarray .byte, 2) := by decide +kernel
theorem d6_3 : decode jdk_43_method_46_code 3 = .ok (.dup, 1) := by decide +kernel
theorem d6_4 : decode jdk_43_method_46_code 4 = .ok (.iconst 0, 1) := by decide +kernel
theorem d6_5 : decode jdk_43_method_46_code 5 = .ok (.iload_n 0, 1) := by decide +kernel
theorem d6_6 : decode jdk_43_method_46_code 6 = .ok (.i2b, 1) := by decide +kernel
theorem d6_7 : decode jdk_43_method_46_code 7 = .ok (.bastore, 1) := by decide +kernel
theorem d6_8 : decode jdk_43_method_46_code 8 = .ok (.areturn, 1) := by decide +kernel
theorem d7_0 : decode jdk_42_method_151_code 0 = .ok (.aload_n 0, 1) := by decide +kernel
theorem d7_1 : decode jdk_42_method_151_code 1 = .ok (.invokespecial 1, 3) := by decide +kernel
theorem d7_4 : decode jdk_42_method_151_code 4 = .ok (.aload_n 0, 1) := by decide +kernel
theorem d7_5 : decode jdk_42_method_151_code 5 = .ok (.aload_n 1, 1) := by decide +kernel
theorem d7_6 : decode jdk_42_method_151_code 6 = .ok (.putfield 9, 3) := by decide +kernel
theorem d7_9 : decode jdk_42_method_151_code 9 = .ok (.aload_n 0, 1) := by decide +kernel
theorem d7_10 : decode jdk_42_method_151_code 10 = .ok (.iload_n 2, 1) := by decide +kernel
theorem d7_11 : decode jdk_42_method_151_code 11 = .ok (.putfield 15, 3) := by decide +kernel
theorem d7_14 : decode jdk_42_method_151_code 14 = .ok (.return_, 1) := by decide +kernel
theorem d8_0 : decode jdk_42_method_139_code 0 = .ok (.getstatic 38, 3) := by decide +kernel
theorem d8_3 : decode jdk_42_method_139_code 3 = .ok (.ifCond .eq 23, 3) := by decide +kernel
theorem d8_6 : decode jdk_42_method_139_code 6 = .ok (.iload_n 0, 1) := by decide +kernel
theorem d8_7 : decode jdk_42_method_139_code 7 = .ok (.invokestatic 1015, 3) := by decide +kernel
theorem pd_7 : parseMethodDescriptor "(C)Z" = some ⟨[.char], some .boolean⟩ := by decide +kernel
theorem d8_10 : decode jdk_42_method_139_code 10 = .ok (.ifCond .eq 16, 3) := by decide +kernel
theorem d8_13 : decode jdk_42_method_139_code 13 = .ok (.new 10, 3) := by decide +kernel
theorem d8_16 : decode jdk_42_method_139_code 16 = .ok (.dup, 1) := by decide +kernel
theorem d8_17 : decode jdk_42_method_139_code 17 = .ok (.iload_n 0, 1) := by decide +kernel
theorem d8_18 : decode jdk_42_method_139_code 18 = .ok (.invokestatic 1018, 3) := by decide +kernel
theorem pd_8 : parseMethodDescriptor "(C)[B" = some ⟨[.char], some (.array .byte)⟩ := by decide +kernel
theorem d8_21 : decode jdk_42_method_139_code 21 = .ok (.iconst 0, 1) := by decide +kernel
theorem d8_22 : decode jdk_42_method_139_code 22 = .ok (.invokespecial 209, 3) := by decide +kernel
theorem pd_9 : parseMethodDescriptor "([BB)V" = some ⟨[(.array .byte), .byte], none⟩ := by decide +kernel
theorem d8_25 : decode jdk_42_method_139_code 25 = .ok (.areturn, 1) := by decide +kernel
theorem d9_0 : decode jdk_42_method_152_code 0 = .ok (.getstatic 38, 3) := by decide +kernel
theorem d9_3 : decode jdk_42_method_152_code 3 = .ok (.ifCond .eq 10, 3) := by decide +kernel
theorem d9_6 : decode jdk_42_method_152_code 6 = .ok (.aload_n 0, 1) := by decide +kernel
theorem d9_7 : decode jdk_42_method_152_code 7 = .ok (.getfield 15, 3) := by decide +kernel
theorem d9_10 : decode jdk_42_method_152_code 10 = .ok (.goto 4, 3) := by decide +kernel
theorem d9_14 : decode jdk_42_method_152_code 14 = .ok (.ireturn, 1) := by decide +kernel
theorem d10_0 : decode jdk_42_method_154_code 0 = .ok (.getstatic 38, 3) := by decide +kernel
theorem d10_3 : decode jdk_42_method_154_code 3 = .ok (.ifCond .eq 14, 3) := by decide +kernel
theorem d10_6 : decode jdk_42_method_154_code 6 = .ok (.aload_n 0, 1) := by decide +kernel
theorem d10_7 : decode jdk_42_method_154_code 7 = .ok (.getfield 15, 3) := by decide +kernel
theorem d10_10 : decode jdk_42_method_154_code 10 = .ok (.ifCond .ne 7, 3) := by decide +kernel
theorem d10_13 : decode jdk_42_method_154_code 13 = .ok (.iconst 1, 1) := by decide +kernel
theorem d10_14 : decode jdk_42_method_154_code 14 = .ok (.goto 4, 3) := by decide +kernel
theorem d10_18 : decode jdk_42_method_154_code 18 = .ok (.ireturn, 1) := by decide +kernel
theorem d11_0 : decode jdk_42_method_54_code 0 = .ok (.aload_n 0, 1) := by decide +kernel
theorem d11_1 : decode jdk_42_method_54_code 1 = .ok (.getfield 9, 3) := by decide +kernel
theorem d11_4 : decode jdk_42_method_54_code 4 = .ok (.arraylength, 1) := by decide +kernel
theorem d11_5 : decode jdk_42_method_54_code 5 = .ok (.aload_n 0, 1) := by decide +kernel
theorem d11_6 : decode jdk_42_method_54_code 6 = .ok (.invokevirtual 335, 3) := by decide +kernel
theorem pd_10 : parseMethodDescriptor "()B" = some ⟨[], some .byte⟩ := by decide +kernel
theorem d11_9 : decode jdk_42_method_54_code 9 = .ok (.ishr, 1) := by decide +kernel
theorem d11_10 : decode jdk_42_method_54_code 10 = .ok (.ireturn, 1) := by decide +kernel
theorem pn_11 : plainName "jdk/internal/util/Preconditions" = true := by first | (simp [plainName, overriddenIn]; done) | decide +kernel
theorem d12_0 : decode jdk_41_method_12_code 0 = .ok (.iload_n 0, 1) := by decide +kernel
theorem d12_1 : decode jdk_41_method_12_code 1 = .ok (.ifCond .lt 13, 3) := by decide +kernel
theorem d12_4 : decode jdk_41_method_12_code 4 = .ok (.iload_n 0, 1) := by decide +kernel
theorem d12_5 : decode jdk_41_method_12_code 5 = .ok (.iload_n 1, 1) := by decide +kernel
theorem d12_6 : decode jdk_41_method_12_code 6 = .ok (.if_icmp .gt 8, 3) := by decide +kernel
theorem d12_9 : decode jdk_41_method_12_code 9 = .ok (.iload_n 1, 1) := by decide +kernel
theorem d12_10 : decode jdk_41_method_12_code 10 = .ok (.iload_n 2, 1) := by decide +kernel
theorem d12_11 : decode jdk_41_method_12_code 11 = .ok (.if_icmp .le 11, 3) := by decide +kernel
theorem d12_22 : decode jdk_41_method_12_code 22 = .ok (.iload_n 0, 1) := by decide +kernel
theorem d12_23 : decode jdk_41_method_12_code 23 = .ok (.ireturn, 1) := by decide +kernel
theorem pn_12 : plainName "java/util/Objects" = true := by first | (simp [plainName, overriddenIn]; done) | decide +kernel
theorem d13_0 : decode jdk_31_method_18_code 0 = .ok (.iload_n 0, 1) := by decide +kernel
theorem d13_1 : decode jdk_31_method_18_code 1 = .ok (.iload_n 1, 1) := by decide +kernel
theorem d13_2 : decode jdk_31_method_18_code 2 = .ok (.iload_n 2, 1) := by decide +kernel
theorem d13_3 : decode jdk_31_method_18_code 3 = .ok (.aconst_null, 1) := by decide +kernel
theorem d13_4 : decode jdk_31_method_18_code 4 = .ok (.invokestatic 111, 3) := by decide +kernel
theorem pd_13 : parseMethodDescriptor "(IIILjava/util/function/BiFunction;)I" = some ⟨[.int, .int, .int, (.object "java/util/function/BiFunction")], some .int⟩ := by decide +kernel
theorem d13_7 : decode jdk_31_method_18_code 7 = .ok (.ireturn, 1) := by decide +kernel
theorem d14_0 : decode jdk_42_method_59_code 0 = .ok (.iload_n 1, 1) := by decide +kernel
theorem d14_1 : decode jdk_42_method_59_code 1 = .ok (.iload_n 2, 1) := by decide +kernel
theorem d14_2 : decode jdk_42_method_59_code 2 = .ok (.aload_n 0, 1) := by decide +kernel
theorem d14_3 : decode jdk_42_method_59_code 3 = .ok (.invokevirtual 505, 3) := by decide +kernel
theorem pd_14 : parseMethodDescriptor "()I" = some ⟨[], some .int⟩ := by decide +kernel
theorem d14_6 : decode jdk_42_method_59_code 6 = .ok (.invokestatic 511, 3) := by decide +kernel
theorem pd_15 : parseMethodDescriptor "(III)I" = some ⟨[.int, .int, .int], some .int⟩ := by decide +kernel
theorem d14_9 : decode jdk_42_method_59_code 9 = .ok (.pop, 1) := by decide +kernel
theorem d14_10 : decode jdk_42_method_59_code 10 = .ok (.aload_n 0, 1) := by decide +kernel
theorem d14_11 : decode jdk_42_method_59_code 11 = .ok (.invokevirtual 492, 3) := by decide +kernel
theorem pd_16 : parseMethodDescriptor "()Z" = some ⟨[], some .boolean⟩ := by decide +kernel
theorem d14_14 : decode jdk_42_method_59_code 14 = .ok (.ifCond .eq 7, 3) := by decide +kernel
theorem d14_17 : decode jdk_42_method_59_code 17 = .ok (.iload_n 2, 1) := by decide +kernel
theorem d14_18 : decode jdk_42_method_59_code 18 = .ok (.iload_n 1, 1) := by decide +kernel
theorem d14_19 : decode jdk_42_method_59_code 19 = .ok (.isub, 1) := by decide +kernel
theorem d14_20 : decode jdk_42_method_59_code 20 = .ok (.ireturn, 1) := by decide +kernel
theorem pn_17 : plainName "java/lang/Record" = true := by first | (simp [plainName, overriddenIn]; done) | decide +kernel
theorem d15_0 : decode jdk_30_method_1_code 0 = .ok (.aload_n 0, 1) := by decide +kernel
theorem d15_1 : decode jdk_30_method_1_code 1 = .ok (.invokespecial 1, 3) := by decide +kernel
theorem d15_4 : decode jdk_30_method_1_code 4 = .ok (.return_, 1) := by decide +kernel
theorem pn_18 : plainName "com/example/scopa/scopa/audit/Attribution" = true := by first | (simp [plainName, overriddenIn]; done) | decide +kernel
theorem d16_0 : decode prog_1_method_1_code 0 = .ok (.aload_n 0, 1) := by decide +kernel
theorem d16_1 : decode prog_1_method_1_code 1 = .ok (.invokespecial 1, 3) := by decide +kernel
theorem pd_19 : parseMethodDescriptor "()V" = some ⟨[], none⟩ := by decide +kernel
theorem d16_4 : decode prog_1_method_1_code 4 = .ok (.aload_n 1, 1) := by decide +kernel
theorem d16_5 : decode prog_1_method_1_code 5 = .ok (.ifnull 56, 3) := by decide +kernel
theorem d16_61 : decode prog_1_method_1_code 61 = .ok (.aload_n 0, 1) := by decide +kernel
theorem d16_62 : decode prog_1_method_1_code 62 = .ok (.aload_n 1, 1) := by decide +kernel
theorem d16_63 : decode prog_1_method_1_code 63 = .ok (.putfield 38, 3) := by decide +kernel
theorem d16_66 : decode prog_1_method_1_code 66 = .ok (.aload_n 0, 1) := by decide +kernel
theorem d16_67 : decode prog_1_method_1_code 67 = .ok (.aload_n 2, 1) := by decide +kernel
theorem d16_68 : decode prog_1_method_1_code 68 = .ok (.putfield 42, 3) := by decide +kernel
theorem d16_71 : decode prog_1_method_1_code 71 = .ok (.aload_n 0, 1) := by decide +kernel
theorem d16_72 : decode prog_1_method_1_code 72 = .ok (.aload_n 3, 1) := by decide +kernel
theorem d16_73 : decode prog_1_method_1_code 73 = .ok (.putfield 45, 3) := by decide +kernel
theorem d16_76 : decode prog_1_method_1_code 76 = .ok (.return_, 1) := by decide +kernel
theorem d16_8 : decode prog_1_method_1_code 8 = .ok (.aload_n 1, 1) := by decide +kernel
theorem d16_9 : decode prog_1_method_1_code 9 = .ok (.iconst 0, 1) := by decide +kernel
theorem d16_10 : decode prog_1_method_1_code 10 = .ok (.aload_n 1, 1) := by decide +kernel
theorem d16_11 : decode prog_1_method_1_code 11 = .ok (.invokevirtual 7, 3) := by decide +kernel
theorem d16_14 : decode prog_1_method_1_code 14 = .ok (.invokevirtual 13, 3) := by decide +kernel
theorem pd_20 : parseMethodDescriptor "(II)I" = some ⟨[.int, .int], some .int⟩ := by decide +kernel
theorem d16_17 : decode prog_1_method_1_code 17 = .ok (.istore 4, 2) := by decide +kernel
theorem d16_19 : decode prog_1_method_1_code 19 = .ok (.iload 4, 2) := by decide +kernel
theorem d16_21 : decode prog_1_method_1_code 21 = .ok (.sipush 1000, 3) := by decide +kernel
theorem d16_24 : decode prog_1_method_1_code 24 = .ok (.if_icmp .le 37, 3) := by decide +kernel
theorem d17_0 : decode prog_1_method_2_code 0 = .ok (.aload_n 0, 1) := by decide +kernel
theorem d17_1 : decode prog_1_method_2_code 1 = .ok (.getfield 38, 3) := by decide +kernel
theorem d17_4 : decode prog_1_method_2_code 4 = .ok (.ifnonnull 21, 3) := by decide +kernel
theorem d17_7 : decode prog_1_method_2_code 7 = .ok (.aload_n 0, 1) := by decide +kernel
theorem d17_8 : decode prog_1_method_2_code 8 = .ok (.getfield 42, 3) := by decide +kernel
theorem d17_11 : decode prog_1_method_2_code 11 = .ok (.ifnonnull 14, 3) := by decide +kernel
theorem d17_14 : decode prog_1_method_2_code 14 = .ok (.aload_n 0, 1) := by decide +kernel
theorem d17_15 : decode prog_1_method_2_code 15 = .ok (.getfield 45, 3) := by decide +kernel
theorem d17_18 : decode prog_1_method_2_code 18 = .ok (.ifnonnull 7, 3) := by decide +kernel
theorem d17_21 : decode prog_1_method_2_code 21 = .ok (.iconst 1, 1) := by decide +kernel
theorem d17_22 : decode prog_1_method_2_code 22 = .ok (.goto 4, 3) := by decide +kernel
theorem d17_26 : decode prog_1_method_2_code 26 = .ok (.ireturn, 1) := by decide +kernel
theorem d17_25 : decode prog_1_method_2_code 25 = .ok (.iconst 0, 1) := by decide +kernel
theorem pn_21 : plainName "com/example/scopa/scopa/audit/AttributionIsEmptyPinLaw" = true := by first | (simp [plainName, overriddenIn]; done) | decide +kernel
theorem d18_0 : decode method_2_code 0 = .ok (.iload_n 0, 1) := by decide +kernel
theorem d18_1 : decode method_2_code 1 = .ok (.iconst 1, 1) := by decide +kernel
theorem d18_2 : decode method_2_code 2 = .ok (.iand, 1) := by decide +kernel
theorem d18_3 : decode method_2_code 3 = .ok (.ifCond .ne 5, 3) := by decide +kernel
theorem d18_6 : decode method_2_code 6 = .ok (.aconst_null, 1) := by decide +kernel
theorem d18_7 : decode method_2_code 7 = .ok (.areturn, 1) := by decide +kernel
theorem d18_8 : decode method_2_code 8 = .ok (.iload_n 0, 1) := by decide +kernel
theorem d18_9 : decode method_2_code 9 = .ok (.iconst 1, 1) := by decide +kernel
theorem d18_10 : decode method_2_code 10 = .ok (.iushr, 1) := by decide +kernel
theorem d18_11 : decode method_2_code 11 = .ok (.iconst 3, 1) := by decide +kernel
theorem d18_12 : decode method_2_code 12 = .ok (.iand, 1) := by decide +kernel
theorem d18_13 : decode method_2_code 13 = .ok (.istore_n 2, 1) := by decide +kernel
theorem d18_14 : decode method_2_code 14 = .ok (.iload_n 1, 1) := by decide +kernel
theorem d18_15 : decode method_2_code 15 = .ok (.sipush 255, 3) := by decide +kernel
theorem d18_18 : decode method_2_code 18 = .ok (.iand, 1) := by decide +kernel
theorem d18_19 : decode method_2_code 19 = .ok (.i2c, 1) := by decide +kernel
theorem d18_20 : decode method_2_code 20 = .ok (.istore_n 3, 1) := by decide +kernel
theorem d18_21 : decode method_2_code 21 = .ok (.iload_n 1, 1) := by decide +kernel
theorem d18_22 : decode method_2_code 22 = .ok (.bipush 8, 2) := by decide +kernel
theorem d18_24 : decode method_2_code 24 = .ok (.iushr, 1) := by decide +kernel
theorem d18_25 : decode method_2_code 25 = .ok (.sipush 255, 3) := by decide +kernel
theorem d18_28 : decode method_2_code 28 = .ok (.iand, 1) := by decide +kernel
theorem d18_29 : decode method_2_code 29 = .ok (.i2c, 1) := by decide +kernel
theorem d18_30 : decode method_2_code 30 = .ok (.istore 4, 2) := by decide +kernel
theorem d18_32 : decode method_2_code 32 = .ok (.iload_n 1, 1) := by decide +kernel
theorem d18_33 : decode method_2_code 33 = .ok (.bipush 16, 2) := by decide +kernel
theorem d18_35 : decode method_2_code 35 = .ok (.iushr, 1) := by decide +kernel
theorem d18_36 : decode method_2_code 36 = .ok (.sipush 255, 3) := by decide +kernel
theorem d18_39 : decode method_2_code 39 = .ok (.iand, 1) := by decide +kernel
theorem d18_40 : decode method_2_code 40 = .ok (.i2c, 1) := by decide +kernel
theorem d18_41 : decode method_2_code 41 = .ok (.istore 5, 2) := by decide +kernel
theorem d18_43 : decode method_2_code 43 = .ok (.iload_n 2, 1) := by decide +kernel
theorem d18_44 : decode method_2_code 44 = .ok (.ifCond .ne 14, 3) := by decide +kernel
theorem d18_47 : decode method_2_code 47 = .ok (.new 7, 3) := by decide +kernel
theorem d18_50 : decode method_2_code 50 = .ok (.dup, 1) := by decide +kernel
theorem d18_51 : decode method_2_code 51 = .ok (.iconst 0, 1) := by decide +kernel
theorem d18_52 : decode method_2_code 52 = .ok (.newarray .char, 2) := by decide +kernel
theorem d18_54 : decode method_2_code 54 = .ok (.invokespecial 9, 3) := by decide +kernel
theorem pd_22 : parseMethodDescriptor "([C)V" = some ⟨[(.array .char)], none⟩ := by decide +kernel
theorem d18_57 : decode method_2_code 57 = .ok (.areturn, 1) := by decide +kernel
theorem d18_58 : decode method_2_code 58 = .ok (.iload_n 2, 1) := by decide +kernel
theorem d18_59 : decode method_2_code 59 = .ok (.iconst 1, 1) := by decide +kernel
theorem d18_60 : decode method_2_code 60 = .ok (.if_icmp .ne 8, 3) := by decide +kernel
theorem d18_63 : decode method_2_code 63 = .ok (.iload_n 3, 1) := by decide +kernel
theorem d18_64 : decode method_2_code 64 = .ok (.invokestatic 12, 3) := by decide +kernel
theorem pd_23 : parseMethodDescriptor "(C)Ljava/lang/String;" = some ⟨[.char], some (.object "java/lang/String")⟩ := by decide +kernel
theorem d18_67 : decode method_2_code 67 = .ok (.areturn, 1) := by decide +kernel
theorem d18_68 : decode method_2_code 68 = .ok (.iload_n 2, 1) := by decide +kernel
theorem d18_69 : decode method_2_code 69 = .ok (.iconst 2, 1) := by decide +kernel
theorem d18_70 : decode method_2_code 70 = .ok (.if_icmp .ne 23, 3) := by decide +kernel
theorem d18_73 : decode method_2_code 73 = .ok (.new 7, 3) := by decide +kernel
theorem d18_76 : decode method_2_code 76 = .ok (.dup, 1) := by decide +kernel
theorem d18_77 : decode method_2_code 77 = .ok (.iconst 2, 1) := by decide +kernel
theorem d18_78 : decode method_2_code 78 = .ok (.newarray .char, 2) := by decide +kernel
theorem d18_80 : decode method_2_code 80 = .ok (.dup, 1) := by decide +kernel
theorem d18_81 : decode method_2_code 81 = .ok (.iconst 0, 1) := by decide +kernel
theorem d18_82 : decode method_2_code 82 = .ok (.iload_n 3, 1) := by decide +kernel
theorem d18_83 : decode method_2_code 83 = .ok (.castore, 1) := by decide +kernel
theorem d18_84 : decode method_2_code 84 = .ok (.dup, 1) := by decide +kernel
theorem d18_85 : decode method_2_code 85 = .ok (.iconst 1, 1) := by decide +kernel
theorem d18_86 : decode method_2_code 86 = .ok (.iload 4, 2) := by decide +kernel
theorem d18_88 : decode method_2_code 88 = .ok (.castore, 1) := by decide +kernel
theorem d18_89 : decode method_2_code 89 = .ok (.invokespecial 9, 3) := by decide +kernel
theorem d18_92 : decode method_2_code 92 = .ok (.areturn, 1) := by decide +kernel
theorem d18_93 : decode method_2_code 93 = .ok (.new 7, 3) := by decide +kernel
theorem d18_96 : decode method_2_code 96 = .ok (.dup, 1) := by decide +kernel
theorem d18_97 : decode method_2_code 97 = .ok (.iconst 3, 1) := by decide +kernel
theorem d18_98 : decode method_2_code 98 = .ok (.newarray .char, 2) := by decide +kernel
theorem d18_100 : decode method_2_code 100 = .ok (.dup, 1) := by decide +kernel
theorem d18_101 : decode method_2_code 101 = .ok (.iconst 0, 1) := by decide +kernel
theorem d18_102 : decode method_2_code 102 = .ok (.iload_n 3, 1) := by decide +kernel
theorem d18_103 : decode method_2_code 103 = .ok (.castore, 1) := by decide +kernel
theorem d18_104 : decode method_2_code 104 = .ok (.dup, 1) := by decide +kernel
theorem d18_105 : decode method_2_code 105 = .ok (.iconst 1, 1) := by decide +kernel
theorem d18_106 : decode method_2_code 106 = .ok (.iload 4, 2) := by decide +kernel
theorem d18_108 : decode method_2_code 108 = .ok (.castore, 1) := by decide +kernel
theorem d18_109 : decode method_2_code 109 = .ok (.dup, 1) := by decide +kernel
theorem d18_110 : decode method_2_code 110 = .ok (.iconst 2, 1) := by decide +kernel
theorem d18_111 : decode method_2_code 111 = .ok (.iload 5, 2) := by decide +kernel
theorem d18_113 : decode method_2_code 113 = .ok (.castore, 1) := by decide +kernel
theorem d18_114 : decode method_2_code 114 = .ok (.invokespecial 9, 3) := by decide +kernel
theorem d18_117 : decode method_2_code 117 = .ok (.areturn, 1) := by decide +kernel
theorem pd_24 : parseMethodDescriptor "(II)Ljava/lang/String;" = some ⟨[.int, .int], some (.object "java/lang/String")⟩ := by decide +kernel
theorem pd_25 : parseMethodDescriptor "(Ljava/lang/String;Ljava/lang/String;Ljava/lang/String;)V" = some ⟨[(.object "java/lang/String"), (.object "java/lang/String"), (.object "java/lang/String")], none⟩ := by decide +kernel
def own_EL : List (String × Nat) := [("java/lang/String", 7)]
theorem own_EW {Z : State} {a0 : Array Value} (hw : ∀ d ∈ tables_1, d.before a0 Z = true) : EW Z a0 own_EL := (EW.cons (hwi hw 41 rfl) (by decide) EW.nil)
theorem own_SA0 : ∀ d ∈ Jvm.Bundle.stringAtoms, d ∈ tables_1 := by decide +kernel
theorem own_SA {Z : State} {a0 : Array Value} (hw : ∀ d ∈ tables_1, d.before a0 Z = true) : ∀ d ∈ Jvm.Bundle.stringAtoms, d.before a0 Z = true := fun d hd => hw d (own_SA0 d hd)
theorem own_nsroot {Z : State} {a0 : Array Value} {O K : String} {n : Nat} (w : (Jvm.Cond.noSuperclass O).before a0 Z = true) (wk : (Jvm.Cond.instantiable K n).before a0 Z = true) (hn : O ≠ K) : NS Z O K := by
  obtain ⟨c, k, h1, h2, h3, -, -⟩ := Cond.noSuperclass_spec w
  obtain ⟨t, kt, g1, -⟩ := Cond.instantiable_spec wk
  have ne := ids_ne h1 g1 hn
  refine ⟨c, t, h1, g1, fun fuel => ?_⟩
  cases fuel with
  | zero => rfl
  | succ f => simp [Vm.isSubclassAux, ne, h2, h3]
theorem own_nsno {Z : State} {a0 : Array Value} {C S K : String} {n : Nat} (w : (Jvm.Cond.superclass C S).before a0 Z = true) (wk : (Jvm.Cond.instantiable K n).before a0 Z = true) (ns : NS Z C K) (hn : C ≠ K) : ∃ c t, Z.vm.findClass C = some c ∧ Z.vm.findClass K = some t ∧ Z.vm.assignable c t = false := by
  obtain ⟨c, t, h0, g0, n3⟩ := ns
  obtain ⟨p, k, kp, h1, h2, h3, h4, h5, -, h7⟩ := Cond.superclass_spec h0 w
  obtain ⟨t', kt, g1, g2, g3, g4, -⟩ := Cond.instantiable_spec wk
  cases g0.symm.trans g1
  have g5 : kt.isInterface = false := by
    cases hq : kt.isInterface with
    | false => rfl
    | true => rw [hq] at g4; simp at g4
  have ne := ids_ne h0 g0 hn
  refine ⟨c, t, h0, g0, ?_⟩
  show Z.vm.assignableAux (255 + 1) c t = false
  simp [Vm.assignableAux, ne, h2, g2, h5, g3, g5, Vm.isSubclass, n3]
theorem own_len {args : Array Value} {Z : State} {t : Term} {a : Addr} {cl : Cell} {ty : FieldType} {z : Int32} (ht : t.eval args Z none [] Z = some (.ref a)) (A : Arr Z Z.heap a cl ty) (e : (Term.length t).eval args Z none [] Z = some (.int z)) : cl.slots.size < 2 ^ 31 ∧ cl.slots.size.toInt32 = z := by
  have hA := A.fin (Vm.Alike.refl _)
  by_cases hn : cl.slots.size < 2 ^ 31
  · exact ⟨hn, Value.int.inj (Option.some.inj ((len_f ht hA hn).symm.trans e))⟩
  · exfalso
    simp [Term.eval, ht, hA, hn] at e
theorem own_idx {args : Array Value} {Z : State} {j : Int32} (hj : ¬ j < 0) : (Term.sub (.index 0) (.int 128)).eval args Z none [j.toNatClampNeg] Z = some (.int (j - 128)) := by
  have e := idx_at (args := args) (first := Z) (s := Z) (o := none) hj
  simp only [Term.eval] at e ⊢
  simp [e, (back32 hj).1]
theorem own_nb (x : Int32) : nar .byte x.toInt8.toInt32 = x.toInt8.toInt32 := by simp [nar]
theorem own_ch (x : Int32) : ¬ (255 : Int32) < (x &&& 255).toUInt32.toUInt16.toUInt32.toInt32 ∧ ¬ (x &&& 255).toUInt32.toUInt16.toUInt32.toInt32 < 0 := by
  have e1 : (255 : Int32).toInt = 255 := by decide
  have e2 : (0 : Int32).toInt = 0 := by decide
  have q := c_and x 255 (by decide)
  rw [i2c_mask]
  simp only [Int32.lt_iff_toInt_lt, e1, e2] at *
  omega
theorem own_nc (x : Int32) : nar .char x.toUInt32.toUInt16.toUInt32.toInt32 = x.toUInt32.toUInt16.toUInt32.toInt32 := by simp only [nar, UInt32.toUInt32_toInt32, UInt16.toUInt16_toUInt32]
theorem own_sh0 (x : Int32) : x >>> ((0 : Int32) &&& 31) = x := by
  have e : ((0 : Int32) &&& 31) = 0 := by decide
  rw [e]
  apply Int32.toBitVec_inj.mp
  simp
theorem own_s0 (x : Int32) : x - 0 = x := by simp
theorem own_lt4 {x : Int32} (h : x < 4) : ¬ (1000 : Int32) < x := by
  have e1 : (4 : Int32).toInt = 4 := by decide
  have e2 : (1000 : Int32).toInt = 1000 := by decide
  simp only [Int32.lt_iff_toInt_lt, e1, e2] at *
  omega
theorem own_bit (f : Int32) : (XT.ushr f 3 &&& 1 = 0 ↔ f &&& 8 = 0) ∧ (XT.ushr f 6 &&& 1 = 0 ↔ f &&& 64 = 0) := by
  constructor
  · rw [← Int32.toBitVec_inj, ← Int32.toBitVec_inj]
    have e1 : (XT.ushr f 3 &&& 1).toBitVec = (f.toBitVec >>> 3) &&& BitVec.twoPow 32 0 := by simp [XT.ushr]; rfl
    have e2 : (f &&& 8).toBitVec = f.toBitVec &&& BitVec.twoPow 32 3 := rfl
    have hb : (f.toBitVec >>> 3).getLsbD 0 = f.toBitVec.getLsbD 3 := by simp
    rw [e1, e2, BitVec.and_twoPow, BitVec.and_twoPow, hb]
    cases f.toBitVec.getLsbD 3 <;> decide
  · rw [← Int32.toBitVec_inj, ← Int32.toBitVec_inj]
    have e1 : (XT.ushr f 6 &&& 1).toBitVec = (f.toBitVec >>> 6) &&& BitVec.twoPow 32 0 := by simp [XT.ushr]; rfl
    have e2 : (f &&& 64).toBitVec = f.toBitVec &&& BitVec.twoPow 32 6 := rfl
    have hb : (f.toBitVec >>> 6).getLsbD 0 = f.toBitVec.getLsbD 6 := by simp
    rw [e1, e2, BitVec.and_twoPow, BitVec.and_twoPow, hb]
    cases f.toBitVec.getLsbD 6 <;> decide
set_option maxRecDepth 65536 in
set_option maxHeartbeats 40000000 in
theorem rm_new4_0 {l : Launch} {Z : State} {a0 : Array Value} (hw : ∀ d ∈ tables_1, d.before a0 Z = true) (a aC : Addr) (kC : ClassId) (h0 : Heap) (O0 : Ext Z.heap h0) (f0 : Z.heap.size ≤ a) (E0 : Exa Z h0 a "java/lang/String") (FV : Fld Z h0 a "java/lang/String" "value" "[B" .null) (FC : Fld Z h0 a "java/lang/String" "coder" "B" (.int 0)) (VC : Arv Z h0 aC kC .char (0 : Int32) [] (.int 0)) (ne0 : a ≠ aC) :
    ConW l (⟨"java/lang/String", "<init>", "([CIILjava/lang/Void;)V"⟩ : MethodName) jdk_42_method_149_code 6 none ({ frames := 1, cells := 4, slots := 8, locals := 12 } : Room) Z own_EL #[(.ref a), (.ref aC), (.int (0 : Int32)), (.int (0 : Int32)), .null] h0 (fun v h L => ∃ (b : Addr) (k : ClassId), v = none ∧ Fr Z.heap.size L ∧ Keep h0 h [a] ∧ Fld Z h a "java/lang/String" "value" "[B" (.ref b) ∧ Fld Z h a "java/lang/String" "coder" "B" (.int 0) ∧ Arv Z h b k .byte (0 : Int32) [] (.int 0) ∧ a ≠ b) := by
  refine ConW.of (plainFor_of_name pn_0) (Ls := #[rv a, rv aC, iv (0 : Int32), iv (0 : Int32), .val .null, .unset]) (fun m => efOf rfl) ?_
  intro p e s m below meth c T0 X0 hx hZ hby hml hown hnm hret hlk e0 hs0 hS hk H0
  have SFa : Safe Z own_EL s.vm h0 a := own_sfnull hZ.alike E0 FV
  refine go (fun _ => XS.aloadN X0.here hx rfl (hb hby d0_0) rfl rfl) ?_
  show Ends p e below _ T0 (mkF m 1 #[rv a, rv aC, iv (0 : Int32), iv (0 : Int32), .val .null, .unset] [(.ref a)])
  obtain ⟨T1, X1, e1, s1⟩ := initO X0 hx hZ hown (hwi hw 40 rfl) (hwi hw 16 rfl) (hwi hw 17 rfl) e0 (g := (mkF m 1 #[rv a, rv aC, iv (0 : Int32), iv (0 : Int32), .val .null, .unset] [(.ref a)])) rfl (by rw [hml]; rfl) rfl (hb hby d0_1) (by decide) (W := 0) (by show 2 * 0 + _ ≤ _; exact Nat.le_of_eq rfl) (by decide)
  refine go s1 ?_
  show Ends p e below _ T1 (mkF m 4 #[rv a, rv aC, iv (0 : Int32), iv (0 : Int32), .val .null, .unset] [])
  refine go (fun _ => XS.iloadN X1.here hx rfl (hb hby d0_4) rfl) ?_
  show Ends p e below _ T1 (mkF m 5 #[rv a, rv aC, iv (0 : Int32), iv (0 : Int32), .val .null, .unset] [(.int (0 : Int32))])
  refine go (fun _ => XS.ifNo X1.here hx rfl (hb hby d0_5) rfl (XT.i0_ne_f ((by decide) : (0 : Int32) = (0 : Int32)))) ?_
  show Ends p e below _ T1 (mkF m 8 #[rv a, rv aC, iv (0 : Int32), iv (0 : Int32), .val .null, .unset] [])
  refine go (fun _ => XS.aloadN X1.here hx rfl (hb hby d0_8) rfl rfl) ?_
  show Ends p e below _ T1 (mkF m 9 #[rv a, rv aC, iv (0 : Int32), iv (0 : Int32), .val .null, .unset] [(.ref a)])
  obtain ⟨a2, T2, h2, k2w, b2, k2, X2, e2, E2, hS, hk, hZ, hown, Ea2, Fc2, Fv2, Vb2, la2, lb2, C2, -, ne2, s2⟩ := ldcCH X1 hx hZ hown (hwi hw 41 rfl) (own_SA hw) e1 hS hk (own_EW hw) (by decide) H0.1 (vs := ([] : List Value)) (z := (0 : Int32)) (by decide) (by decide) (by decide) (g := (mkF m 9 #[rv a, rv aC, iv (0 : Int32), iv (0 : Int32), .val .null, .unset] [(.ref a)])) rfl (hb hby d0_9) (n := 0) (by decide) (by decide) (by decide) (by decide)
  have H3 := H0.trans C2
  have O4 : Ext Z.heap h2 := xx O0 E2
  have F5 := (CHr.safe C2 (E0.lt) SFa)
  refine go s2 ?_
  show Ends p e below _ T2 (mkF m 11 #[rv a, rv aC, iv (0 : Int32), iv (0 : Int32), .val .null, .unset] [(.ref a2), (.ref a)])
  obtain ⟨T6, X6, e6, s6⟩ := getF X2 hx hZ hown (host := "") (Or.inl (hwi hw 47 rfl)) Via.refl e2 Fv2 (g := (mkF m 11 #[rv a, rv aC, iv (0 : Int32), iv (0 : Int32), .val .null, .unset] [(.ref a2), (.ref a)])) rfl rfl (hb hby d0_11)
  refine go s6 ?_
  show Ends p e below _ T6 (mkF m 14 #[rv a, rv aC, iv (0 : Int32), iv (0 : Int32), .val .null, .unset] [(.ref b2), (.ref a)])
  have F7 := (Exa.ext E2 E0)
  have F8 := (Fld.ext E2 FV)
  obtain ⟨T9, h9, X9, e9, W9, s9⟩ := putF X6 hx hZ hown (host := "") (Or.inl (hwi hw 47 rfl)) Via.refl e6 F8 F7 (Or.inr ⟨(hwi hw 43 rfl), rfl, hnm⟩) (hwi hw 30 rfl) (ty := (.array .byte)) (by decide) rfl rfl (g := (mkF m 14 #[rv a, rv aC, iv (0 : Int32), iv (0 : Int32), .val .null, .unset] [(.ref b2), (.ref a)])) rfl rfl (hb hby d0_14)
  have N9 := Fr.snoc X9 (Fr.nil _) f0
  have C10 : CHr Z own_EL T2.vm h2 T2.vm h9 := CHr.wr W9 F5 H3.1
  have hk := Nat.le_trans hk C10.2.1
  have H10 := H3.trans C10
  have O11 : Ext Z.heap h9 := xw O4 W9 f0
  refine go s9 ?_
  show Ends p e below _ T9 (mkF m 17 #[rv a, rv aC, iv (0 : Int32), iv (0 : Int32), .val .null, .unset] [])
  refine go (fun _ => XS.aloadN X9.here hx rfl (hb hby d0_17) rfl rfl) ?_
  show Ends p e below _ T9 (mkF m 18 #[rv a, rv aC, iv (0 : Int32), iv (0 : Int32), .val .null, .unset] [(.ref a)])
  obtain ⟨a12, T12, h12, k12w, b12, k12, X12, e12, E12, hS, hk, hZ, hown, Ea12, Fc12, Fv12, Vb12, la12, lb12, C12, -, ne12, s12⟩ := ldcCH X9 hx hZ hown (hwi hw 41 rfl) (own_SA hw) e9 hS hk (own_EW hw) (by decide) H10.1 (vs := ([] : List Value)) (z := (0 : Int32)) (by decide) (by decide) (by decide) (g := (mkF m 18 #[rv a, rv aC, iv (0 : Int32), iv (0 : Int32), .val .null, .unset] [(.ref a)])) rfl (hb hby d0_18) (n := 0) (by decide) (by decide) (by decide) (by decide)
  have F13 := (Exa.wr W9 F7)
  have H14 := H10.trans C12
  have O15 : Ext Z.heap h12 := xx O11 E12
  have F16 := (CHr.safe C12 (F13.lt) (Safe.wr W9 F5 H3.1 F5))
  refine go s12 ?_
  show Ends p e below _ T12 (mkF m 20 #[rv a, rv aC, iv (0 : Int32), iv (0 : Int32), .val .null, .unset] [(.ref a12), (.ref a)])
  obtain ⟨T17, X17, e17, s17⟩ := getF X12 hx hZ hown (host := "") (Or.inl (hwi hw 48 rfl)) Via.refl e12 Fc12 (g := (mkF m 20 #[rv a, rv aC, iv (0 : Int32), iv (0 : Int32), .val .null, .unset] [(.ref a12), (.ref a)])) rfl rfl (hb hby d0_20)
  refine go s17 ?_
  show Ends p e below _ T17 (mkF m 23 #[rv a, rv aC, iv (0 : Int32), iv (0 : Int32), .val .null, .unset] [(.int (0 : Int32)), (.ref a)])
  have F18 := (Exa.ext E12 F13)
  have F19 := (Fld.ext E12 (Fld.other W9 (Fld.ext E2 FC) (Or.inr (slot_ne (a0 := a0) (Or.inr (hwi hw 44 rfl)) (Or.inr (hwi hw 43 rfl)) (by decide) (t := .byte) (t' := (.array .byte)) (by decide) (by decide)))))
  obtain ⟨T20, h20, X20, e20, W20, s20⟩ := putF X17 hx hZ hown (host := "") (Or.inl (hwi hw 48 rfl)) Via.refl e17 F19 F18 (Or.inr ⟨(hwi hw 44 rfl), rfl, hnm⟩) (hwi hw 30 rfl) (ty := .byte) (by decide) rfl rfl (g := (mkF m 23 #[rv a, rv aC, iv (0 : Int32), iv (0 : Int32), .val .null, .unset] [(.int (0 : Int32)), (.ref a)])) rfl rfl (hb hby d0_23)
  have N20 := Fr.snoc X20 N9 f0
  have C21 : CHr Z own_EL T12.vm h12 T12.vm h20 := CHr.wr W20 F16 H14.1
  have hk := Nat.le_trans hk C21.2.1
  have H21 := H14.trans C21
  have O22 : Ext Z.heap h20 := xw O15 W20 f0
  refine go s20 ?_
  show Ends p e below _ T20 (mkF m 26 #[rv a, rv aC, iv (0 : Int32), iv (0 : Int32), .val .null, .unset] [])
  have K23 : Keep h0 h20 [a] := (Keep.wr (Keep.ext (Keep.wr (Keep.ext (Keep.refl _ _) E2) W9 (Or.inl (List.mem_of_getElem? (i := 0) rfl))) E12) W20 (Or.inl (List.mem_of_getElem? (i := 0) rfl)))
  have F24 := (Fld.other W20 (Fld.ext E12 (Fld.same W9 F8)) (Or.inr (slot_ne (a0 := a0) (Or.inr (hwi hw 43 rfl)) (Or.inr (hwi hw 44 rfl)) (by decide) (t := (.array .byte)) (t' := .byte) (by decide) (by decide))))
  have F25 := (Fld.same W20 F19)
  have F26 := (Arv.other (Arv.ext (Arv.other Vb2 W9 (Ne.symm (ne2 _ F5).2)) E12) W20 (Ne.symm (ne2 _ F5).2))
  exact endV X20 hx hret (hb hby d0_26) (lvW X20 hlk hZ (own_EW hw) hs0 hS hk H21 e20 (fun _ => rfl) ⟨b2, _, rfl, N20, K23, F24, F25, F26, (ne2 _ F5).2⟩ (by decide) (by decide))
set_option maxRecDepth 65536 in
set_option maxHeartbeats 40000000 in
theorem rm_new1_0 {l : Launch} {Z : State} {a0 : Array Value} (hw : ∀ d ∈ tables_1, d.before a0 Z = true) (a aC : Addr) (kC : ClassId) (h0 : Heap) (O0 : Ext Z.heap h0) (f0 : Z.heap.size ≤ a) (E0 : Exa Z h0 a "java/lang/String") (FV : Fld Z h0 a "java/lang/String" "value" "[B" .null) (FC : Fld Z h0 a "java/lang/String" "coder" "B" (.int 0)) (VC : Arv Z h0 aC kC .char (0 : Int32) [] (.int 0)) (ne0 : a ≠ aC) :
    ConW l (⟨"java/lang/String", "<init>", "([C)V"⟩ : MethodName) jdk_42_method_3_code 2 none ({ frames := 2, cells := 4, slots := 8, locals := 29 } : Room) Z own_EL #[(.ref a), (.ref aC)] h0 (fun v h L => ∃ (b : Addr) (k : ClassId), v = none ∧ Fr Z.heap.size L ∧ Keep h0 h [a] ∧ Fld Z h a "java/lang/String" "value" "[B" (.ref b) ∧ Fld Z h a "java/lang/String" "coder" "B" (.int 0) ∧ Arv Z h b k .byte (0 : Int32) [] (.int 0) ∧ a ≠ b) := by
  refine ConW.of (plainFor_of_name pn_0) (Ls := #[rv a, rv aC]) (fun m => efOf rfl) ?_
  intro p e s m below meth c T0 X0 hx hZ hby hml hown hnm hret hlk e0 hs0 hS hk H0
  have SFa : Safe Z own_EL s.vm h0 a := own_sfnull hZ.alike E0 FV
  refine go (fun _ => XS.aloadN X0.here hx rfl (hb hby d1_0) rfl rfl) ?_
  refine go (fun _ => XS.aloadN X0.here hx rfl (hb hby d1_1) rfl rfl) ?_
  refine go (fun _ => XT.iconstV X0.here hx rfl (0 : Int32) (hb hby d1_2) (by decide)) ?_
  refine go (fun _ => XS.aloadN X0.here hx rfl (hb hby d1_3) rfl rfl) ?_
  show Ends p e below _ T0 (mkF m 4 #[rv a, rv aC] [(.ref aC), (.int (0 : Int32)), (.ref aC), (.ref a)])
  obtain ⟨cl27, A27, -, S27, M27, -⟩ := id VC
  refine go (fun _ => X0.arraylength hx (cell := cl27) (by rw [e0]; exact A27.1) (State.isArrayOf_alike hZ.alike A27.2.1) (g := (mkF m 4 #[rv a, rv aC] [(.ref aC), (.int (0 : Int32)), (.ref aC), (.ref a)])) rfl rfl (hb hby d1_4) _) ?_
  rw [len_of S27 M27]
  show Ends p e below _ T0 (mkF m 5 #[rv a, rv aC] [(.int (0 : Int32)), (.int (0 : Int32)), (.ref aC), (.ref a)])
  refine go (fun _ => XS.aconstNull X0.here hx rfl (hb hby d1_5)) ?_
  show Ends p e below _ T0 (mkF m 6 #[rv a, rv aC] [.null, (.int (0 : Int32)), (.int (0 : Int32)), (.ref aC), (.ref a)])
  refine cInitW X0 hx hZ hown (by rw [hml]; rfl) e0 (own_EW hw) hS hk H0.1 (hwi hw 36 rfl) (hwi hw 37 rfl) (hwi hw 31 rfl) (hwi hw 39 rfl) a [(.ref aC), (.int (0 : Int32)), (.int (0 : Int32)), .null] [] rfl (rm_new4_0 hw a aC kC _ O0 f0 E0 FV FC VC ne0) (hb hby d1_6) rfl (lenOf pd_1 rfl) rfl (by decide) (by decide) (Nat.le_of_ble_eq_true rfl) (by decide) (by decide) ?_
  rintro v28 T28 h28 L28 k28w X28 e28 hS hk hZ hown C28w ⟨b28, k28, rfl, N28, K28, Fv28, Fc28, V28, nb28⟩
  have N28a := Fr.app (Fr.nil _) N28
  have H29 := H0.trans C28w
  have O30 : Ext Z.heap h28 := xk O0 K28 (allS f0 all0)
  show Ends p e below _ T28 (mkF m 9 #[rv a, rv aC] [])
  have K31 : Keep h0 h28 [a] := (Keep.trans (Keep.refl _ _) K28 (allS (Or.inl (List.mem_of_getElem? (i := 0) rfl)) all0))
  exact endV X28 hx hret (hb hby d1_9) (lvW X28 hlk hZ (own_EW hw) hs0 hS hk H29 e28 (fun _ => rfl) ⟨b28, _, rfl, N28a, K31, Fv28, Fc28, V28, nb28⟩ (by decide) (by decide))
set_option maxRecDepth 65536 in
set_option maxHeartbeats 40000000 in
theorem rm_cmp5_2 {l : Launch} {Z : State} {a0 : Array Value} (hw : ∀ d ∈ tables_1, d.before a0 Z = true) (aC aB : Addr) (kC kB : ClassId) (y0 y1 : Int32)  (h0 : Heap) (O0 : Ext Z.heap h0) (f0 : Z.heap.size ≤ aB) (ne0 : aC ≠ aB) (VC : Arv Z h0 aC kC .char (2 : Int32) [(.int y0), (.int y1)] (.int 0)) (VB : Arv Z h0 aB kB .byte (2 : Int32) [(.int (0 : Int32)), (.int (0 : Int32))] (.int 0)) (l0 : ¬ (255 : Int32) < y0) (l1 : ¬ (255 : Int32) < y1) :
    Con l (⟨"java/lang/StringUTF16", "compress", "([CI[BII)I"⟩ : MethodName) jdk_52_method_21_code 7 (some .int) ({ frames := 0, cells := 0, slots := 0, locals := 0 } : Room) Z #[(.ref aC), (.int (0 : Int32)), (.ref aB), (.int (0 : Int32)), (.int (2 : Int32))] h0 (fun v h L => v = some (.int (2 : Int32)) ∧ Fr Z.heap.size L ∧ Keep h0 h [aB] ∧ Arv Z h aB kB .byte (2 : Int32) [(.int y0.toInt8.toInt32), (.int y1.toInt8.toInt32)] (.int 0)) := by
  refine Con.of (plainFor_of_name pn_2) (Ls := #[rv aC, iv (0 : Int32), rv aB, iv (0 : Int32), iv (2 : Int32), .unset, .unset]) (fun m => efOf rfl) ?_
  intro p e s m below meth c T0 X0 hx hZ hby hml hown hnm hret hlk e0
  refine go (fun _ => XT.iconstV X0.here hx rfl (0 : Int32) (hb hby d2_0) (by decide)) ?_
  refine go (fun _ => XS.istore X0.here hx rfl (hb hby d2_1) rfl (l' := #[rv aC, iv (0 : Int32), rv aB, iv (0 : Int32), iv (2 : Int32), iv (0 : Int32), .unset]) rfl) ?_
  refine go (fun _ => XS.iload X0.here hx rfl (hb hby d2_3) rfl) ?_
  refine go (fun _ => XS.iload X0.here hx rfl (hb hby d2_5) rfl) ?_
  show Ends p e below _ T0 (mkF m 7 #[rv aC, iv (0 : Int32), rv aB, iv (0 : Int32), iv (2 : Int32), iv (0 : Int32), .unset] [(.int (2 : Int32)), (.int (0 : Int32))])
  refine go (fun _ => XS.icmpNo X0.here hx rfl (hb hby d2_7) rfl (XT.ii_ge_f ((by decide) : (0 : Int32) < (2 : Int32)))) ?_
  show Ends p e below _ T0 (mkF m 10 #[rv aC, iv (0 : Int32), rv aB, iv (0 : Int32), iv (2 : Int32), iv (0 : Int32), .unset] [])
  refine go (fun _ => XS.aloadN X0.here hx rfl (hb hby d2_10) rfl rfl) ?_
  refine go (fun _ => XS.iloadN X0.here hx rfl (hb hby d2_11) rfl) ?_
  show Ends p e below _ T0 (mkF m 12 #[rv aC, iv (0 : Int32), rv aB, iv (0 : Int32), iv (2 : Int32), iv (0 : Int32), .unset] [(.int (0 : Int32)), (.ref aC)])
  obtain ⟨cl32, A32, -, S32, M32, H32, -⟩ := id VC
  have B32 := inb_of S32 (j := (0 : Int32)) (by decide)
  refine go (fun _ => X0.caload hx (j := (0 : Int32)) (v := (.int y0)) (by rw [e0]; exact A32.1) (State.isArrayOf_alike hZ.alike A32.2.1) A32.2.2 B32 (H32.at B32 rfl) (g := (mkF m 12 #[rv aC, iv (0 : Int32), rv aB, iv (0 : Int32), iv (2 : Int32), iv (0 : Int32), .unset] [(.int (0 : Int32)), (.ref aC)])) rfl rfl (hb hby d2_12) _) ?_
  show Ends p e below _ T0 (mkF m 13 #[rv aC, iv (0 : Int32), rv aB, iv (0 : Int32), iv (2 : Int32), iv (0 : Int32), .unset] [(.int y0)])
  refine go (fun _ => XS.istore X0.here hx rfl (hb hby d2_13) rfl (l' := #[rv aC, iv (0 : Int32), rv aB, iv (0 : Int32), iv (2 : Int32), iv (0 : Int32), iv y0]) rfl) ?_
  refine go (fun _ => XS.iload X0.here hx rfl (hb hby d2_15) rfl) ?_
  refine go (fun _ => XT.sipushV X0.here hx rfl (255 : Int32) (hb hby d2_17) (by decide)) ?_
  show Ends p e below _ T0 (mkF m 20 #[rv aC, iv (0 : Int32), rv aB, iv (0 : Int32), iv (2 : Int32), iv (0 : Int32), iv y0] [(.int (255 : Int32)), (.int y0)])
  refine go (fun _ => XS.icmpYes X0.here hx rfl (pc0 := 20) (pc' := 26) rfl (hb hby d2_20) rfl (XT.ii_le_t l0) (by decide) (by decide)) ?_
  show Ends p e below _ T0 (mkF m 26 #[rv aC, iv (0 : Int32), rv aB, iv (0 : Int32), iv (2 : Int32), iv (0 : Int32), iv y0] [])
  refine go (fun _ => XS.aloadN X0.here hx rfl (hb hby d2_26) rfl rfl) ?_
  refine go (fun _ => XS.iloadN X0.here hx rfl (hb hby d2_27) rfl) ?_
  refine go (fun _ => XS.iload X0.here hx rfl (hb hby d2_28) rfl) ?_
  refine go (fun _ => XT.i2b X0.here hx rfl (hb hby d2_30) rfl) ?_
  show Ends p e below _ T0 (mkF m 31 #[rv aC, iv (0 : Int32), rv aB, iv (0 : Int32), iv (2 : Int32), iv (0 : Int32), iv y0] [(.int y0.toInt8.toInt32), (.int (0 : Int32)), (.ref aB)])
  obtain ⟨cl33, A33, q33, S33, M33, H33, G33⟩ := id VB
  obtain ⟨T33, h33, X33, e33, W33, s33⟩ := stB X0 hx hZ e0 A33 (j := (0 : Int32)) (inb_of S33 (by decide)) (g := (mkF m 31 #[rv aC, iv (0 : Int32), rv aB, iv (0 : Int32), iv (2 : Int32), iv (0 : Int32), iv y0] [(.int y0.toInt8.toInt32), (.int (0 : Int32)), (.ref aB)])) rfl rfl (hb hby d2_31)
  have r33 : nar .byte y0.toInt8.toInt32 = y0.toInt8.toInt32 := own_nb _
  rw [r33] at W33
  have N33 := Fr.snoc X33 (Fr.nil _) f0
  have O34 : Ext Z.heap h33 := xw O0 W33 f0
  have V33 : Arv Z h33 aB kB .byte (2 : Int32) [(.int y0.toInt8.toInt32), (.int (0 : Int32))] (.int 0) := Arv.set A33 q33 S33 M33 H33 G33 (by first | rfl | exact fits_nar_byte y0.toInt8.toInt32 | (rw [← r33]; exact fits_nar_byte y0.toInt8.toInt32)) W33 0 (by decide) (Nat.le_of_ble_eq_true rfl)
  refine go s33 ?_
  show Ends p e below _ T33 (mkF m 32 #[rv aC, iv (0 : Int32), rv aB, iv (0 : Int32), iv (2 : Int32), iv (0 : Int32), iv y0] [])
  refine go (fun _ => XT.iincV X33.here hx rfl (1 : Int32) (hb hby d2_32) (by decide) rfl (l' := #[rv aC, iv (1 : Int32), rv aB, iv (0 : Int32), iv (2 : Int32), iv (0 : Int32), iv y0]) rfl) ?_
  refine go (fun _ => XT.iincV X33.here hx rfl (1 : Int32) (hb hby d2_35) (by decide) rfl (l' := #[rv aC, iv (1 : Int32), rv aB, iv (1 : Int32), iv (2 : Int32), iv (0 : Int32), iv y0]) rfl) ?_
  refine go (fun _ => XT.iincV X33.here hx rfl (1 : Int32) (hb hby d2_38) (by decide) rfl (l' := #[rv aC, iv (1 : Int32), rv aB, iv (1 : Int32), iv (2 : Int32), iv (1 : Int32), iv y0]) rfl) ?_
  refine go (fun _ => XS.goto X33.here hx rfl (pc0 := 41) (pc' := 3) rfl (hb hby d2_41) (by decide) (by decide)) ?_
  refine go (fun _ => XS.iload X33.here hx rfl (hb hby d2_3) rfl) ?_
  refine go (fun _ => XS.iload X33.here hx rfl (hb hby d2_5) rfl) ?_
  show Ends p e below _ T33 (mkF m 7 #[rv aC, iv (1 : Int32), rv aB, iv (1 : Int32), iv (2 : Int32), iv (1 : Int32), iv y0] [(.int (2 : Int32)), (.int (1 : Int32))])
  refine go (fun _ => XS.icmpNo X33.here hx rfl (hb hby d2_7) rfl (XT.ii_ge_f ((by decide) : (1 : Int32) < (2 : Int32)))) ?_
  show Ends p e below _ T33 (mkF m 10 #[rv aC, iv (1 : Int32), rv aB, iv (1 : Int32), iv (2 : Int32), iv (1 : Int32), iv y0] [])
  refine go (fun _ => XS.aloadN X33.here hx rfl (hb hby d2_10) rfl rfl) ?_
  refine go (fun _ => XS.iloadN X33.here hx rfl (hb hby d2_11) rfl) ?_
  show Ends p e below _ T33 (mkF m 12 #[rv aC, iv (1 : Int32), rv aB, iv (1 : Int32), iv (2 : Int32), iv (1 : Int32), iv y0] [(.int (1 : Int32)), (.ref aC)])
  have F35 := (Arv.other VC W33 ne0)
  obtain ⟨cl36, A36, -, S36, M36, H36, -⟩ := id F35
  have B36 := inb_of S36 (j := (1 : Int32)) (by decide)
  refine go (fun _ => X33.caload hx (j := (1 : Int32)) (v := (.int y1)) (by rw [e33]; exact A36.1) (State.isArrayOf_alike hZ.alike A36.2.1) A36.2.2 B36 (H36.at B36 rfl) (g := (mkF m 12 #[rv aC, iv (1 : Int32), rv aB, iv (1 : Int32), iv (2 : Int32), iv (1 : Int32), iv y0] [(.int (1 : Int32)), (.ref aC)])) rfl rfl (hb hby d2_12) _) ?_
  show Ends p e below _ T33 (mkF m 13 #[rv aC, iv (1 : Int32), rv aB, iv (1 : Int32), iv (2 : Int32), iv (1 : Int32), iv y0] [(.int y1)])
  refine go (fun _ => XS.istore X33.here hx rfl (hb hby d2_13) rfl (l' := #[rv aC, iv (1 : Int32), rv aB, iv (1 : Int32), iv (2 : Int32), iv (1 : Int32), iv y1]) rfl) ?_
  refine go (fun _ => XS.iload X33.here hx rfl (hb hby d2_15) rfl) ?_
  refine go (fun _ => XT.sipushV X33.here hx rfl (255 : Int32) (hb hby d2_17) (by decide)) ?_
  show Ends p e below _ T33 (mkF m 20 #[rv aC, iv (1 : Int32), rv aB, iv (1 : Int32), iv (2 : Int32), iv (1 : Int32), iv y1] [(.int (255 : Int32)), (.int y1)])
  refine go (fun _ => XS.icmpYes X33.here hx rfl (pc0 := 20) (pc' := 26) rfl (hb hby d2_20) rfl (XT.ii_le_t l1) (by decide) (by decide)) ?_
  show Ends p e below _ T33 (mkF m 26 #[rv aC, iv (1 : Int32), rv aB, iv (1 : Int32), iv (2 : Int32), iv (1 : Int32), iv y1] [])
  refine go (fun _ => XS.aloadN X33.here hx rfl (hb hby d2_26) rfl rfl) ?_
  refine go (fun _ => XS.iloadN X33.here hx rfl (hb hby d2_27) rfl) ?_
  refine go (fun _ => XS.iload X33.here hx rfl (hb hby d2_28) rfl) ?_
  refine go (fun _ => XT.i2b X33.here hx rfl (hb hby d2_30) rfl) ?_
  show Ends p e below _ T33 (mkF m 31 #[rv aC, iv (1 : Int32), rv aB, iv (1 : Int32), iv (2 : Int32), iv (1 : Int32), iv y1] [(.int y1.toInt8.toInt32), (.int (1 : Int32)), (.ref aB)])
  obtain ⟨cl37, A37, q37, S37, M37, H37, G37⟩ := id V33
  obtain ⟨T37, h37, X37, e37, W37, s37⟩ := stB X33 hx hZ e33 A37 (j := (1 : Int32)) (inb_of S37 (by decide)) (g := (mkF m 31 #[rv aC, iv (1 : Int32), rv aB, iv (1 : Int32), iv (2 : Int32), iv (1 : Int32), iv y1] [(.int y1.toInt8.toInt32), (.int (1 : Int32)), (.ref aB)])) rfl rfl (hb hby d2_31)
  have r37 : nar .byte y1.toInt8.toInt32 = y1.toInt8.toInt32 := own_nb _
  rw [r37] at W37
  have N37 := Fr.snoc X37 N33 f0
  have O38 : Ext Z.heap h37 := xw O34 W37 f0
  have V37 : Arv Z h37 aB kB .byte (2 : Int32) [(.int y0.toInt8.toInt32), (.int y1.toInt8.toInt32)] (.int 0) := Arv.set A37 q37 S37 M37 H37 G37 (by first | rfl | exact fits_nar_byte y1.toInt8.toInt32 | (rw [← r37]; exact fits_nar_byte y1.toInt8.toInt32)) W37 1 (by decide) (Nat.le_of_ble_eq_true rfl)
  refine go s37 ?_
  show Ends p e below _ T37 (mkF m 32 #[rv aC, iv (1 : Int32), rv aB, iv (1 : Int32), iv (2 : Int32), iv (1 : Int32), iv y1] [])
  refine go (fun _ => XT.iincV X37.here hx rfl (1 : Int32) (hb hby d2_32) (by decide) rfl (l' := #[rv aC, iv (2 : Int32), rv aB, iv (1 : Int32), iv (2 : Int32), iv (1 : Int32), iv y1]) rfl) ?_
  refine go (fun _ => XT.iincV X37.here hx rfl (1 : Int32) (hb hby d2_35) (by decide) rfl (l' := #[rv aC, iv (2 : Int32), rv aB, iv (2 : Int32), iv (2 : Int32), iv (1 : Int32), iv y1]) rfl) ?_
  refine go (fun _ => XT.iincV X37.here hx rfl (1 : Int32) (hb hby d2_38) (by decide) rfl (l' := #[rv aC, iv (2 : Int32), rv aB, iv (2 : Int32), iv (2 : Int32), iv (2 : Int32), iv y1]) rfl) ?_
  refine go (fun _ => XS.goto X37.here hx rfl (pc0 := 41) (pc' := 3) rfl (hb hby d2_41) (by decide) (by decide)) ?_
  refine go (fun _ => XS.iload X37.here hx rfl (hb hby d2_3) rfl) ?_
  refine go (fun _ => XS.iload X37.here hx rfl (hb hby d2_5) rfl) ?_
  show Ends p e below _ T37 (mkF m 7 #[rv aC, iv (2 : Int32), rv aB, iv (2 : Int32), iv (2 : Int32), iv (2 : Int32), iv y1] [(.int (2 : Int32)), (.int (2 : Int32))])
  refine go (fun _ => XS.icmpYes X37.here hx rfl (pc0 := 7) (pc' := 44) rfl (hb hby d2_7) rfl (XT.ii_ge_t ((by decide) : ¬ ((2 : Int32) < (2 : Int32)))) (by decide) (by decide)) ?_
  show Ends p e below _ T37 (mkF m 44 #[rv aC, iv (2 : Int32), rv aB, iv (2 : Int32), iv (2 : Int32), iv (2 : Int32), iv y1] [])
  refine go (fun _ => XS.iload X37.here hx rfl (hb hby d2_44) rfl) ?_
  show Ends p e below _ T37 (mkF m 46 #[rv aC, iv (2 : Int32), rv aB, iv (2 : Int32), iv (2 : Int32), iv (2 : Int32), iv y1] [(.int (2 : Int32))])
  have K39 : Keep h0 h37 [aB] := (Keep.wr (Keep.wr (Keep.refl _ _) W33 (Or.inl (List.mem_of_getElem? (i := 0) rfl))) W37 (Or.inl (List.mem_of_getElem? (i := 0) rfl)))
  exact endI X37 hx hret (hb hby d2_46) (lvN X37 hlk e37 (fun h => by rw [hret] at h; cases h) ⟨rfl, N37, K39, V37⟩ (by decide) (by decide))
set_option maxRecDepth 65536 in
set_option maxHeartbeats 40000000 in
theorem rm_cmp3_2 {l : Launch} {Z : State} {a0 : Array Value} (hw : ∀ d ∈ tables_1, d.before a0 Z = true) (aC : Addr) (kC : ClassId) (y0 y1 : Int32)  (h0 : Heap) (O0 : Ext Z.heap h0) (VC : Arv Z h0 aC kC .char (2 : Int32) [(.int y0), (.int y1)] (.int 0)) (l0 : ¬ (255 : Int32) < y0) (l1 : ¬ (255 : Int32) < y1) :
    Con l (⟨"java/lang/StringUTF16", "compress", "([CII)[B"⟩ : MethodName) jdk_52_method_16_code 6 (some (.array .byte)) ({ frames := 1, cells := 1, slots := 2, locals := 18 } : Room) Z #[(.ref aC), (.int (0 : Int32)), (.int (2 : Int32))] h0 (fun v h L => ∃ (b : Addr) (k : ClassId), v = some (.ref b) ∧ Fr Z.heap.size L ∧ Keep h0 h [] ∧ h0.size ≤ b ∧ Arv Z h b k .byte (2 : Int32) [(.int y0.toInt8.toInt32), (.int y1.toInt8.toInt32)] (.int 0)) := by
  refine Con.of (plainFor_of_name pn_2) (Ls := #[rv aC, iv (0 : Int32), iv (2 : Int32), .unset, .unset, .unset]) (fun m => efOf rfl) ?_
  intro p e s m below meth c T0 X0 hx hZ hby hml hown hnm hret hlk e0
  refine go (fun _ => XS.iloadN X0.here hx rfl (hb hby d3_0) rfl) ?_
  show Ends p e below _ T0 (mkF m 1 #[rv aC, iv (0 : Int32), iv (2 : Int32), .unset, .unset, .unset] [(.int (2 : Int32))])
  obtain ⟨T40, h40, k40, X40, e40, E40, A40, s40⟩ := newP X0 hx hZ (hwi hw 42 rfl) e0 (g := (mkF m 1 #[rv aC, iv (0 : Int32), iv (2 : Int32), .unset, .unset, .unset] [(.int (2 : Int32))])) rfl (hb hby d3_1) rfl (by decide) (cap := 2) (by decide) (by decide) (by decide) (by decide)
  obtain ⟨a40, g40⟩ : ∃ z : Addr, z = h0.size := ⟨_, rfl⟩
  have n41 : aC ≠ a40 := fun q => absurd (VC.lt) (by rw [q, g40]; exact Nat.lt_irrefl _)
  have f40 : Z.heap.size ≤ a40 := by rw [g40]; exact (O0).1
  have K42 : Keep h0 h0 [] := (Keep.refl _ _)
  have b40 : h0.size ≤ a40 := by rw [g40]; exact (K42).1
  rw [← g40] at A40 s40
  have O43 : Ext Z.heap h40 := xx O0 E40
  have V40 : Arv Z h40 a40 k40 .byte (2 : Int32) [(.int (0 : Int32)), (.int (0 : Int32))] (.int 0) := Arv.pad (Arv.new A40 (by decide)) (pad_rep [] _ 2)
  refine go s40 ?_
  show Ends p e below _ T40 (mkF m 3 #[rv aC, iv (0 : Int32), iv (2 : Int32), .unset, .unset, .unset] [(.ref a40)])
  refine go (fun _ => XS.astoreN X40.here hx rfl (hb hby d3_3) rfl rfl (l' := #[rv aC, iv (0 : Int32), iv (2 : Int32), rv a40, .unset, .unset]) rfl) ?_
  refine go (fun _ => XS.aloadN X40.here hx rfl (hb hby d3_4) rfl rfl) ?_
  refine go (fun _ => XS.iloadN X40.here hx rfl (hb hby d3_5) rfl) ?_
  refine go (fun _ => XS.aloadN X40.here hx rfl (hb hby d3_6) rfl rfl) ?_
  refine go (fun _ => XT.iconstV X40.here hx rfl (0 : Int32) (hb hby d3_7) (by decide)) ?_
  refine go (fun _ => XS.iloadN X40.here hx rfl (hb hby d3_8) rfl) ?_
  show Ends p e below _ T40 (mkF m 9 #[rv aC, iv (0 : Int32), iv (2 : Int32), rv a40, .unset, .unset] [(.int (2 : Int32)), (.int (0 : Int32)), (.ref a40), (.int (0 : Int32)), (.ref aC)])
  have F44 := (Arv.ext VC E40)
  refine cStat X40 hx hZ hown (by rw [hml]; rfl) e40 (hwi hw 54 rfl) (hwi hw 55 rfl) (hwi hw 52 rfl) (hwi hw 56 rfl) [(.ref aC), (.int (0 : Int32)), (.ref a40), (.int (0 : Int32)), (.int (2 : Int32))] [] rfl (rm_cmp5_2 hw aC a40 kC k40 y0 y1 _ O43 f40 n41 F44 V40 l0 l1) (hb hby d3_9) rfl (lenOf pd_3 rfl) (by decide) (by decide) (Nat.le_of_ble_eq_true rfl) (by decide) (by decide) ?_
  rintro v45 T45 h45 L45 X45 e45 ⟨rfl, N45, K45, V45⟩
  have N45a := Fr.app (Fr.nil _) N45
  have O46 : Ext Z.heap h45 := xk O43 K45 (allS f40 all0)
  show Ends p e below _ T45 (mkF m 12 #[rv aC, iv (0 : Int32), iv (2 : Int32), rv a40, .unset, .unset] [(.int (2 : Int32))])
  refine go (fun _ => XS.istore X45.here hx rfl (hb hby d3_12) rfl (l' := #[rv aC, iv (0 : Int32), iv (2 : Int32), rv a40, iv (2 : Int32), .unset]) rfl) ?_
  refine go (fun _ => XS.iload X45.here hx rfl (hb hby d3_14) rfl) ?_
  refine go (fun _ => XS.iloadN X45.here hx rfl (hb hby d3_16) rfl) ?_
  show Ends p e below _ T45 (mkF m 17 #[rv aC, iv (0 : Int32), iv (2 : Int32), rv a40, iv (2 : Int32), .unset] [(.int (2 : Int32)), (.int (2 : Int32))])
  refine go (fun _ => XS.icmpYes X45.here hx rfl (pc0 := 17) (pc' := 57) rfl (hb hby d3_17) rfl (XT.ii_eq_t ((by decide) : (2 : Int32) = (2 : Int32))) (by decide) (by decide)) ?_
  show Ends p e below _ T45 (mkF m 57 #[rv aC, iv (0 : Int32), iv (2 : Int32), rv a40, iv (2 : Int32), .unset] [])
  refine go (fun _ => XS.aloadN X45.here hx rfl (hb hby d3_57) rfl rfl) ?_
  show Ends p e below _ T45 (mkF m 58 #[rv aC, iv (0 : Int32), iv (2 : Int32), rv a40, iv (2 : Int32), .unset] [(.ref a40)])
  have K47 : Keep h0 h45 [] := (Keep.trans (Keep.ext K42 E40) K45 (allS (Or.inr b40) all0))
  exact endA X45 hx hret rfl rfl (hb hby d3_58) (lvN X45 hlk e45 (fun h => by rw [hret] at h; cases h) ⟨a40, _, rfl, N45a, K47, b40, V45⟩ (by decide) (by decide))
set_option maxRecDepth 65536 in
set_option maxHeartbeats 40000000 in
theorem rm_coder_2 {l : Launch} {Z : State} {a0 : Array Value} (hw : ∀ d ∈ tables_1, d.before a0 Z = true) (aB : Addr) (kB : ClassId) (vs : List Value) (h0 : Heap) (VB : Arv Z h0 aB kB .byte (2 : Int32) vs (.int 0)) :
    Con l (⟨"java/lang/StringUTF16", "coderFromArrayLen", "([BI)B"⟩ : MethodName) jdk_52_method_15_code 2 (some .byte) ({ frames := 0, cells := 0, slots := 0, locals := 0 } : Room) Z #[(.ref aB), (.int (2 : Int32))] h0 (fun v h L => v = some (.int 0) ∧ Fr Z.heap.size L ∧ h0 = h) := by
  refine Con.of (plainFor_of_name pn_2) (Ls := #[rv aB, iv (2 : Int32)]) (fun m => efOf rfl) ?_
  intro p e s m below meth c T0 X0 hx hZ hby hml hown hnm hret hlk e0
  refine go (fun _ => XS.iloadN X0.here hx rfl (hb hby d4_0) rfl) ?_
  refine go (fun _ => XS.aloadN X0.here hx rfl (hb hby d4_1) rfl rfl) ?_
  show Ends p e below _ T0 (mkF m 2 #[rv aB, iv (2 : Int32)] [(.ref aB), (.int (2 : Int32))])
  obtain ⟨cl48, A48, -, S48, M48, -⟩ := id VB
  refine go (fun _ => X0.arraylength hx (cell := cl48) (by rw [e0]; exact A48.1) (State.isArrayOf_alike hZ.alike A48.2.1) (g := (mkF m 2 #[rv aB, iv (2 : Int32)] [(.ref aB), (.int (2 : Int32))])) rfl rfl (hb hby d4_2) _) ?_
  rw [len_of S48 M48]
  show Ends p e below _ T0 (mkF m 3 #[rv aB, iv (2 : Int32)] [(.int (2 : Int32)), (.int (2 : Int32))])
  refine go (fun _ => XS.isub X0.here hx rfl (hb hby d4_3) rfl) ?_
  refine go (fun _ => XT.bipushV X0.here hx rfl (31 : Int32) (hb hby d4_4) (by decide)) ?_
  refine go (fun _ => XT.iushr X0.here hx rfl (hb hby d4_6) rfl) ?_
  refine go (fun _ => XT.i2b X0.here hx rfl (hb hby d4_7) rfl) ?_
  show Ends p e below _ T0 (mkF m 8 #[rv aB, iv (2 : Int32)] [(.int (0 : Int32))])
  exact endN X0 hx hret (by simp) (hb hby d4_8) (lvN X0 hlk e0 (fun h => by rw [hret] at h; cases h) ⟨rfl, (Fr.nil _), rfl⟩ (by decide) (by decide))
set_option maxRecDepth 65536 in
set_option maxHeartbeats 40000000 in
theorem rm_new4_2 {l : Launch} {Z : State} {a0 : Array Value} (hw : ∀ d ∈ tables_1, d.before a0 Z = true) (a aC : Addr) (kC : ClassId) (y0 y1 : Int32)  (h0 : Heap) (O0 : Ext Z.heap h0) (f0 : Z.heap.size ≤ a) (ne0 : a ≠ aC) (E0 : Exa Z h0 a "java/lang/String") (FV : Fld Z h0 a "java/lang/String" "value" "[B" .null) (FC : Fld Z h0 a "java/lang/String" "coder" "B" (.int 0)) (cz : Int32) (SCS : Sta Z Z.heap "java/lang/String" "COMPACT_STRINGS" "Z" (.int cz)) (hcz : ¬ cz = (0 : Int32)) (VC : Arv Z h0 aC kC .char (2 : Int32) [(.int y0), (.int y1)] (.int 0)) (l0 : ¬ (255 : Int32) < y0) (l1 : ¬ (255 : Int32) < y1) :
    Con l (⟨"java/lang/String", "<init>", "([CIILjava/lang/Void;)V"⟩ : MethodName) jdk_42_method_149_code 6 none ({ frames := 2, cells := 1, slots := 2, locals := 35 } : Room) Z #[(.ref a), (.ref aC), (.int (0 : Int32)), (.int (2 : Int32)), .null] h0 (fun v h L => ∃ (b : Addr) (k : ClassId), v = none ∧ Fr Z.heap.size L ∧ Keep h0 h [a] ∧ h0.size ≤ b ∧ Fld Z h a "java/lang/String" "value" "[B" (.ref b) ∧ Fld Z h a "java/lang/String" "coder" "B" (.int 0) ∧ Arv Z h b k .byte (2 : Int32) [(.int y0.toInt8.toInt32), (.int y1.toInt8.toInt32)] (.int 0)) := by
  refine Con.of (plainFor_of_name pn_0) (Ls := #[rv a, rv aC, iv (0 : Int32), iv (2 : Int32), .val .null, .unset]) (fun m => efOf rfl) ?_
  intro p e s m below meth c T0 X0 hx hZ hby hml hown hnm hret hlk e0
  refine go (fun _ => XS.aloadN X0.here hx rfl (hb hby d0_0) rfl rfl) ?_
  show Ends p e below _ T0 (mkF m 1 #[rv a, rv aC, iv (0 : Int32), iv (2 : Int32), .val .null, .unset] [(.ref a)])
  obtain ⟨T49, X49, e49, s49⟩ := initO X0 hx hZ hown (hwi hw 40 rfl) (hwi hw 16 rfl) (hwi hw 17 rfl) e0 (g := (mkF m 1 #[rv a, rv aC, iv (0 : Int32), iv (2 : Int32), .val .null, .unset] [(.ref a)])) rfl (by rw [hml]; rfl) rfl (hb hby d0_1) (by decide) (W := 0) (by show 2 * 0 + _ ≤ _; exact Nat.le_of_eq rfl) (by decide)
  refine go s49 ?_
  show Ends p e below _ T49 (mkF m 4 #[rv a, rv aC, iv (0 : Int32), iv (2 : Int32), .val .null, .unset] [])
  refine go (fun _ => XS.iloadN X49.here hx rfl (hb hby d0_4) rfl) ?_
  show Ends p e below _ T49 (mkF m 5 #[rv a, rv aC, iv (0 : Int32), iv (2 : Int32), .val .null, .unset] [(.int (2 : Int32))])
  refine go (fun _ => XS.ifYes X49.here hx rfl (pc0 := 5) (pc' := 27) rfl (hb hby d0_5) rfl (XT.i0_ne_t ((by decide) : ¬ ((2 : Int32) = (0 : Int32)))) (by decide) (by decide)) ?_
  show Ends p e below _ T49 (mkF m 27 #[rv a, rv aC, iv (0 : Int32), iv (2 : Int32), .val .null, .unset] [])
  obtain ⟨T50, X50, e50, s50⟩ := getS2 X49 hx hZ hown (host := "") (Or.inl (hwi hw 49 rfl)) Via.refl e49 (Sta.ext O0 SCS) (g := (mkF m 27 #[rv a, rv aC, iv (0 : Int32), iv (2 : Int32), .val .null, .unset] [])) rfl (hb hby d0_27)
  refine go s50 ?_
  show Ends p e below _ T50 (mkF m 30 #[rv a, rv aC, iv (0 : Int32), iv (2 : Int32), .val .null, .unset] [(.int cz)])
  refine go (fun _ => XS.ifNo X50.here hx rfl (hb hby d0_30) rfl (XT.i0_eq_f hcz)) ?_
  show Ends p e below _ T50 (mkF m 33 #[rv a, rv aC, iv (0 : Int32), iv (2 : Int32), .val .null, .unset] [])
  refine go (fun _ => XS.aloadN X50.here hx rfl (hb hby d0_33) rfl rfl) ?_
  refine go (fun _ => XS.iloadN X50.here hx rfl (hb hby d0_34) rfl) ?_
  refine go (fun _ => XS.iloadN X50.here hx rfl (hb hby d0_35) rfl) ?_
  show Ends p e below _ T50 (mkF m 36 #[rv a, rv aC, iv (0 : Int32), iv (2 : Int32), .val .null, .unset] [(.int (2 : Int32)), (.int (0 : Int32)), (.ref aC)])
  refine cStat X50 hx hZ hown (by rw [hml]; rfl) e50 (hwi hw 50 rfl) (hwi hw 51 rfl) (hwi hw 52 rfl) (hwi hw 53 rfl) [(.ref aC), (.int (0 : Int32)), (.int (2 : Int32))] [] rfl (rm_cmp3_2 hw aC kC y0 y1 _ O0 VC l0 l1) (hb hby d0_36) rfl (lenOf pd_4 rfl) (by decide) (by decide) (Nat.le_of_ble_eq_true rfl) (by decide) (by decide) ?_
  rintro v51 T51 h51 L51 X51 e51 ⟨b51, k51, rfl, N51, K51, g51, V51⟩
  have N51a := Fr.app (Fr.nil _) N51
  have n52 : a ≠ b51 := Nat.ne_of_lt (Nat.lt_of_lt_of_le (E0.lt) g51)
  have n53 : aC ≠ b51 := Nat.ne_of_lt (Nat.lt_of_lt_of_le (VC.lt) g51)
  have f54 : Z.heap.size ≤ b51 := Nat.le_trans (O0).1 g51
  have K55 : Keep h0 h0 [a] := (Keep.refl _ _)
  have b54 : h0.size ≤ b51 := Nat.le_trans (K55).1 g51
  have O56 : Ext Z.heap h51 := xk O0 K51 all0
  show Ends p e below _ T51 (mkF m 39 #[rv a, rv aC, iv (0 : Int32), iv (2 : Int32), .val .null, .unset] [(.ref b51)])
  refine go (fun _ => XS.astore X51.here hx rfl (hb hby d0_39) rfl rfl (l' := #[rv a, rv aC, iv (0 : Int32), iv (2 : Int32), .val .null, rv b51]) rfl) ?_
  refine go (fun _ => XS.aloadN X51.here hx rfl (hb hby d0_41) rfl rfl) ?_
  refine go (fun _ => XS.aload X51.here hx rfl (hb hby d0_42) rfl rfl) ?_
  refine go (fun _ => XS.iloadN X51.here hx rfl (hb hby d0_44) rfl) ?_
  show Ends p e below _ T51 (mkF m 45 #[rv a, rv aC, iv (0 : Int32), iv (2 : Int32), .val .null, rv b51] [(.int (2 : Int32)), (.ref b51), (.ref a)])
  refine cStat X51 hx hZ hown (by rw [hml]; rfl) e51 (hwi hw 57 rfl) (hwi hw 58 rfl) (hwi hw 52 rfl) (hwi hw 59 rfl) [(.ref b51), (.int (2 : Int32))] [(.ref a)] rfl (rm_coder_2 hw b51 _ _ _ V51) (hb hby d0_45) rfl (lenOf pd_5 rfl) (by decide) (by decide) (Nat.le_of_ble_eq_true rfl) (by decide) (by decide) ?_
  rintro v57 T57 h57 L57 X57 e57 ⟨rfl, N57, rfl⟩
  have N57a := Fr.app N51a N57
  show Ends p e below _ T57 (mkF m 48 #[rv a, rv aC, iv (0 : Int32), iv (2 : Int32), .val .null, rv b51] [(.int (0 : Int32)), (.ref a)])
  have F58 := (Exa.keep E0 K51)
  have F59 := (Fld.keep FC K51 nin0)
  obtain ⟨T60, h60, X60, e60, W60, s60⟩ := putF X57 hx hZ hown (host := "") (Or.inl (hwi hw 48 rfl)) Via.refl e57 F59 F58 (Or.inr ⟨(hwi hw 44 rfl), rfl, hnm⟩) (hwi hw 30 rfl) (ty := .byte) (by decide) rfl rfl (g := (mkF m 48 #[rv a, rv aC, iv (0 : Int32), iv (2 : Int32), .val .null, rv b51] [(.int (0 : Int32)), (.ref a)])) rfl rfl (hb hby d0_48)
  have N60 := Fr.snoc X60 N57a f0
  have O61 : Ext Z.heap h60 := xw O56 W60 f0
  refine go s60 ?_
  show Ends p e below _ T60 (mkF m 51 #[rv a, rv aC, iv (0 : Int32), iv (2 : Int32), .val .null, rv b51] [])
  refine go (fun _ => XS.aloadN X60.here hx rfl (hb hby d0_51) rfl rfl) ?_
  refine go (fun _ => XS.aload X60.here hx rfl (hb hby d0_52) rfl rfl) ?_
  show Ends p e below _ T60 (mkF m 54 #[rv a, rv aC, iv (0 : Int32), iv (2 : Int32), .val .null, rv b51] [(.ref b51), (.ref a)])
  have F62 := (Exa.wr W60 F58)
  have F63 := (Fld.other W60 (Fld.keep FV K51 nin0) (Or.inr (slot_ne (a0 := a0) (Or.inr (hwi hw 43 rfl)) (Or.inr (hwi hw 44 rfl)) (by decide) (t := (.array .byte)) (t' := .byte) (by decide) (by decide))))
  obtain ⟨T64, h64, X64, e64, W64, s64⟩ := putF X60 hx hZ hown (host := "") (Or.inl (hwi hw 47 rfl)) Via.refl e60 F63 F62 (Or.inr ⟨(hwi hw 43 rfl), rfl, hnm⟩) (hwi hw 30 rfl) (ty := (.array .byte)) (by decide) rfl rfl (g := (mkF m 54 #[rv a, rv aC, iv (0 : Int32), iv (2 : Int32), .val .null, rv b51] [(.ref b51), (.ref a)])) rfl rfl (hb hby d0_54)
  have N64 := Fr.snoc X64 N60 f0
  have O65 : Ext Z.heap h64 := xw O61 W64 f0
  refine go s64 ?_
  show Ends p e below _ T64 (mkF m 57 #[rv a, rv aC, iv (0 : Int32), iv (2 : Int32), .val .null, rv b51] [])
  have K66 : Keep h0 h64 [a] := (Keep.wr (Keep.wr (Keep.trans K55 K51 all0) W60 (Or.inl (List.mem_of_getElem? (i := 0) rfl))) W64 (Or.inl (List.mem_of_getElem? (i := 0) rfl)))
  have F67 := (Fld.same W64 F63)
  have F68 := (Fld.other W64 (Fld.same W60 F59) (Or.inr (slot_ne (a0 := a0) (Or.inr (hwi hw 44 rfl)) (Or.inr (hwi hw 43 rfl)) (by decide) (t := .byte) (t' := (.array .byte)) (by decide) (by decide))))
  have F69 := (Arv.other (Arv.other V51 W60 (Ne.symm n52)) W64 (Ne.symm n52))
  exact endV X64 hx hret (hb hby d0_57) (lvN X64 hlk e64 (fun _ => rfl) ⟨b51, _, rfl, N64, K66, b54, F67, F68, F69⟩ (by decide) (by decide))
set_option maxRecDepth 65536 in
set_option maxHeartbeats 40000000 in
theorem rm_new1_2 {l : Launch} {Z : State} {a0 : Array Value} (hw : ∀ d ∈ tables_1, d.before a0 Z = true) (a aC : Addr) (kC : ClassId) (y0 y1 : Int32)  (h0 : Heap) (O0 : Ext Z.heap h0) (f0 : Z.heap.size ≤ a) (ne0 : a ≠ aC) (E0 : Exa Z h0 a "java/lang/String") (FV : Fld Z h0 a "java/lang/String" "value" "[B" .null) (FC : Fld Z h0 a "java/lang/String" "coder" "B" (.int 0)) (cz : Int32) (SCS : Sta Z Z.heap "java/lang/String" "COMPACT_STRINGS" "Z" (.int cz)) (hcz : ¬ cz = (0 : Int32)) (VC : Arv Z h0 aC kC .char (2 : Int32) [(.int y0), (.int y1)] (.int 0)) (l0 : ¬ (255 : Int32) < y0) (l1 : ¬ (255 : Int32) < y1) :
    Con l (⟨"java/lang/String", "<init>", "([C)V"⟩ : MethodName) jdk_42_method_3_code 2 none ({ frames := 3, cells := 1, slots := 2, locals := 52 } : Room) Z #[(.ref a), (.ref aC)] h0 (fun v h L => ∃ (b : Addr) (k : ClassId), v = none ∧ Fr Z.heap.size L ∧ Keep h0 h [a] ∧ h0.size ≤ b ∧ Fld Z h a "java/lang/String" "value" "[B" (.ref b) ∧ Fld Z h a "java/lang/String" "coder" "B" (.int 0) ∧ Arv Z h b k .byte (2 : Int32) [(.int y0.toInt8.toInt32), (.int y1.toInt8.toInt32)] (.int 0)) := by
  refine Con.of (plainFor_of_name pn_0) (Ls := #[rv a, rv aC]) (fun m => efOf rfl) ?_
  intro p e s m below meth c T0 X0 hx hZ hby hml hown hnm hret hlk e0
  refine go (fun _ => XS.aloadN X0.here hx rfl (hb hby d1_0) rfl rfl) ?_
  refine go (fun _ => XS.aloadN X0.here hx rfl (hb hby d1_1) rfl rfl) ?_
  refine go (fun _ => XT.iconstV X0.here hx rfl (0 : Int32) (hb hby d1_2) (by decide)) ?_
  refine go (fun _ => XS.aloadN X0.here hx rfl (hb hby d1_3) rfl rfl) ?_
  show Ends p e below _ T0 (mkF m 4 #[rv a, rv aC] [(.ref aC), (.int (0 : Int32)), (.ref aC), (.ref a)])
  obtain ⟨cl70, A70, -, S70, M70, -⟩ := id VC
  refine go (fun _ => X0.arraylength hx (cell := cl70) (by rw [e0]; exact A70.1) (State.isArrayOf_alike hZ.alike A70.2.1) (g := (mkF m 4 #[rv a, rv aC] [(.ref aC), (.int (0 : Int32)), (.ref aC), (.ref a)])) rfl rfl (hb hby d1_4) _) ?_
  rw [len_of S70 M70]
  show Ends p e below _ T0 (mkF m 5 #[rv a, rv aC] [(.int (2 : Int32)), (.int (0 : Int32)), (.ref aC), (.ref a)])
  refine go (fun _ => XS.aconstNull X0.here hx rfl (hb hby d1_5)) ?_
  show Ends p e below _ T0 (mkF m 6 #[rv a, rv aC] [.null, (.int (2 : Int32)), (.int (0 : Int32)), (.ref aC), (.ref a)])
  refine cInit X0 hx hZ hown (by rw [hml]; rfl) e0 (hwi hw 36 rfl) (hwi hw 37 rfl) (hwi hw 31 rfl) (hwi hw 39 rfl) a [(.ref aC), (.int (0 : Int32)), (.int (2 : Int32)), .null] [] rfl (rm_new4_2 hw a aC kC y0 y1 _ O0 f0 ne0 E0 FV FC cz SCS hcz VC l0 l1) (hb hby d1_6) rfl (lenOf pd_1 rfl) rfl (by decide) (by decide) (Nat.le_of_ble_eq_true rfl) (by decide) (by decide) ?_
  rintro v71 T71 h71 L71 X71 e71 ⟨b71, k71, rfl, N71, K71, g71, Fv71, Fc71, V71⟩
  have N71a := Fr.app (Fr.nil _) N71
  have n72 : a ≠ b71 := Nat.ne_of_lt (Nat.lt_of_lt_of_le (E0.lt) g71)
  have n73 : aC ≠ b71 := Nat.ne_of_lt (Nat.lt_of_lt_of_le (VC.lt) g71)
  have f74 : Z.heap.size ≤ b71 := Nat.le_trans (O0).1 g71
  have K75 : Keep h0 h0 [a] := (Keep.refl _ _)
  have b74 : h0.size ≤ b71 := Nat.le_trans (K75).1 g71
  have O76 : Ext Z.heap h71 := xk O0 K71 (allS f0 all0)
  show Ends p e below _ T71 (mkF m 9 #[rv a, rv aC] [])
  have K77 : Keep h0 h71 [a] := (Keep.trans K75 K71 (allS (Or.inl (List.mem_of_getElem? (i := 0) rfl)) all0))
  exact endV X71 hx hret (hb hby d1_9) (lvN X71 hlk e71 (fun _ => rfl) ⟨b71, _, rfl, N71a, K77, b74, Fv71, Fc71, V71⟩ (by decide) (by decide))
set_option maxRecDepth 65536 in
set_option maxHeartbeats 40000000 in
theorem rm_cmp5_3 {l : Launch} {Z : State} {a0 : Array Value} (hw : ∀ d ∈ tables_1, d.before a0 Z = true) (aC aB : Addr) (kC kB : ClassId) (y0 y1 y2 : Int32)  (h0 : Heap) (O0 : Ext Z.heap h0) (f0 : Z.heap.size ≤ aB) (ne0 : aC ≠ aB) (VC : Arv Z h0 aC kC .char (3 : Int32) [(.int y0), (.int y1), (.int y2)] (.int 0)) (VB : Arv Z h0 aB kB .byte (3 : Int32) [(.int (0 : Int32)), (.int (0 : Int32)), (.int (0 : Int32))] (.int 0)) (l0 : ¬ (255 : Int32) < y0) (l1 : ¬ (255 : Int32) < y1) (l2 : ¬ (255 : Int32) < y2) :
    Con l (⟨"java/lang/StringUTF16", "compress", "([CI[BII)I"⟩ : MethodName) jdk_52_method_21_code 7 (some .int) ({ frames := 0, cells := 0, slots := 0, locals := 0 } : Room) Z #[(.ref aC), (.int (0 : Int32)), (.ref aB), (.int (0 : Int32)), (.int (3 : Int32))] h0 (fun v h L => v = some (.int (3 : Int32)) ∧ Fr Z.heap.size L ∧ Keep h0 h [aB] ∧ Arv Z h aB kB .byte (3 : Int32) [(.int y0.toInt8.toInt32), (.int y1.toInt8.toInt32), (.int y2.toInt8.toInt32)] (.int 0)) := by
  refine Con.of (plainFor_of_name pn_2) (Ls := #[rv aC, iv (0 : Int32), rv aB, iv (0 : Int32), iv (3 : Int32), .unset, .unset]) (fun m => efOf rfl) ?_
  intro p e s m below meth c T0 X0 hx hZ hby hml hown hnm hret hlk e0
  refine go (fun _ => XT.iconstV X0.here hx rfl (0 : Int32) (hb hby d2_0) (by decide)) ?_
  refine go (fun _ => XS.istore X0.here hx rfl (hb hby d2_1) rfl (l' := #[rv aC, iv (0 : Int32), rv aB, iv (0 : Int32), iv (3 : Int32), iv (0 : Int32), .unset]) rfl) ?_
  refine go (fun _ => XS.iload X0.here hx rfl (hb hby d2_3) rfl) ?_
  refine go (fun _ => XS.iload X0.here hx rfl (hb hby d2_5) rfl) ?_
  show Ends p e below _ T0 (mkF m 7 #[rv aC, iv (0 : Int32), rv aB, iv (0 : Int32), iv (3 : Int32), iv (0 : Int32), .unset] [(.int (3 : Int32)), (.int (0 : Int32))])
  refine go (fun _ => XS.icmpNo X0.here hx rfl (hb hby d2_7) rfl (XT.ii_ge_f ((by decide) : (0 : Int32) < (3 : Int32)))) ?_
  show Ends p e below _ T0 (mkF m 10 #[rv aC, iv (0 : Int32), rv aB, iv (0 : Int32), iv (3 : Int32), iv (0 : Int32), .unset] [])
  refine go (fun _ => XS.aloadN X0.here hx rfl (hb hby d2_10) rfl rfl) ?_
  refine go (fun _ => XS.iloadN X0.here hx rfl (hb hby d2_11) rfl) ?_
  show Ends p e below _ T0 (mkF m 12 #[rv aC, iv (0 : Int32), rv aB, iv (0 : Int32), iv (3 : Int32), iv (0 : Int32), .unset] [(.int (0 : Int32)), (.ref aC)])
  obtain ⟨cl78, A78, -, S78, M78, H78, -⟩ := id VC
  have B78 := inb_of S78 (j := (0 : Int32)) (by decide)
  refine go (fun _ => X0.caload hx (j := (0 : Int32)) (v := (.int y0)) (by rw [e0]; exact A78.1) (State.isArrayOf_alike hZ.alike A78.2.1) A78.2.2 B78 (H78.at B78 rfl) (g := (mkF m 12 #[rv aC, iv (0 : Int32), rv aB, iv (0 : Int32), iv (3 : Int32), iv (0 : Int32), .unset] [(.int (0 : Int32)), (.ref aC)])) rfl rfl (hb hby d2_12) _) ?_
  show Ends p e below _ T0 (mkF m 13 #[rv aC, iv (0 : Int32), rv aB, iv (0 : Int32), iv (3 : Int32), iv (0 : Int32), .unset] [(.int y0)])
  refine go (fun _ => XS.istore X0.here hx rfl (hb hby d2_13) rfl (l' := #[rv aC, iv (0 : Int32), rv aB, iv (0 : Int32), iv (3 : Int32), iv (0 : Int32), iv y0]) rfl) ?_
  refine go (fun _ => XS.iload X0.here hx rfl (hb hby d2_15) rfl) ?_
  refine go (fun _ => XT.sipushV X0.here hx rfl (255 : Int32) (hb hby d2_17) (by decide)) ?_
  show Ends p e below _ T0 (mkF m 20 #[rv aC, iv (0 : Int32), rv aB, iv (0 : Int32), iv (3 : Int32), iv (0 : Int32), iv y0] [(.int (255 : Int32)), (.int y0)])
  refine go (fun _ => XS.icmpYes X0.here hx rfl (pc0 := 20) (pc' := 26) rfl (hb hby d2_20) rfl (XT.ii_le_t l0) (by decide) (by decide)) ?_
  show Ends p e below _ T0 (mkF m 26 #[rv aC, iv (0 : Int32), rv aB, iv (0 : Int32), iv (3 : Int32), iv (0 : Int32), iv y0] [])
  refine go (fun _ => XS.aloadN X0.here hx rfl (hb hby d2_26) rfl rfl) ?_
  refine go (fun _ => XS.iloadN X0.here hx rfl (hb hby d2_27) rfl) ?_
  refine go (fun _ => XS.iload X0.here hx rfl (hb hby d2_28) rfl) ?_
  refine go (fun _ => XT.i2b X0.here hx rfl (hb hby d2_30) rfl) ?_
  show Ends p e below _ T0 (mkF m 31 #[rv aC, iv (0 : Int32), rv aB, iv (0 : Int32), iv (3 : Int32), iv (0 : Int32), iv y0] [(.int y0.toInt8.toInt32), (.int (0 : Int32)), (.ref aB)])
  obtain ⟨cl79, A79, q79, S79, M79, H79, G79⟩ := id VB
  obtain ⟨T79, h79, X79, e79, W79, s79⟩ := stB X0 hx hZ e0 A79 (j := (0 : Int32)) (inb_of S79 (by decide)) (g := (mkF m 31 #[rv aC, iv (0 : Int32), rv aB, iv (0 : Int32), iv (3 : Int32), iv (0 : Int32), iv y0] [(.int y0.toInt8.toInt32), (.int (0 : Int32)), (.ref aB)])) rfl rfl (hb hby d2_31)
  have r79 : nar .byte y0.toInt8.toInt32 = y0.toInt8.toInt32 := own_nb _
  rw [r79] at W79
  have N79 := Fr.snoc X79 (Fr.nil _) f0
  have O80 : Ext Z.heap h79 := xw O0 W79 f0
  have V79 : Arv Z h79 aB kB .byte (3 : Int32) [(.int y0.toInt8.toInt32), (.int (0 : Int32)), (.int (0 : Int32))] (.int 0) := Arv.set A79 q79 S79 M79 H79 G79 (by first | rfl | exact fits_nar_byte y0.toInt8.toInt32 | (rw [← r79]; exact fits_nar_byte y0.toInt8.toInt32)) W79 0 (by decide) (Nat.le_of_ble_eq_true rfl)
  refine go s79 ?_
  show Ends p e below _ T79 (mkF m 32 #[rv aC, iv (0 : Int32), rv aB, iv (0 : Int32), iv (3 : Int32), iv (0 : Int32), iv y0] [])
  refine go (fun _ => XT.iincV X79.here hx rfl (1 : Int32) (hb hby d2_32) (by decide) rfl (l' := #[rv aC, iv (1 : Int32), rv aB, iv (0 : Int32), iv (3 : Int32), iv (0 : Int32), iv y0]) rfl) ?_
  refine go (fun _ => XT.iincV X79.here hx rfl (1 : Int32) (hb hby d2_35) (by decide) rfl (l' := #[rv aC, iv (1 : Int32), rv aB, iv (1 : Int32), iv (3 : Int32), iv (0 : Int32), iv y0]) rfl) ?_
  refine go (fun _ => XT.iincV X79.here hx rfl (1 : Int32) (hb hby d2_38) (by decide) rfl (l' := #[rv aC, iv (1 : Int32), rv aB, iv (1 : Int32), iv (3 : Int32), iv (1 : Int32), iv y0]) rfl) ?_
  refine go (fun _ => XS.goto X79.here hx rfl (pc0 := 41) (pc' := 3) rfl (hb hby d2_41) (by decide) (by decide)) ?_
  refine go (fun _ => XS.iload X79.here hx rfl (hb hby d2_3) rfl) ?_
  refine go (fun _ => XS.iload X79.here hx rfl (hb hby d2_5) rfl) ?_
  show Ends p e below _ T79 (mkF m 7 #[rv aC, iv (1 : Int32), rv aB, iv (1 : Int32), iv (3 : Int32), iv (1 : Int32), iv y0] [(.int (3 : Int32)), (.int (1 : Int32))])
  refine go (fun _ => XS.icmpNo X79.here hx rfl (hb hby d2_7) rfl (XT.ii_ge_f ((by decide) : (1 : Int32) < (3 : Int32)))) ?_
  show Ends p e below _ T79 (mkF m 10 #[rv aC, iv (1 : Int32), rv aB, iv (1 : Int32), iv (3 : Int32), iv (1 : Int32), iv y0] [])
  refine go (fun _ => XS.aloadN X79.here hx rfl (hb hby d2_10) rfl rfl) ?_
  refine go (fun _ => XS.iloadN X79.here hx rfl (hb hby d2_11) rfl) ?_
  show Ends p e below _ T79 (mkF m 12 #[rv aC, iv (1 : Int32), rv aB, iv (1 : Int32), iv (3 : Int32), iv (1 : Int32), iv y0] [(.int (1 : Int32)), (.ref aC)])
  have F81 := (Arv.other VC W79 ne0)
  obtain ⟨cl82, A82, -, S82, M82, H82, -⟩ := id F81
  have B82 := inb_of S82 (j := (1 : Int32)) (by decide)
  refine go (fun _ => X79.caload hx (j := (1 : Int32)) (v := (.int y1)) (by rw [e79]; exact A82.1) (State.isArrayOf_alike hZ.alike A82.2.1) A82.2.2 B82 (H82.at B82 rfl) (g := (mkF m 12 #[rv aC, iv (1 : Int32), rv aB, iv (1 : Int32), iv (3 : Int32), iv (1 : Int32), iv y0] [(.int (1 : Int32)), (.ref aC)])) rfl rfl (hb hby d2_12) _) ?_
  show Ends p e below _ T79 (mkF m 13 #[rv aC, iv (1 : Int32), rv aB, iv (1 : Int32), iv (3 : Int32), iv (1 : Int32), iv y0] [(.int y1)])
  refine go (fun _ => XS.istore X79.here hx rfl (hb hby d2_13) rfl (l' := #[rv aC, iv (1 : Int32), rv aB, iv (1 : Int32), iv (3 : Int32), iv (1 : Int32), iv y1]) rfl) ?_
  refine go (fun _ => XS.iload X79.here hx rfl (hb hby d2_15) rfl) ?_
  refine go (fun _ => XT.sipushV X79.here hx rfl (255 : Int32) (hb hby d2_17) (by decide)) ?_
  show Ends p e below _ T79 (mkF m 20 #[rv aC, iv (1 : Int32), rv aB, iv (1 : Int32), iv (3 : Int32), iv (1 : Int32), iv y1] [(.int (255 : Int32)), (.int y1)])
  refine go (fun _ => XS.icmpYes X79.here hx rfl (pc0 := 20) (pc' := 26) rfl (hb hby d2_20) rfl (XT.ii_le_t l1) (by decide) (by decide)) ?_
  show Ends p e below _ T79 (mkF m 26 #[rv aC, iv (1 : Int32), rv aB, iv (1 : Int32), iv (3 : Int32), iv (1 : Int32), iv y1] [])
  refine go (fun _ => XS.aloadN X79.here hx rfl (hb hby d2_26) rfl rfl) ?_
  refine go (fun _ => XS.iloadN X79.here hx rfl (hb hby d2_27) rfl) ?_
  refine go (fun _ => XS.iload X79.here hx rfl (hb hby d2_28) rfl) ?_
  refine go (fun _ => XT.i2b X79.here hx rfl (hb hby d2_30) rfl) ?_
  show Ends p e below _ T79 (mkF m 31 #[rv aC, iv (1 : Int32), rv aB, iv (1 : Int32), iv (3 : Int32), iv (1 : Int32), iv y1] [(.int y1.toInt8.toInt32), (.int (1 : Int32)), (.ref aB)])
  obtain ⟨cl83, A83, q83, S83, M83, H83, G83⟩ := id V79
  obtain ⟨T83, h83, X83, e83, W83, s83⟩ := stB X79 hx hZ e79 A83 (j := (1 : Int32)) (inb_of S83 (by decide)) (g := (mkF m 31 #[rv aC, iv (1 : Int32), rv aB, iv (1 : Int32), iv (3 : Int32), iv (1 : Int32), iv y1] [(.int y1.toInt8.toInt32), (.int (1 : Int32)), (.ref aB)])) rfl rfl (hb hby d2_31)
  have r83 : nar .byte y1.toInt8.toInt32 = y1.toInt8.toInt32 := own_nb _
  rw [r83] at W83
  have N83 := Fr.snoc X83 N79 f0
  have O84 : Ext Z.heap h83 := xw O80 W83 f0
  have V83 : Arv Z h83 aB kB .byte (3 : Int32) [(.int y0.toInt8.toInt32), (.int y1.toInt8.toInt32), (.int (0 : Int32))] (.int 0) := Arv.set A83 q83 S83 M83 H83 G83 (by first | rfl | exact fits_nar_byte y1.toInt8.toInt32 | (rw [← r83]; exact fits_nar_byte y1.toInt8.toInt32)) W83 1 (by decide) (Nat.le_of_ble_eq_true rfl)
  refine go s83 ?_
  show Ends p e below _ T83 (mkF m 32 #[rv aC, iv (1 : Int32), rv aB, iv (1 : Int32), iv (3 : Int32), iv (1 : Int32), iv y1] [])
  refine go (fun _ => XT.iincV X83.here hx rfl (1 : Int32) (hb hby d2_32) (by decide) rfl (l' := #[rv aC, iv (2 : Int32), rv aB, iv (1 : Int32), iv (3 : Int32), iv (1 : Int32), iv y1]) rfl) ?_
  refine go (fun _ => XT.iincV X83.here hx rfl (1 : Int32) (hb hby d2_35) (by decide) rfl (l' := #[rv aC, iv (2 : Int32), rv aB, iv (2 : Int32), iv (3 : Int32), iv (1 : Int32), iv y1]) rfl) ?_
  refine go (fun _ => XT.iincV X83.here hx rfl (1 : Int32) (hb hby d2_38) (by decide) rfl (l' := #[rv aC, iv (2 : Int32), rv aB, iv (2 : Int32), iv (3 : Int32), iv (2 : Int32), iv y1]) rfl) ?_
  refine go (fun _ => XS.goto X83.here hx rfl (pc0 := 41) (pc' := 3) rfl (hb hby d2_41) (by decide) (by decide)) ?_
  refine go (fun _ => XS.iload X83.here hx rfl (hb hby d2_3) rfl) ?_
  refine go (fun _ => XS.iload X83.here hx rfl (hb hby d2_5) rfl) ?_
  show Ends p e below _ T83 (mkF m 7 #[rv aC, iv (2 : Int32), rv aB, iv (2 : Int32), iv (3 : Int32), iv (2 : Int32), iv y1] [(.int (3 : Int32)), (.int (2 : Int32))])
  refine go (fun _ => XS.icmpNo X83.here hx rfl (hb hby d2_7) rfl (XT.ii_ge_f ((by decide) : (2 : Int32) < (3 : Int32)))) ?_
  show Ends p e below _ T83 (mkF m 10 #[rv aC, iv (2 : Int32), rv aB, iv (2 : Int32), iv (3 : Int32), iv (2 : Int32), iv y1] [])
  refine go (fun _ => XS.aloadN X83.here hx rfl (hb hby d2_10) rfl rfl) ?_
  refine go (fun _ => XS.iloadN X83.here hx rfl (hb hby d2_11) rfl) ?_
  show Ends p e below _ T83 (mkF m 12 #[rv aC, iv (2 : Int32), rv aB, iv (2 : Int32), iv (3 : Int32), iv (2 : Int32), iv y1] [(.int (2 : Int32)), (.ref aC)])
  have F85 := (Arv.other F81 W83 ne0)
  obtain ⟨cl86, A86, -, S86, M86, H86, -⟩ := id F85
  have B86 := inb_of S86 (j := (2 : Int32)) (by decide)
  refine go (fun _ => X83.caload hx (j := (2 : Int32)) (v := (.int y2)) (by rw [e83]; exact A86.1) (State.isArrayOf_alike hZ.alike A86.2.1) A86.2.2 B86 (H86.at B86 rfl) (g := (mkF m 12 #[rv aC, iv (2 : Int32), rv aB, iv (2 : Int32), iv (3 : Int32), iv (2 : Int32), iv y1] [(.int (2 : Int32)), (.ref aC)])) rfl rfl (hb hby d2_12) _) ?_
  show Ends p e below _ T83 (mkF m 13 #[rv aC, iv (2 : Int32), rv aB, iv (2 : Int32), iv (3 : Int32), iv (2 : Int32), iv y1] [(.int y2)])
  refine go (fun _ => XS.istore X83.here hx rfl (hb hby d2_13) rfl (l' := #[rv aC, iv (2 : Int32), rv aB, iv (2 : Int32), iv (3 : Int32), iv (2 : Int32), iv y2]) rfl) ?_
  refine go (fun _ => XS.iload X83.here hx rfl (hb hby d2_15) rfl) ?_
  refine go (fun _ => XT.sipushV X83.here hx rfl (255 : Int32) (hb hby d2_17) (by decide)) ?_
  show Ends p e below _ T83 (mkF m 20 #[rv aC, iv (2 : Int32), rv aB, iv (2 : Int32), iv (3 : Int32), iv (2 : Int32), iv y2] [(.int (255 : Int32)), (.int y2)])
  refine go (fun _ => XS.icmpYes X83.here hx rfl (pc0 := 20) (pc' := 26) rfl (hb hby d2_20) rfl (XT.ii_le_t l2) (by decide) (by decide)) ?_
  show Ends p e below _ T83 (mkF m 26 #[rv aC, iv (2 : Int32), rv aB, iv (2 : Int32), iv (3 : Int32), iv (2 : Int32), iv y2] [])
  refine go (fun _ => XS.aloadN X83.here hx rfl (hb hby d2_26) rfl rfl) ?_
  refine go (fun _ => XS.iloadN X83.here hx rfl (hb hby d2_27) rfl) ?_
  refine go (fun _ => XS.iload X83.here hx rfl (hb hby d2_28) rfl) ?_
  refine go (fun _ => XT.i2b X83.here hx rfl (hb hby d2_30) rfl) ?_
  show Ends p e below _ T83 (mkF m 31 #[rv aC, iv (2 : Int32), rv aB, iv (2 : Int32), iv (3 : Int32), iv (2 : Int32), iv y2] [(.int y2.toInt8.toInt32), (.int (2 : Int32)), (.ref aB)])
  obtain ⟨cl87, A87, q87, S87, M87, H87, G87⟩ := id V83
  obtain ⟨T87, h87, X87, e87, W87, s87⟩ := stB X83 hx hZ e83 A87 (j := (2 : Int32)) (inb_of S87 (by decide)) (g := (mkF m 31 #[rv aC, iv (2 : Int32), rv aB, iv (2 : Int32), iv (3 : Int32), iv (2 : Int32), iv y2] [(.int y2.toInt8.toInt32), (.int (2 : Int32)), (.ref aB)])) rfl rfl (hb hby d2_31)
  have r87 : nar .byte y2.toInt8.toInt32 = y2.toInt8.toInt32 := own_nb _
  rw [r87] at W87
  have N87 := Fr.snoc X87 N83 f0
  have O88 : Ext Z.heap h87 := xw O84 W87 f0
  have V87 : Arv Z h87 aB kB .byte (3 : Int32) [(.int y0.toInt8.toInt32), (.int y1.toInt8.toInt32), (.int y2.toInt8.toInt32)] (.int 0) := Arv.set A87 q87 S87 M87 H87 G87 (by first | rfl | exact fits_nar_byte y2.toInt8.toInt32 | (rw [← r87]; exact fits_nar_byte y2.toInt8.toInt32)) W87 2 (by decide) (Nat.le_of_ble_eq_true rfl)
  refine go s87 ?_
  show Ends p e below _ T87 (mkF m 32 #[rv aC, iv (2 : Int32), rv aB, iv (2 : Int32), iv (3 : Int32), iv (2 : Int32), iv y2] [])
  refine go (fun _ => XT.iincV X87.here hx rfl (1 : Int32) (hb hby d2_32) (by decide) rfl (l' := #[rv aC, iv (3 : Int32), rv aB, iv (2 : Int32), iv (3 : Int32), iv (2 : Int32), iv y2]) rfl) ?_
  refine go (fun _ => XT.iincV X87.here hx rfl (1 : Int32) (hb hby d2_35) (by decide) rfl (l' := #[rv aC, iv (3 : Int32), rv aB, iv (3 : Int32), iv (3 : Int32), iv (2 : Int32), iv y2]) rfl) ?_
  refine go (fun _ => XT.iincV X87.here hx rfl (1 : Int32) (hb hby d2_38) (by decide) rfl (l' := #[rv aC, iv (3 : Int32), rv aB, iv (3 : Int32), iv (3 : Int32), iv (3 : Int32), iv y2]) rfl) ?_
  refine go (fun _ => XS.goto X87.here hx rfl (pc0 := 41) (pc' := 3) rfl (hb hby d2_41) (by decide) (by decide)) ?_
  refine go (fun _ => XS.iload X87.here hx rfl (hb hby d2_3) rfl) ?_
  refine go (fun _ => XS.iload X87.here hx rfl (hb hby d2_5) rfl) ?_
  show Ends p e below _ T87 (mkF m 7 #[rv aC, iv (3 : Int32), rv aB, iv (3 : Int32), iv (3 : Int32), iv (3 : Int32), iv y2] [(.int (3 : Int32)), (.int (3 : Int32))])
  refine go (fun _ => XS.icmpYes X87.here hx rfl (pc0 := 7) (pc' := 44) rfl (hb hby d2_7) rfl (XT.ii_ge_t ((by decide) : ¬ ((3 : Int32) < (3 : Int32)))) (by decide) (by decide)) ?_
  show Ends p e below _ T87 (mkF m 44 #[rv aC, iv (3 : Int32), rv aB, iv (3 : Int32), iv (3 : Int32), iv (3 : Int32), iv y2] [])
  refine go (fun _ => XS.iload X87.here hx rfl (hb hby d2_44) rfl) ?_
  show Ends p e below _ T87 (mkF m 46 #[rv aC, iv (3 : Int32), rv aB, iv (3 : Int32), iv (3 : Int32), iv (3 : Int32), iv y2] [(.int (3 : Int32))])
  have K89 : Keep h0 h87 [aB] := (Keep.wr (Keep.wr (Keep.wr (Keep.refl _ _) W79 (Or.inl (List.mem_of_getElem? (i := 0) rfl))) W83 (Or.inl (List.mem_of_getElem? (i := 0) rfl))) W87 (Or.inl (List.mem_of_getElem? (i := 0) rfl)))
  exact endI X87 hx hret (hb hby d2_46) (lvN X87 hlk e87 (fun h => by rw [hret] at h; cases h) ⟨rfl, N87, K89, V87⟩ (by decide) (by decide))
set_option maxRecDepth 65536 in
set_option maxHeartbeats 40000000 in
theorem rm_cmp3_3 {l : Launch} {Z : State} {a0 : Array Value} (hw : ∀ d ∈ tables_1, d.before a0 Z = true) (aC : Addr) (kC : ClassId) (y0 y1 y2 : Int32)  (h0 : Heap) (O0 : Ext Z.heap h0) (VC : Arv Z h0 aC kC .char (3 : Int32) [(.int y0), (.int y1), (.int y2)] (.int 0)) (l0 : ¬ (255 : Int32) < y0) (l1 : ¬ (255 : Int32) < y1) (l2 : ¬ (255 : Int32) < y2) :
    Con l (⟨"java/lang/StringUTF16", "compress", "([CII)[B"⟩ : MethodName) jdk_52_method_16_code 6 (some (.array .byte)) ({ frames := 1, cells := 1, slots := 3, locals := 18 } : Room) Z #[(.ref aC), (.int (0 : Int32)), (.int (3 : Int32))] h0 (fun v h L => ∃ (b : Addr) (k : ClassId), v = some (.ref b) ∧ Fr Z.heap.size L ∧ Keep h0 h [] ∧ h0.size ≤ b ∧ Arv Z h b k .byte (3 : Int32) [(.int y0.toInt8.toInt32), (.int y1.toInt8.toInt32), (.int y2.toInt8.toInt32)] (.int 0)) := by
  refine Con.of (plainFor_of_name pn_2) (Ls := #[rv aC, iv (0 : Int32), iv (3 : Int32), .unset, .unset, .unset]) (fun m => efOf rfl) ?_
  intro p e s m below meth c T0 X0 hx hZ hby hml hown hnm hret hlk e0
  refine go (fun _ => XS.iloadN X0.here hx rfl (hb hby d3_0) rfl) ?_
  show Ends p e below _ T0 (mkF m 1 #[rv aC, iv (0 : Int32), iv (3 : Int32), .unset, .unset, .unset] [(.int (3 : Int32))])
  obtain ⟨T90, h90, k90, X90, e90, E90, A90, s90⟩ := newP X0 hx hZ (hwi hw 42 rfl) e0 (g := (mkF m 1 #[rv aC, iv (0 : Int32), iv (3 : Int32), .unset, .unset, .unset] [(.int (3 : Int32))])) rfl (hb hby d3_1) rfl (by decide) (cap := 3) (by decide) (by decide) (by decide) (by decide)
  obtain ⟨a90, g90⟩ : ∃ z : Addr, z = h0.size := ⟨_, rfl⟩
  have n91 : aC ≠ a90 := fun q => absurd (VC.lt) (by rw [q, g90]; exact Nat.lt_irrefl _)
  have f90 : Z.heap.size ≤ a90 := by rw [g90]; exact (O0).1
  have K92 : Keep h0 h0 [] := (Keep.refl _ _)
  have b90 : h0.size ≤ a90 := by rw [g90]; exact (K92).1
  rw [← g90] at A90 s90
  have O93 : Ext Z.heap h90 := xx O0 E90
  have V90 : Arv Z h90 a90 k90 .byte (3 : Int32) [(.int (0 : Int32)), (.int (0 : Int32)), (.int (0 : Int32))] (.int 0) := Arv.pad (Arv.new A90 (by decide)) (pad_rep [] _ 3)
  refine go s90 ?_
  show Ends p e below _ T90 (mkF m 3 #[rv aC, iv (0 : Int32), iv (3 : Int32), .unset, .unset, .unset] [(.ref a90)])
  refine go (fun _ => XS.astoreN X90.here hx rfl (hb hby d3_3) rfl rfl (l' := #[rv aC, iv (0 : Int32), iv (3 : Int32), rv a90, .unset, .unset]) rfl) ?_
  refine go (fun _ => XS.aloadN X90.here hx rfl (hb hby d3_4) rfl rfl) ?_
  refine go (fun _ => XS.iloadN X90.here hx rfl (hb hby d3_5) rfl) ?_
  refine go (fun _ => XS.aloadN X90.here hx rfl (hb hby d3_6) rfl rfl) ?_
  refine go (fun _ => XT.iconstV X90.here hx rfl (0 : Int32) (hb hby d3_7) (by decide)) ?_
  refine go (fun _ => XS.iloadN X90.here hx rfl (hb hby d3_8) rfl) ?_
  show Ends p e below _ T90 (mkF m 9 #[rv aC, iv (0 : Int32), iv (3 : Int32), rv a90, .unset, .unset] [(.int (3 : Int32)), (.int (0 : Int32)), (.ref a90), (.int (0 : Int32)), (.ref aC)])
  have F94 := (Arv.ext VC E90)
  refine cStat X90 hx hZ hown (by rw [hml]; rfl) e90 (hwi hw 54 rfl) (hwi hw 55 rfl) (hwi hw 52 rfl) (hwi hw 56 rfl) [(.ref aC), (.int (0 : Int32)), (.ref a90), (.int (0 : Int32)), (.int (3 : Int32))] [] rfl (rm_cmp5_3 hw aC a90 kC k90 y0 y1 y2 _ O93 f90 n91 F94 V90 l0 l1 l2) (hb hby d3_9) rfl (lenOf pd_3 rfl) (by decide) (by decide) (Nat.le_of_ble_eq_true rfl) (by decide) (by decide) ?_
  rintro v95 T95 h95 L95 X95 e95 ⟨rfl, N95, K95, V95⟩
  have N95a := Fr.app (Fr.nil _) N95
  have O96 : Ext Z.heap h95 := xk O93 K95 (allS f90 all0)
  show Ends p e below _ T95 (mkF m 12 #[rv aC, iv (0 : Int32), iv (3 : Int32), rv a90, .unset, .unset] [(.int (3 : Int32))])
  refine go (fun _ => XS.istore X95.here hx rfl (hb hby d3_12) rfl (l' := #[rv aC, iv (0 : Int32), iv (3 : Int32), rv a90, iv (3 : Int32), .unset]) rfl) ?_
  refine go (fun _ => XS.iload X95.here hx rfl (hb hby d3_14) rfl) ?_
  refine go (fun _ => XS.iloadN X95.here hx rfl (hb hby d3_16) rfl) ?_
  show Ends p e below _ T95 (mkF m 17 #[rv aC, iv (0 : Int32), iv (3 : Int32), rv a90, iv (3 : Int32), .unset] [(.int (3 : Int32)), (.int (3 : Int32))])
  refine go (fun _ => XS.icmpYes X95.here hx rfl (pc0 := 17) (pc' := 57) rfl (hb hby d3_17) rfl (XT.ii_eq_t ((by decide) : (3 : Int32) = (3 : Int32))) (by decide) (by decide)) ?_
  show Ends p e below _ T95 (mkF m 57 #[rv aC, iv (0 : Int32), iv (3 : Int32), rv a90, iv (3 : Int32), .unset] [])
  refine go (fun _ => XS.aloadN X95.here hx rfl (hb hby d3_57) rfl rfl) ?_
  show Ends p e below _ T95 (mkF m 58 #[rv aC, iv (0 : Int32), iv (3 : Int32), rv a90, iv (3 : Int32), .unset] [(.ref a90)])
  have K97 : Keep h0 h95 [] := (Keep.trans (Keep.ext K92 E90) K95 (allS (Or.inr b90) all0))
  exact endA X95 hx hret rfl rfl (hb hby d3_58) (lvN X95 hlk e95 (fun h => by rw [hret] at h; cases h) ⟨a90, _, rfl, N95a, K97, b90, V95⟩ (by decide) (by decide))
set_option maxRecDepth 65536 in
set_option maxHeartbeats 40000000 in
theorem rm_coder_3 {l : Launch} {Z : State} {a0 : Array Value} (hw : ∀ d ∈ tables_1, d.before a0 Z = true) (aB : Addr) (kB : ClassId) (vs : List Value) (h0 : Heap) (VB : Arv Z h0 aB kB .byte (3 : Int32) vs (.int 0)) :
    Con l (⟨"java/lang/StringUTF16", "coderFromArrayLen", "([BI)B"⟩ : MethodName) jdk_52_method_15_code 2 (some .byte) ({ frames := 0, cells := 0, slots := 0, locals := 0 } : Room) Z #[(.ref aB), (.int (3 : Int32))] h0 (fun v h L => v = some (.int 0) ∧ Fr Z.heap.size L ∧ h0 = h) := by
  refine Con.of (plainFor_of_name pn_2) (Ls := #[rv aB, iv (3 : Int32)]) (fun m => efOf rfl) ?_
  intro p e s m below meth c T0 X0 hx hZ hby hml hown hnm hret hlk e0
  refine go (fun _ => XS.iloadN X0.here hx rfl (hb hby d4_0) rfl) ?_
  refine go (fun _ => XS.aloadN X0.here hx rfl (hb hby d4_1) rfl rfl) ?_
  show Ends p e below _ T0 (mkF m 2 #[rv aB, iv (3 : Int32)] [(.ref aB), (.int (3 : Int32))])
  obtain ⟨cl98, A98, -, S98, M98, -⟩ := id VB
  refine go (fun _ => X0.arraylength hx (cell := cl98) (by rw [e0]; exact A98.1) (State.isArrayOf_alike hZ.alike A98.2.1) (g := (mkF m 2 #[rv aB, iv (3 : Int32)] [(.ref aB), (.int (3 : Int32))])) rfl rfl (hb hby d4_2) _) ?_
  rw [len_of S98 M98]
  show Ends p e below _ T0 (mkF m 3 #[rv aB, iv (3 : Int32)] [(.int (3 : Int32)), (.int (3 : Int32))])
  refine go (fun _ => XS.isub X0.here hx rfl (hb hby d4_3) rfl) ?_
  refine go (fun _ => XT.bipushV X0.here hx rfl (31 : Int32) (hb hby d4_4) (by decide)) ?_
  refine go (fun _ => XT.iushr X0.here hx rfl (hb hby d4_6) rfl) ?_
  refine go (fun _ => XT.i2b X0.here hx rfl (hb hby d4_7) rfl) ?_
  show Ends p e below _ T0 (mkF m 8 #[rv aB, iv (3 : Int32)] [(.int (0 : Int32))])
  exact endN X0 hx hret (by simp) (hb hby d4_8) (lvN X0 hlk e0 (fun h => by rw [hret] at h; cases h) ⟨rfl, (Fr.nil _), rfl⟩ (by decide) (by decide))
set_option maxRecDepth 65536 in
set_option maxHeartbeats 40000000 in
theorem rm_new4_3 {l : Launch} {Z : State} {a0 : Array Value} (hw : ∀ d ∈ tables_1, d.before a0 Z = true) (a aC : Addr) (kC : ClassId) (y0 y1 y2 : Int32)  (h0 : Heap) (O0 : Ext Z.heap h0) (f0 : Z.heap.size ≤ a) (ne0 : a ≠ aC) (E0 : Exa Z h0 a "java/lang/String") (FV : Fld Z h0 a "java/lang/String" "value" "[B" .null) (FC : Fld Z h0 a "java/lang/String" "coder" "B" (.int 0)) (cz : Int32) (SCS : Sta Z Z.heap "java/lang/String" "COMPACT_STRINGS" "Z" (.int cz)) (hcz : ¬ cz = (0 : Int32)) (VC : Arv Z h0 aC kC .char (3 : Int32) [(.int y0), (.int y1), (.int y2)] (.int 0)) (l0 : ¬ (255 : Int32) < y0) (l1 : ¬ (255 : Int32) < y1) (l2 : ¬ (255 : Int32) < y2) :
    Con l (⟨"java/lang/String", "<init>", "([CIILjava/lang/Void;)V"⟩ : MethodName) jdk_42_method_149_code 6 none ({ frames := 2, cells := 1, slots := 3, locals := 35 } : Room) Z #[(.ref a), (.ref aC), (.int (0 : Int32)), (.int (3 : Int32)), .null] h0 (fun v h L => ∃ (b : Addr) (k : ClassId), v = none ∧ Fr Z.heap.size L ∧ Keep h0 h [a] ∧ h0.size ≤ b ∧ Fld Z h a "java/lang/String" "value" "[B" (.ref b) ∧ Fld Z h a "java/lang/String" "coder" "B" (.int 0) ∧ Arv Z h b k .byte (3 : Int32) [(.int y0.toInt8.toInt32), (.int y1.toInt8.toInt32), (.int y2.toInt8.toInt32)] (.int 0)) := by
  refine Con.of (plainFor_of_name pn_0) (Ls := #[rv a, rv aC, iv (0 : Int32), iv (3 : Int32), .val .null, .unset]) (fun m => efOf rfl) ?_
  intro p e s m below meth c T0 X0 hx hZ hby hml hown hnm hret hlk e0
  refine go (fun _ => XS.aloadN X0.here hx rfl (hb hby d0_0) rfl rfl) ?_
  show Ends p e below _ T0 (mkF m 1 #[rv a, rv aC, iv (0 : Int32), iv (3 : Int32), .val .null, .unset] [(.ref a)])
  obtain ⟨T99, X99, e99, s99⟩ := initO X0 hx hZ hown (hwi hw 40 rfl) (hwi hw 16 rfl) (hwi hw 17 rfl) e0 (g := (mkF m 1 #[rv a, rv aC, iv (0 : Int32), iv (3 : Int32), .val .null, .unset] [(.ref a)])) rfl (by rw [hml]; rfl) rfl (hb hby d0_1) (by decide) (W := 0) (by show 2 * 0 + _ ≤ _; exact Nat.le_of_eq rfl) (by decide)
  refine go s99 ?_
  show Ends p e below _ T99 (mkF m 4 #[rv a, rv aC, iv (0 : Int32), iv (3 : Int32), .val .null, .unset] [])
  refine go (fun _ => XS.iloadN X99.here hx rfl (hb hby d0_4) rfl) ?_
  show Ends p e below _ T99 (mkF m 5 #[rv a, rv aC, iv (0 : Int32), iv (3 : Int32), .val .null, .unset] [(.int (3 : Int32))])
  refine go (fun _ => XS.ifYes X99.here hx rfl (pc0 := 5) (pc' := 27) rfl (hb hby d0_5) rfl (XT.i0_ne_t ((by decide) : ¬ ((3 : Int32) = (0 : Int32)))) (by decide) (by decide)) ?_
  show Ends p e below _ T99 (mkF m 27 #[rv a, rv aC, iv (0 : Int32), iv (3 : Int32), .val .null, .unset] [])
  obtain ⟨T100, X100, e100, s100⟩ := getS2 X99 hx hZ hown (host := "") (Or.inl (hwi hw 49 rfl)) Via.refl e99 (Sta.ext O0 SCS) (g := (mkF m 27 #[rv a, rv aC, iv (0 : Int32), iv (3 : Int32), .val .null, .unset] [])) rfl (hb hby d0_27)
  refine go s100 ?_
  show Ends p e below _ T100 (mkF m 30 #[rv a, rv aC, iv (0 : Int32), iv (3 : Int32), .val .null, .unset] [(.int cz)])
  refine go (fun _ => XS.ifNo X100.here hx rfl (hb hby d0_30) rfl (XT.i0_eq_f hcz)) ?_
  show Ends p e below _ T100 (mkF m 33 #[rv a, rv aC, iv (0 : Int32), iv (3 : Int32), .val .null, .unset] [])
  refine go (fun _ => XS.aloadN X100.here hx rfl (hb hby d0_33) rfl rfl) ?_
  refine go (fun _ => XS.iloadN X100.here hx rfl (hb hby d0_34) rfl) ?_
  refine go (fun _ => XS.iloadN X100.here hx rfl (hb hby d0_35) rfl) ?_
  show Ends p e below _ T100 (mkF m 36 #[rv a, rv aC, iv (0 : Int32), iv (3 : Int32), .val .null, .unset] [(.int (3 : Int32)), (.int (0 : Int32)), (.ref aC)])
  refine cStat X100 hx hZ hown (by rw [hml]; rfl) e100 (hwi hw 50 rfl) (hwi hw 51 rfl) (hwi hw 52 rfl) (hwi hw 53 rfl) [(.ref aC), (.int (0 : Int32)), (.int (3 : Int32))] [] rfl (rm_cmp3_3 hw aC kC y0 y1 y2 _ O0 VC l0 l1 l2) (hb hby d0_36) rfl (lenOf pd_4 rfl) (by decide) (by decide) (Nat.le_of_ble_eq_true rfl) (by decide) (by decide) ?_
  rintro v101 T101 h101 L101 X101 e101 ⟨b101, k101, rfl, N101, K101, g101, V101⟩
  have N101a := Fr.app (Fr.nil _) N101
  have n102 : a ≠ b101 := Nat.ne_of_lt (Nat.lt_of_lt_of_le (E0.lt) g101)
  have n103 : aC ≠ b101 := Nat.ne_of_lt (Nat.lt_of_lt_of_le (VC.lt) g101)
  have f104 : Z.heap.size ≤ b101 := Nat.le_trans (O0).1 g101
  have K105 : Keep h0 h0 [a] := (Keep.refl _ _)
  have b104 : h0.size ≤ b101 := Nat.le_trans (K105).1 g101
  have O106 : Ext Z.heap h101 := xk O0 K101 all0
  show Ends p e below _ T101 (mkF m 39 #[rv a, rv aC, iv (0 : Int32), iv (3 : Int32), .val .null, .unset] [(.ref b101)])
  refine go (fun _ => XS.astore X101.here hx rfl (hb hby d0_39) rfl rfl (l' := #[rv a, rv aC, iv (0 : Int32), iv (3 : Int32), .val .null, rv b101]) rfl) ?_
  refine go (fun _ => XS.aloadN X101.here hx rfl (hb hby d0_41) rfl rfl) ?_
  refine go (fun _ => XS.aload X101.here hx rfl (hb hby d0_42) rfl rfl) ?_
  refine go (fun _ => XS.iloadN X101.here hx rfl (hb hby d0_44) rfl) ?_
  show Ends p e below _ T101 (mkF m 45 #[rv a, rv aC, iv (0 : Int32), iv (3 : Int32), .val .null, rv b101] [(.int (3 : Int32)), (.ref b101), (.ref a)])
  refine cStat X101 hx hZ hown (by rw [hml]; rfl) e101 (hwi hw 57 rfl) (hwi hw 58 rfl) (hwi hw 52 rfl) (hwi hw 59 rfl) [(.ref b101), (.int (3 : Int32))] [(.ref a)] rfl (rm_coder_3 hw b101 _ _ _ V101) (hb hby d0_45) rfl (lenOf pd_5 rfl) (by decide) (by decide) (Nat.le_of_ble_eq_true rfl) (by decide) (by decide) ?_
  rintro v107 T107 h107 L107 X107 e107 ⟨rfl, N107, rfl⟩
  have N107a := Fr.app N101a N107
  show Ends p e below _ T107 (mkF m 48 #[rv a, rv aC, iv (0 : Int32), iv (3 : Int32), .val .null, rv b101] [(.int (0 : Int32)), (.ref a)])
  have F108 := (Exa.keep E0 K101)
  have F109 := (Fld.keep FC K101 nin0)
  obtain ⟨T110, h110, X110, e110, W110, s110⟩ := putF X107 hx hZ hown (host := "") (Or.inl (hwi hw 48 rfl)) Via.refl e107 F109 F108 (Or.inr ⟨(hwi hw 44 rfl), rfl, hnm⟩) (hwi hw 30 rfl) (ty := .byte) (by decide) rfl rfl (g := (mkF m 48 #[rv a, rv aC, iv (0 : Int32), iv (3 : Int32), .val .null, rv b101] [(.int (0 : Int32)), (.ref a)])) rfl rfl (hb hby d0_48)
  have N110 := Fr.snoc X110 N107a f0
  have O111 : Ext Z.heap h110 := xw O106 W110 f0
  refine go s110 ?_
  show Ends p e below _ T110 (mkF m 51 #[rv a, rv aC, iv (0 : Int32), iv (3 : Int32), .val .null, rv b101] [])
  refine go (fun _ => XS.aloadN X110.here hx rfl (hb hby d0_51) rfl rfl) ?_
  refine go (fun _ => XS.aload X110.here hx rfl (hb hby d0_52) rfl rfl) ?_
  show Ends p e below _ T110 (mkF m 54 #[rv a, rv aC, iv (0 : Int32), iv (3 : Int32), .val .null, rv b101] [(.ref b101), (.ref a)])
  have F112 := (Exa.wr W110 F108)
  have F113 := (Fld.other W110 (Fld.keep FV K101 nin0) (Or.inr (slot_ne (a0 := a0) (Or.inr (hwi hw 43 rfl)) (Or.inr (hwi hw 44 rfl)) (by decide) (t := (.array .byte)) (t' := .byte) (by decide) (by decide))))
  obtain ⟨T114, h114, X114, e114, W114, s114⟩ := putF X110 hx hZ hown (host := "") (Or.inl (hwi hw 47 rfl)) Via.refl e110 F113 F112 (Or.inr ⟨(hwi hw 43 rfl), rfl, hnm⟩) (hwi hw 30 rfl) (ty := (.array .byte)) (by decide) rfl rfl (g := (mkF m 54 #[rv a, rv aC, iv (0 : Int32), iv (3 : Int32), .val .null, rv b101] [(.ref b101), (.ref a)])) rfl rfl (hb hby d0_54)
  have N114 := Fr.snoc X114 N110 f0
  have O115 : Ext Z.heap h114 := xw O111 W114 f0
  refine go s114 ?_
  show Ends p e below _ T114 (mkF m 57 #[rv a, rv aC, iv (0 : Int32), iv (3 : Int32), .val .null, rv b101] [])
  have K116 : Keep h0 h114 [a] := (Keep.wr (Keep.wr (Keep.trans K105 K101 all0) W110 (Or.inl (List.mem_of_getElem? (i := 0) rfl))) W114 (Or.inl (List.mem_of_getElem? (i := 0) rfl)))
  have F117 := (Fld.same W114 F113)
  have F118 := (Fld.other W114 (Fld.same W110 F109) (Or.inr (slot_ne (a0 := a0) (Or.inr (hwi hw 44 rfl)) (Or.inr (hwi hw 43 rfl)) (by decide) (t := .byte) (t' := (.array .byte)) (by decide) (by decide))))
  have F119 := (Arv.other (Arv.other V101 W110 (Ne.symm n102)) W114 (Ne.symm n102))
  exact endV X114 hx hret (hb hby d0_57) (lvN X114 hlk e114 (fun _ => rfl) ⟨b101, _, rfl, N114, K116, b104, F117, F118, F119⟩ (by decide) (by decide))
set_option maxRecDepth 65536 in
set_option maxHeartbeats 40000000 in
theorem rm_new1_3 {l : Launch} {Z : State} {a0 : Array Value} (hw : ∀ d ∈ tables_1, d.before a0 Z = true) (a aC : Addr) (kC : ClassId) (y0 y1 y2 : Int32)  (h0 : Heap) (O0 : Ext Z.heap h0) (f0 : Z.heap.size ≤ a) (ne0 : a ≠ aC) (E0 : Exa Z h0 a "java/lang/String") (FV : Fld Z h0 a "java/lang/String" "value" "[B" .null) (FC : Fld Z h0 a "java/lang/String" "coder" "B" (.int 0)) (cz : Int32) (SCS : Sta Z Z.heap "java/lang/String" "COMPACT_STRINGS" "Z" (.int cz)) (hcz : ¬ cz = (0 : Int32)) (VC : Arv Z h0 aC kC .char (3 : Int32) [(.int y0), (.int y1), (.int y2)] (.int 0)) (l0 : ¬ (255 : Int32) < y0) (l1 : ¬ (255 : Int32) < y1) (l2 : ¬ (255 : Int32) < y2) :
    Con l (⟨"java/lang/String", "<init>", "([C)V"⟩ : MethodName) jdk_42_method_3_code 2 none ({ frames := 3, cells := 1, slots := 3, locals := 52 } : Room) Z #[(.ref a), (.ref aC)] h0 (fun v h L => ∃ (b : Addr) (k : ClassId), v = none ∧ Fr Z.heap.size L ∧ Keep h0 h [a] ∧ h0.size ≤ b ∧ Fld Z h a "java/lang/String" "value" "[B" (.ref b) ∧ Fld Z h a "java/lang/String" "coder" "B" (.int 0) ∧ Arv Z h b k .byte (3 : Int32) [(.int y0.toInt8.toInt32), (.int y1.toInt8.toInt32), (.int y2.toInt8.toInt32)] (.int 0)) := by
  refine Con.of (plainFor_of_name pn_0) (Ls := #[rv a, rv aC]) (fun m => efOf rfl) ?_
  intro p e s m below meth c T0 X0 hx hZ hby hml hown hnm hret hlk e0
  refine go (fun _ => XS.aloadN X0.here hx rfl (hb hby d1_0) rfl rfl) ?_
  refine go (fun _ => XS.aloadN X0.here hx rfl (hb hby d1_1) rfl rfl) ?_
  refine go (fun _ => XT.iconstV X0.here hx rfl (0 : Int32) (hb hby d1_2) (by decide)) ?_
  refine go (fun _ => XS.aloadN X0.here hx rfl (hb hby d1_3) rfl rfl) ?_
  show Ends p e below _ T0 (mkF m 4 #[rv a, rv aC] [(.ref aC), (.int (0 : Int32)), (.ref aC), (.ref a)])
  obtain ⟨cl120, A120, -, S120, M120, -⟩ := id VC
  refine go (fun _ => X0.arraylength hx (cell := cl120) (by rw [e0]; exact A120.1) (State.isArrayOf_alike hZ.alike A120.2.1) (g := (mkF m 4 #[rv a, rv aC] [(.ref aC), (.int (0 : Int32)), (.ref aC), (.ref a)])) rfl rfl (hb hby d1_4) _) ?_
  rw [len_of S120 M120]
  show Ends p e below _ T0 (mkF m 5 #[rv a, rv aC] [(.int (3 : Int32)), (.int (0 : Int32)), (.ref aC), (.ref a)])
  refine go (fun _ => XS.aconstNull X0.here hx rfl (hb hby d1_5)) ?_
  show Ends p e below _ T0 (mkF m 6 #[rv a, rv aC] [.null, (.int (3 : Int32)), (.int (0 : Int32)), (.ref aC), (.ref a)])
  refine cInit X0 hx hZ hown (by rw [hml]; rfl) e0 (hwi hw 36 rfl) (hwi hw 37 rfl) (hwi hw 31 rfl) (hwi hw 39 rfl) a [(.ref aC), (.int (0 : Int32)), (.int (3 : Int32)), .null] [] rfl (rm_new4_3 hw a aC kC y0 y1 y2 _ O0 f0 ne0 E0 FV FC cz SCS hcz VC l0 l1 l2) (hb hby d1_6) rfl (lenOf pd_1 rfl) rfl (by decide) (by decide) (Nat.le_of_ble_eq_true rfl) (by decide) (by decide) ?_
  rintro v121 T121 h121 L121 X121 e121 ⟨b121, k121, rfl, N121, K121, g121, Fv121, Fc121, V121⟩
  have N121a := Fr.app (Fr.nil _) N121
  have n122 : a ≠ b121 := Nat.ne_of_lt (Nat.lt_of_lt_of_le (E0.lt) g121)
  have n123 : aC ≠ b121 := Nat.ne_of_lt (Nat.lt_of_lt_of_le (VC.lt) g121)
  have f124 : Z.heap.size ≤ b121 := Nat.le_trans (O0).1 g121
  have K125 : Keep h0 h0 [a] := (Keep.refl _ _)
  have b124 : h0.size ≤ b121 := Nat.le_trans (K125).1 g121
  have O126 : Ext Z.heap h121 := xk O0 K121 (allS f0 all0)
  show Ends p e below _ T121 (mkF m 9 #[rv a, rv aC] [])
  have K127 : Keep h0 h121 [a] := (Keep.trans K125 K121 (allS (Or.inl (List.mem_of_getElem? (i := 0) rfl)) all0))
  exact endV X121 hx hret (hb hby d1_9) (lvN X121 hlk e121 (fun _ => rfl) ⟨b121, _, rfl, N121a, K127, b124, Fv121, Fc121, V121⟩ (by decide) (by decide))
set_option maxRecDepth 65536 in
set_option maxHeartbeats 40000000 in
theorem rm_can {l : Launch} {Z : State} {a0 : Array Value} (hw : ∀ d ∈ tables_1, d.before a0 Z = true) (y : Int32) (h0 : Heap) (l0 : ¬ (255 : Int32) < y) :
    Con l (⟨"java/lang/StringLatin1", "canEncode", "(C)Z"⟩ : MethodName) jdk_43_method_3_code 1 (some .boolean) ({ frames := 0, cells := 0, slots := 0, locals := 0 } : Room) Z #[(.int y)] h0 (fun v h L => v = some (.int 1) ∧ Fr Z.heap.size L ∧ h0 = h) := by
  refine Con.of (plainFor_of_name pn_6) (Ls := #[iv y]) (fun m => efOf rfl) ?_
  intro p e s m below meth c T0 X0 hx hZ hby hml hown hnm hret hlk e0
  refine go (fun _ => XS.iloadN X0.here hx rfl (hb hby d5_0) rfl) ?_
  refine go (fun _ => XT.sipushV X0.here hx rfl (255 : Int32) (hb hby d5_1) (by decide)) ?_
  show Ends p e below _ T0 (mkF m 4 #[iv y] [(.int (255 : Int32)), (.int y)])
  refine go (fun _ => XS.icmpNo X0.here hx rfl (hb hby d5_4) rfl (XT.ii_gt_f l0)) ?_
  show Ends p e below _ T0 (mkF m 7 #[iv y] [])
  refine go (fun _ => XT.iconstV X0.here hx rfl (1 : Int32) (hb hby d5_7) (by decide)) ?_
  refine go (fun _ => XS.goto X0.here hx rfl (pc0 := 8) (pc' := 12) rfl (hb hby d5_8) (by decide) (by decide)) ?_
  show Ends p e below _ T0 (mkF m 12 #[iv y] [(.int (1 : Int32))])
  exact endN X0 hx hret (by simp) (hb hby d5_12) (lvN X0 hlk e0 (fun h => by rw [hret] at h; cases h) ⟨rfl, (Fr.nil _), rfl⟩ (by decide) (by decide))
set_option maxRecDepth 65536 in
set_option maxHeartbeats 40000000 in
theorem rm_tobytes {l : Launch} {Z : State} {a0 : Array Value} (hw : ∀ d ∈ tables_1, d.before a0 Z = true) (y : Int32) (h0 : Heap) (O0 : Ext Z.heap h0) :
    Con l (⟨"java/lang/StringLatin1", "toBytes", "(C)[B"⟩ : MethodName) jdk_43_method_46_code 1 (some (.array .byte)) ({ frames := 0, cells := 1, slots := 1, locals := 0 } : Room) Z #[(.int y)] h0 (fun v h L => ∃ (b : Addr) (k : ClassId), v = some (.ref b) ∧ Fr Z.heap.size L ∧ Keep h0 h [] ∧ h0.size ≤ b ∧ Arv Z h b k .byte (1 : Int32) [(.int y.toInt8.toInt32)] (.int 0)) := by
  refine Con.of (plainFor_of_name pn_6) (Ls := #[iv y]) (fun m => efOf rfl) ?_
  intro p e s m below meth c T0 X0 hx hZ hby hml hown hnm hret hlk e0
  refine go (fun _ => XT.iconstV X0.here hx rfl (1 : Int32) (hb hby d6_0) (by decide)) ?_
  show Ends p e below _ T0 (mkF m 1 #[iv y] [(.int (1 : Int32))])
  obtain ⟨T128, h128, k128, X128, e128, E128, A128, s128⟩ := newP X0 hx hZ (hwi hw 42 rfl) e0 (g := (mkF m 1 #[iv y] [(.int (1 : Int32))])) rfl (hb hby d6_1) rfl (by decide) (cap := 1) (by decide) (by decide) (by decide) (by decide)
  obtain ⟨a128, g128⟩ : ∃ z : Addr, z = h0.size := ⟨_, rfl⟩
  have f128 : Z.heap.size ≤ a128 := by rw [g128]; exact (O0).1
  have K129 : Keep h0 h0 [] := (Keep.refl _ _)
  have b128 : h0.size ≤ a128 := by rw [g128]; exact (K129).1
  rw [← g128] at A128 s128
  have O130 : Ext Z.heap h128 := xx O0 E128
  have V128 : Arv Z h128 a128 k128 .byte (1 : Int32) [(.int (0 : Int32))] (.int 0) := Arv.pad (Arv.new A128 (by decide)) (pad_rep [] _ 1)
  refine go s128 ?_
  show Ends p e below _ T128 (mkF m 3 #[iv y] [(.ref a128)])
  refine go (fun _ => XS.dup X128.here hx rfl (hb hby d6_3) rfl rfl) ?_
  refine go (fun _ => XT.iconstV X128.here hx rfl (0 : Int32) (hb hby d6_4) (by decide)) ?_
  refine go (fun _ => XS.iloadN X128.here hx rfl (hb hby d6_5) rfl) ?_
  refine go (fun _ => XT.i2b X128.here hx rfl (hb hby d6_6) rfl) ?_
  show Ends p e below _ T128 (mkF m 7 #[iv y] [(.int y.toInt8.toInt32), (.int (0 : Int32)), (.ref a128), (.ref a128)])
  obtain ⟨cl131, A131, q131, S131, M131, H131, G131⟩ := id V128
  obtain ⟨T131, h131, X131, e131, W131, s131⟩ := stB X128 hx hZ e128 A131 (j := (0 : Int32)) (inb_of S131 (by decide)) (g := (mkF m 7 #[iv y] [(.int y.toInt8.toInt32), (.int (0 : Int32)), (.ref a128), (.ref a128)])) rfl rfl (hb hby d6_7)
  have r131 : nar .byte y.toInt8.toInt32 = y.toInt8.toInt32 := own_nb _
  rw [r131] at W131
  have N131 := Fr.snoc X131 (Fr.nil _) f128
  have O132 : Ext Z.heap h131 := xw O130 W131 f128
  have V131 : Arv Z h131 a128 k128 .byte (1 : Int32) [(.int y.toInt8.toInt32)] (.int 0) := Arv.set A131 q131 S131 M131 H131 G131 (by first | rfl | exact fits_nar_byte y.toInt8.toInt32 | (rw [← r131]; exact fits_nar_byte y.toInt8.toInt32)) W131 0 (by decide) (Nat.le_of_ble_eq_true rfl)
  refine go s131 ?_
  show Ends p e below _ T131 (mkF m 8 #[iv y] [(.ref a128)])
  have K133 : Keep h0 h131 [] := (Keep.wr (Keep.ext K129 E128) W131 (Or.inr b128))
  exact endA X131 hx hret rfl rfl (hb hby d6_8) (lvN X131 hlk e131 (fun h => by rw [hret] at h; cases h) ⟨a128, _, rfl, N131, K133, b128, V131⟩ (by decide) (by decide))
set_option maxRecDepth 65536 in
set_option maxHeartbeats 40000000 in
theorem rm_strbb {l : Launch} {Z : State} {a0 : Array Value} (hw : ∀ d ∈ tables_1, d.before a0 Z = true) (a : Addr) (x : Addr) (h0 : Heap) (O0 : Ext Z.heap h0) (f0 : Z.heap.size ≤ a) (E0 : Exa Z h0 a "java/lang/String") (F_value : Fld Z h0 a "java/lang/String" "value" "[B" .null) (F_coder : Fld Z h0 a "java/lang/String" "coder" "B" (.int (0 : Int32)))   :
    Con l (⟨"java/lang/String", "<init>", "([BB)V"⟩ : MethodName) jdk_42_method_151_code 3 none ({ frames := 1, cells := 0, slots := 0, locals := 12 } : Room) Z #[(.ref a), (.ref x), (.int (0 : Int32))] h0 (fun v h L => v = none ∧ Fr Z.heap.size L ∧ Keep h0 h [a] ∧ Fld Z h a "java/lang/String" "value" "[B" (.ref x) ∧ Fld Z h a "java/lang/String" "coder" "B" (.int (0 : Int32))) := by
  refine Con.of (plainFor_of_name pn_0) (Ls := #[rv a, rv x, iv (0 : Int32)]) (fun m => efOf rfl) ?_
  intro p e s m below meth c T0 X0 hx hZ hby hml hown hnm hret hlk e0
  refine go (fun _ => XS.aloadN X0.here hx rfl (hb hby d7_0) rfl rfl) ?_
  show Ends p e below _ T0 (mkF m 1 #[rv a, rv x, iv (0 : Int32)] [(.ref a)])
  obtain ⟨T134, X134, e134, s134⟩ := initO X0 hx hZ hown (hwi hw 40 rfl) (hwi hw 16 rfl) (hwi hw 17 rfl) e0 (g := (mkF m 1 #[rv a, rv x, iv (0 : Int32)] [(.ref a)])) rfl (by rw [hml]; rfl) rfl (hb hby d7_1) (by decide) (W := 0) (by show 2 * 0 + _ ≤ _; exact Nat.le_of_eq rfl) (by decide)
  refine go s134 ?_
  show Ends p e below _ T134 (mkF m 4 #[rv a, rv x, iv (0 : Int32)] [])
  refine go (fun _ => XS.aloadN X134.here hx rfl (hb hby d7_4) rfl rfl) ?_
  refine go (fun _ => XS.aloadN X134.here hx rfl (hb hby d7_5) rfl rfl) ?_
  show Ends p e below _ T134 (mkF m 6 #[rv a, rv x, iv (0 : Int32)] [(.ref x), (.ref a)])
  obtain ⟨T135, h135, X135, e135, W135, s135⟩ := putF X134 hx hZ hown (host := "") (Or.inl (hwi hw 47 rfl)) Via.refl e134 F_value E0 (Or.inr ⟨(hwi hw 43 rfl), rfl, hnm⟩) (hwi hw 30 rfl) (ty := (.array .byte)) (by decide) rfl rfl (g := (mkF m 6 #[rv a, rv x, iv (0 : Int32)] [(.ref x), (.ref a)])) rfl rfl (hb hby d7_6)
  have N135 := Fr.snoc X135 (Fr.nil _) f0
  have O136 : Ext Z.heap h135 := xw O0 W135 f0
  refine go s135 ?_
  show Ends p e below _ T135 (mkF m 9 #[rv a, rv x, iv (0 : Int32)] [])
  refine go (fun _ => XS.aloadN X135.here hx rfl (hb hby d7_9) rfl rfl) ?_
  refine go (fun _ => XS.iloadN X135.here hx rfl (hb hby d7_10) rfl) ?_
  show Ends p e below _ T135 (mkF m 11 #[rv a, rv x, iv (0 : Int32)] [(.int (0 : Int32)), (.ref a)])
  have F137 := (Exa.wr W135 E0)
  have F138 := (Fld.other W135 F_coder (Or.inr (slot_ne (a0 := a0) (Or.inr (hwi hw 44 rfl)) (Or.inr (hwi hw 43 rfl)) (by decide) (t := .byte) (t' := (.array .byte)) (by decide) (by decide))))
  obtain ⟨T139, h139, X139, e139, W139, s139⟩ := putF X135 hx hZ hown (host := "") (Or.inl (hwi hw 48 rfl)) Via.refl e135 F138 F137 (Or.inr ⟨(hwi hw 44 rfl), rfl, hnm⟩) (hwi hw 30 rfl) (ty := .byte) (by decide) rfl rfl (g := (mkF m 11 #[rv a, rv x, iv (0 : Int32)] [(.int (0 : Int32)), (.ref a)])) rfl rfl (hb hby d7_11)
  have N139 := Fr.snoc X139 N135 f0
  have O140 : Ext Z.heap h139 := xw O136 W139 f0
  refine go s139 ?_
  show Ends p e below _ T139 (mkF m 14 #[rv a, rv x, iv (0 : Int32)] [])
  have K141 : Keep h0 h139 [a] := (Keep.wr (Keep.wr (Keep.refl _ _) W135 (Or.inl (List.mem_of_getElem? (i := 0) rfl))) W139 (Or.inl (List.mem_of_getElem? (i := 0) rfl)))
  have F142 := (Fld.other W139 (Fld.same W135 F_value) (Or.inr (slot_ne (a0 := a0) (Or.inr (hwi hw 43 rfl)) (Or.inr (hwi hw 44 rfl)) (by decide) (t := (.array .byte)) (t' := .byte) (by decide) (by decide))))
  have F143 := (Fld.same W139 F138)
  exact endV X139 hx hret (hb hby d7_14) (lvN X139 hlk e139 (fun _ => rfl) ⟨rfl, N139, K141, F142, F143⟩ (by decide) (by decide))
set_option maxRecDepth 65536 in
set_option maxHeartbeats 40000000 in
theorem rm_cvalueOf {l : Launch} {Z : State} {a0 : Array Value} (hw : ∀ d ∈ tables_1, d.before a0 Z = true) (y : Int32) (h0 : Heap) (O0 : Ext Z.heap h0) (l0 : ¬ (255 : Int32) < y) (cz : Int32) (SCS : Sta Z Z.heap "java/lang/String" "COMPACT_STRINGS" "Z" (.int cz)) (hcz : ¬ cz = (0 : Int32)) :
    Con l (⟨"java/lang/String", "valueOf", "(C)Ljava/lang/String;"⟩ : MethodName) jdk_42_method_139_code 1 (some (.object "java/lang/String")) ({ frames := 2, cells := 2, slots := 5, locals := 27 } : Room) Z #[(.int y)] h0 (fun v h L => ∃ (a b : Addr) (k : ClassId), v = some (.ref a) ∧ Fr Z.heap.size L ∧ Keep h0 h [] ∧ h0.size ≤ a ∧ h0.size ≤ b ∧ a ≠ b ∧ Exa Z h a "java/lang/String" ∧ Fld Z h a "java/lang/String" "value" "[B" (.ref b) ∧ Fld Z h a "java/lang/String" "coder" "B" (.int 0) ∧ Arv Z h b k .byte (1 : Int32) [(.int y.toInt8.toInt32)] (.int 0)) := by
  refine Con.of (plainFor_of_name pn_0) (Ls := #[iv y]) (fun m => efOf rfl) ?_
  intro p e s m below meth c T0 X0 hx hZ hby hml hown hnm hret hlk e0
  obtain ⟨T144, X144, e144, s144⟩ := getS2 X0 hx hZ hown (host := "") (Or.inl (hwi hw 49 rfl)) Via.refl e0 (Sta.ext O0 SCS) (g := (mkF m 0 #[iv y] [])) rfl (hb hby d8_0)
  refine go s144 ?_
  show Ends p e below _ T144 (mkF m 3 #[iv y] [(.int cz)])
  refine go (fun _ => XS.ifNo X144.here hx rfl (hb hby d8_3) rfl (XT.i0_eq_f hcz)) ?_
  show Ends p e below _ T144 (mkF m 6 #[iv y] [])
  refine go (fun _ => XS.iloadN X144.here hx rfl (hb hby d8_6) rfl) ?_
  show Ends p e below _ T144 (mkF m 7 #[iv y] [(.int y)])
  refine cStat X144 hx hZ hown (by rw [hml]; rfl) e144 (hwi hw 92 rfl) (hwi hw 93 rfl) (hwi hw 94 rfl) (hwi hw 95 rfl) [(.int y)] [] rfl (rm_can hw y _ l0) (hb hby d8_7) rfl (lenOf pd_7 rfl) (by decide) (by decide) (Nat.le_of_ble_eq_true rfl) (by decide) (by decide) ?_
  rintro v145 T145 h145 L145 X145 e145 ⟨rfl, N145, rfl⟩
  have N145a := Fr.app (Fr.nil _) N145
  show Ends p e below _ T145 (mkF m 10 #[iv y] [(.int (1 : Int32))])
  refine go (fun _ => XS.ifNo X145.here hx rfl (hb hby d8_10) rfl (XT.i0_eq_f ((by decide) : ¬ ((1 : Int32) = (0 : Int32))))) ?_
  show Ends p e below _ T145 (mkF m 13 #[iv y] [])
  obtain ⟨T146, h146, X146, e146, E146, A146, D146, U146, s146⟩ := newO X145 hx hZ hown (hwi hw 96 rfl) (hwi hw 30 rfl) (hwi hw 31 rfl) e145 (g := (mkF m 13 #[iv y] [])) rfl (hb hby d8_13) (by decide) (by decide)
  obtain ⟨a146, g146⟩ : ∃ z : Addr, z = h0.size := ⟨_, rfl⟩
  have f146 : Z.heap.size ≤ a146 := by rw [g146]; exact (O0).1
  have K147 : Keep h0 h0 [] := (Keep.refl _ _)
  have b146 : h0.size ≤ a146 := by rw [g146]; exact (K147).1
  rw [← g146] at A146 D146 U146 s146
  have O148 : Ext Z.heap h146 := xx O0 E146
  refine go s146 ?_
  show Ends p e below _ T146 (mkF m 16 #[iv y] [(.ref a146)])
  refine go (fun _ => XS.dup X146.here hx rfl (hb hby d8_16) rfl rfl) ?_
  refine go (fun _ => XS.iloadN X146.here hx rfl (hb hby d8_17) rfl) ?_
  show Ends p e below _ T146 (mkF m 18 #[iv y] [(.int y), (.ref a146), (.ref a146)])
  refine cStat X146 hx hZ hown (by rw [hml]; rfl) e146 (hwi hw 97 rfl) (hwi hw 98 rfl) (hwi hw 94 rfl) (hwi hw 99 rfl) [(.int y)] [(.ref a146), (.ref a146)] rfl (rm_tobytes hw y _ O148) (hb hby d8_18) rfl (lenOf pd_8 rfl) (by decide) (by decide) (Nat.le_of_ble_eq_true rfl) (by decide) (by decide) ?_
  rintro v149 T149 h149 L149 X149 e149 ⟨b149, k149, rfl, N149, K149, g149, V149⟩
  have N149a := Fr.app N145a N149
  have n150 : a146 ≠ b149 := Nat.ne_of_lt (Nat.lt_of_lt_of_le (A146.lt) g149)
  have f151 : Z.heap.size ≤ b149 := Nat.le_trans (O148).1 g149
  have K152 : Keep h0 h146 [] := (Keep.ext K147 E146)
  have b151 : h0.size ≤ b149 := Nat.le_trans (K152).1 g149
  have O153 : Ext Z.heap h149 := xk O148 K149 all0
  show Ends p e below _ T149 (mkF m 21 #[iv y] [(.ref b149), (.ref a146), (.ref a146)])
  refine go (fun _ => XT.iconstV X149.here hx rfl (0 : Int32) (hb hby d8_21) (by decide)) ?_
  show Ends p e below _ T149 (mkF m 22 #[iv y] [(.int (0 : Int32)), (.ref b149), (.ref a146), (.ref a146)])
  have F154 := (Exa.keep A146 K149)
  have F155 := (Fld.keep (D146 (Or.inr (hwi hw 43 rfl)) (ty := (.array .byte)) (by decide)) K149 nin0)
  have F156 := (Fld.keep (D146 (Or.inr (hwi hw 44 rfl)) (ty := .byte) (by decide)) K149 nin0)
  refine cInit X149 hx hZ hown (by rw [hml]; rfl) e149 (hwi hw 100 rfl) (hwi hw 101 rfl) (hwi hw 31 rfl) (hwi hw 102 rfl) a146 [(.ref b149), (.int (0 : Int32))] [(.ref a146)] rfl (rm_strbb hw a146 b149 _ O153 f146 F154 F155 F156  ) (hb hby d8_22) rfl (lenOf pd_9 rfl) rfl (by decide) (by decide) (Nat.le_of_ble_eq_true rfl) (by decide) (by decide) ?_
  rintro v157 T157 h157 L157 X157 e157 ⟨rfl, N157, K157, F157_0, F157_1⟩
  have N157a := Fr.app N149a N157
  have O158 : Ext Z.heap h157 := xk O153 K157 (allS f146 all0)
  show Ends p e below _ T157 (mkF m 25 #[iv y] [(.ref a146)])
  have K159 : Keep h0 h157 [] := (Keep.trans (Keep.trans K152 K149 all0) K157 (allS (Or.inr b146) all0))
  have F160 := (Exa.keep F154 K157)
  have F161 := (Arv.keep V149 K157 (ninS (Ne.symm n150) nin0))
  exact endA X157 hx hret rfl rfl (hb hby d8_25) (lvN X157 hlk e157 (fun h => by rw [hret] at h; cases h) ⟨a146, b149, _, rfl, N157a, K159, b146, b151, n150, F160, F157_0, F157_1, F161⟩ (by decide) (by decide))
set_option maxRecDepth 65536 in
set_option maxHeartbeats 40000000 in
theorem rm_coderOf {l : Launch} {Z : State} {a0 : Array Value} (hw : ∀ d ∈ tables_1, d.before a0 Z = true) (x : Addr) (h0 : Heap) (O0 : Ext Z.heap h0) (cz : Int32) (SCS : Sta Z Z.heap "java/lang/String" "COMPACT_STRINGS" "Z" (.int cz)) (hcz : ¬ cz = (0 : Int32)) (Fc : Fld Z h0 x "java/lang/String" "coder" "B" (.int 0)) :
    Con l (⟨"java/lang/String", "coder", "()B"⟩ : MethodName) jdk_42_method_152_code 1 (some .byte) ({ frames := 0, cells := 0, slots := 0, locals := 0 } : Room) Z #[(.ref x)] h0 (fun v h L => v = some (.int 0) ∧ Fr Z.heap.size L ∧ h0 = h) := by
  refine Con.of (plainFor_of_name pn_0) (Ls := #[rv x]) (fun m => efOf rfl) ?_
  intro p e s m below meth c T0 X0 hx hZ hby hml hown hnm hret hlk e0
  obtain ⟨T162, X162, e162, s162⟩ := getS2 X0 hx hZ hown (host := "") (Or.inl (hwi hw 49 rfl)) Via.refl e0 (Sta.ext O0 SCS) (g := (mkF m 0 #[rv x] [])) rfl (hb hby d9_0)
  refine go s162 ?_
  show Ends p e below _ T162 (mkF m 3 #[rv x] [(.int cz)])
  refine go (fun _ => XS.ifNo X162.here hx rfl (hb hby d9_3) rfl (XT.i0_eq_f hcz)) ?_
  show Ends p e below _ T162 (mkF m 6 #[rv x] [])
  refine go (fun _ => XS.aloadN X162.here hx rfl (hb hby d9_6) rfl rfl) ?_
  show Ends p e below _ T162 (mkF m 7 #[rv x] [(.ref x)])
  obtain ⟨T163, X163, e163, s163⟩ := getF X162 hx hZ hown (host := "") (Or.inl (hwi hw 48 rfl)) Via.refl e162 Fc (g := (mkF m 7 #[rv x] [(.ref x)])) rfl rfl (hb hby d9_7)
  refine go s163 ?_
  show Ends p e below _ T163 (mkF m 10 #[rv x] [(.int (0 : Int32))])
  refine go (fun _ => XS.goto X163.here hx rfl (pc0 := 10) (pc' := 14) rfl (hb hby d9_10) (by decide) (by decide)) ?_
  show Ends p e below _ T163 (mkF m 14 #[rv x] [(.int (0 : Int32))])
  exact endN X163 hx hret (by simp) (hb hby d9_14) (lvN X163 hlk e163 (fun h => by rw [hret] at h; cases h) ⟨by simp [nar], (Fr.nil _), rfl⟩ (by decide) (by decide))
set_option maxRecDepth 65536 in
set_option maxHeartbeats 40000000 in
theorem rm_isLatin1 {l : Launch} {Z : State} {a0 : Array Value} (hw : ∀ d ∈ tables_1, d.before a0 Z = true) (x : Addr) (h0 : Heap) (O0 : Ext Z.heap h0) (cz : Int32) (SCS : Sta Z Z.heap "java/lang/String" "COMPACT_STRINGS" "Z" (.int cz)) (hcz : ¬ cz = (0 : Int32)) (Fc : Fld Z h0 x "java/lang/String" "coder" "B" (.int 0)) :
    Con l (⟨"java/lang/String", "isLatin1", "()Z"⟩ : MethodName) jdk_42_method_154_code 1 (some .boolean) ({ frames := 0, cells := 0, slots := 0, locals := 0 } : Room) Z #[(.ref x)] h0 (fun v h L => v = some (.int 1) ∧ Fr Z.heap.size L ∧ h0 = h) := by
  refine Con.of (plainFor_of_name pn_0) (Ls := #[rv x]) (fun m => efOf rfl) ?_
  intro p e s m below meth c T0 X0 hx hZ hby hml hown hnm hret hlk e0
  obtain ⟨T164, X164, e164, s164⟩ := getS2 X0 hx hZ hown (host := "") (Or.inl (hwi hw 49 rfl)) Via.refl e0 (Sta.ext O0 SCS) (g := (mkF m 0 #[rv x] [])) rfl (hb hby d10_0)
  refine go s164 ?_
  show Ends p e below _ T164 (mkF m 3 #[rv x] [(.int cz)])
  refine go (fun _ => XS.ifNo X164.here hx rfl (hb hby d10_3) rfl (XT.i0_eq_f hcz)) ?_
  show Ends p e below _ T164 (mkF m 6 #[rv x] [])
  refine go (fun _ => XS.aloadN X164.here hx rfl (hb hby d10_6) rfl rfl) ?_
  show Ends p e below _ T164 (mkF m 7 #[rv x] [(.ref x)])
  obtain ⟨T165, X165, e165, s165⟩ := getF X164 hx hZ hown (host := "") (Or.inl (hwi hw 48 rfl)) Via.refl e164 Fc (g := (mkF m 7 #[rv x] [(.ref x)])) rfl rfl (hb hby d10_7)
  refine go s165 ?_
  show Ends p e below _ T165 (mkF m 10 #[rv x] [(.int (0 : Int32))])
  refine go (fun _ => XS.ifNo X165.here hx rfl (hb hby d10_10) rfl (XT.i0_ne_f ((by decide) : (0 : Int32) = (0 : Int32)))) ?_
  show Ends p e below _ T165 (mkF m 13 #[rv x] [])
  refine go (fun _ => XT.iconstV X165.here hx rfl (1 : Int32) (hb hby d10_13) (by decide)) ?_
  refine go (fun _ => XS.goto X165.here hx rfl (pc0 := 14) (pc' := 18) rfl (hb hby d10_14) (by decide) (by decide)) ?_
  show Ends p e below _ T165 (mkF m 18 #[rv x] [(.int (1 : Int32))])
  exact endN X165 hx hret (by simp) (hb hby d10_18) (lvN X165 hlk e165 (fun h => by rw [hret] at h; cases h) ⟨by simp [nar], (Fr.nil _), rfl⟩ (by decide) (by decide))
set_option maxRecDepth 65536 in
set_option maxHeartbeats 40000000 in
theorem rm_length {l : Launch} {Z : State} {a0 : Array Value} (hw : ∀ d ∈ tables_1, d.before a0 Z = true) (x b : Addr) (k : ClassId) (lz : Int32) (vs : List Value) (h0 : Heap) (O0 : Ext Z.heap h0) (cz : Int32) (SCS : Sta Z Z.heap "java/lang/String" "COMPACT_STRINGS" "Z" (.int cz)) (hcz : ¬ cz = (0 : Int32)) (Fc : Fld Z h0 x "java/lang/String" "coder" "B" (.int 0)) (Ex : Exa Z h0 x "java/lang/String") (Fv : Fld Z h0 x "java/lang/String" "value" "[B" (.ref b)) (Vb : Arv Z h0 b k .byte lz vs (.int 0)) :
    Con l (⟨"java/lang/String", "length", "()I"⟩ : MethodName) jdk_42_method_54_code 1 (some .int) ({ frames := 1, cells := 0, slots := 0, locals := 13 } : Room) Z #[(.ref x)] h0 (fun v h L => v = some (.int lz) ∧ Fr Z.heap.size L ∧ h0 = h) := by
  refine Con.of (plainFor_of_name pn_0) (Ls := #[rv x]) (fun m => efOf rfl) ?_
  intro p e s m below meth c T0 X0 hx hZ hby hml hown hnm hret hlk e0
  refine go (fun _ => XS.aloadN X0.here hx rfl (hb hby d11_0) rfl rfl) ?_
  show Ends p e below _ T0 (mkF m 1 #[rv x] [(.ref x)])
  obtain ⟨T166, X166, e166, s166⟩ := getF X0 hx hZ hown (host := "") (Or.inl (hwi hw 47 rfl)) Via.refl e0 Fv (g := (mkF m 1 #[rv x] [(.ref x)])) rfl rfl (hb hby d11_1)
  refine go s166 ?_
  show Ends p e below _ T166 (mkF m 4 #[rv x] [(.ref b)])
  obtain ⟨cl167, A167, -, S167, M167, -⟩ := id Vb
  refine go (fun _ => X166.arraylength hx (cell := cl167) (by rw [e166]; exact A167.1) (State.isArrayOf_alike hZ.alike A167.2.1) (g := (mkF m 4 #[rv x] [(.ref b)])) rfl rfl (hb hby d11_4) _) ?_
  rw [len_of S167 M167]
  show Ends p e below _ T166 (mkF m 5 #[rv x] [(.int lz)])
  refine go (fun _ => XS.aloadN X166.here hx rfl (hb hby d11_5) rfl rfl) ?_
  show Ends p e below _ T166 (mkF m 6 #[rv x] [(.ref x), (.int lz)])
  refine cVirt X166 hx hZ hown (by rw [hml]; rfl) e166 (hwi hw 65 rfl) (hwi hw 66 rfl) (hwi hw 68 rfl) (hwi hw 67 rfl) (hwi hw 31 rfl) (hwi hw 69 rfl) (notFace_of_selects (args := #[]) (mvT hZ (hwi hw 68 rfl))) x Ex [] [(.int lz)] rfl (rm_coderOf hw x _ O0 cz SCS hcz Fc) (hb hby d11_6) rfl (lenOf pd_10 rfl) (by decide) (by decide) (Nat.le_of_ble_eq_true rfl) (by decide) (by decide) ?_
  rintro v168 T168 h168 L168 X168 e168 ⟨rfl, N168, rfl⟩
  have N168a := Fr.app (Fr.nil _) N168
  show Ends p e below _ T168 (mkF m 9 #[rv x] [(.int (0 : Int32)), (.int lz)])
  refine go (fun _ => XT.ishr X168.here hx rfl (hb hby d11_9) rfl) ?_
  show Ends p e below _ T168 (mkF m 10 #[rv x] [(.int (lz >>> ((0 : Int32) &&& 31)))])
  exact endI X168 hx hret (hb hby d11_10) (lvN X168 hlk e168 (fun h => by rw [hret] at h; cases h) ⟨by rw [own_sh0], N168a, rfl⟩ (by decide) (by decide))
set_option maxRecDepth 65536 in
set_option maxHeartbeats 40000000 in
theorem rm_cft4 {l : Launch} {Z : State} {a0 : Array Value} (hw : ∀ d ∈ tables_1, d.before a0 Z = true) (z1 : Int32) (h0 : Heap) (l0 : ¬ z1 < 0) :
    Con l (⟨"jdk/internal/util/Preconditions", "checkFromToIndex", "(IIILjava/util/function/BiFunction;)I"⟩ : MethodName) jdk_41_method_12_code 4 (some .int) ({ frames := 0, cells := 0, slots := 0, locals := 0 } : Room) Z #[(.int (0 : Int32)), (.int z1), (.int z1), .null] h0 (fun v h L => v = some (.int 0) ∧ Fr Z.heap.size L ∧ h0 = h) := by
  refine Con.of (plainFor_of_name pn_11) (Ls := #[iv (0 : Int32), iv z1, iv z1, .val .null]) (fun m => efOf rfl) ?_
  intro p e s m below meth c T0 X0 hx hZ hby hml hown hnm hret hlk e0
  refine go (fun _ => XS.iloadN X0.here hx rfl (hb hby d12_0) rfl) ?_
  show Ends p e below _ T0 (mkF m 1 #[iv (0 : Int32), iv z1, iv z1, .val .null] [(.int (0 : Int32))])
  refine go (fun _ => XS.ifNo X0.here hx rfl (hb hby d12_1) rfl (XT.i0_lt_f ((by decide) : ¬ ((0 : Int32) < (0 : Int32))))) ?_
  show Ends p e below _ T0 (mkF m 4 #[iv (0 : Int32), iv z1, iv z1, .val .null] [])
  refine go (fun _ => XS.iloadN X0.here hx rfl (hb hby d12_4) rfl) ?_
  refine go (fun _ => XS.iloadN X0.here hx rfl (hb hby d12_5) rfl) ?_
  show Ends p e below _ T0 (mkF m 6 #[iv (0 : Int32), iv z1, iv z1, .val .null] [(.int z1), (.int (0 : Int32))])
  refine go (fun _ => XS.icmpNo X0.here hx rfl (hb hby d12_6) rfl (XT.ii_gt_f l0)) ?_
  show Ends p e below _ T0 (mkF m 9 #[iv (0 : Int32), iv z1, iv z1, .val .null] [])
  refine go (fun _ => XS.iloadN X0.here hx rfl (hb hby d12_9) rfl) ?_
  refine go (fun _ => XS.iloadN X0.here hx rfl (hb hby d12_10) rfl) ?_
  show Ends p e below _ T0 (mkF m 11 #[iv (0 : Int32), iv z1, iv z1, .val .null] [(.int z1), (.int z1)])
  refine go (fun _ => XS.icmpYes X0.here hx rfl (pc0 := 11) (pc' := 22) rfl (hb hby d12_11) rfl (XT.ii_le_t Int32.lt_irrefl) (by decide) (by decide)) ?_
  show Ends p e below _ T0 (mkF m 22 #[iv (0 : Int32), iv z1, iv z1, .val .null] [])
  refine go (fun _ => XS.iloadN X0.here hx rfl (hb hby d12_22) rfl) ?_
  show Ends p e below _ T0 (mkF m 23 #[iv (0 : Int32), iv z1, iv z1, .val .null] [(.int (0 : Int32))])
  exact endI X0 hx hret (hb hby d12_23) (lvN X0 hlk e0 (fun h => by rw [hret] at h; cases h) ⟨rfl, (Fr.nil _), rfl⟩ (by decide) (by decide))
set_option maxRecDepth 65536 in
set_option maxHeartbeats 40000000 in
theorem rm_cft3 {l : Launch} {Z : State} {a0 : Array Value} (hw : ∀ d ∈ tables_1, d.before a0 Z = true) (z1 : Int32) (h0 : Heap) (l0 : ¬ z1 < 0) :
    Con l (⟨"java/util/Objects", "checkFromToIndex", "(III)I"⟩ : MethodName) jdk_31_method_18_code 3 (some .int) ({ frames := 1, cells := 0, slots := 0, locals := 15 } : Room) Z #[(.int (0 : Int32)), (.int z1), (.int z1)] h0 (fun v h L => v = some (.int 0) ∧ Fr Z.heap.size L ∧ h0 = h) := by
  refine Con.of (plainFor_of_name pn_12) (Ls := #[iv (0 : Int32), iv z1, iv z1]) (fun m => efOf rfl) ?_
  intro p e s m below meth c T0 X0 hx hZ hby hml hown hnm hret hlk e0
  refine go (fun _ => XS.iloadN X0.here hx rfl (hb hby d13_0) rfl) ?_
  refine go (fun _ => XS.iloadN X0.here hx rfl (hb hby d13_1) rfl) ?_
  refine go (fun _ => XS.iloadN X0.here hx rfl (hb hby d13_2) rfl) ?_
  refine go (fun _ => XS.aconstNull X0.here hx rfl (hb hby d13_3)) ?_
  show Ends p e below _ T0 (mkF m 4 #[iv (0 : Int32), iv z1, iv z1] [.null, (.int z1), (.int z1), (.int (0 : Int32))])
  refine cStat X0 hx hZ hown (by rw [hml]; rfl) e0 (hwi hw 80 rfl) (hwi hw 81 rfl) (hwi hw 82 rfl) (hwi hw 83 rfl) [(.int (0 : Int32)), (.int z1), (.int z1), .null] [] rfl (rm_cft4 hw z1 _ l0) (hb hby d13_4) rfl (lenOf pd_13 rfl) (by decide) (by decide) (Nat.le_of_ble_eq_true rfl) (by decide) (by decide) ?_
  rintro v169 T169 h169 L169 X169 e169 ⟨rfl, N169, rfl⟩
  have N169a := Fr.app (Fr.nil _) N169
  show Ends p e below _ T169 (mkF m 7 #[iv (0 : Int32), iv z1, iv z1] [(.int (0 : Int32))])
  exact endI X169 hx hret (hb hby d13_7) (lvN X169 hlk e169 (fun h => by rw [hret] at h; cases h) ⟨rfl, N169a, rfl⟩ (by decide) (by decide))
set_option maxRecDepth 65536 in
set_option maxHeartbeats 40000000 in
theorem rm_cpc {l : Launch} {Z : State} {a0 : Array Value} (hw : ∀ d ∈ tables_1, d.before a0 Z = true) (x b : Addr) (k : ClassId) (lz : Int32) (vs : List Value) (h0 : Heap) (O0 : Ext Z.heap h0) (cz : Int32) (SCS : Sta Z Z.heap "java/lang/String" "COMPACT_STRINGS" "Z" (.int cz)) (hcz : ¬ cz = (0 : Int32)) (Fc : Fld Z h0 x "java/lang/String" "coder" "B" (.int 0)) (Ex : Exa Z h0 x "java/lang/String") (Fv : Fld Z h0 x "java/lang/String" "value" "[B" (.ref b)) (Vb : Arv Z h0 b k .byte lz vs (.int 0)) (l0 : ¬ lz < 0) :
    Con l (⟨"java/lang/String", "codePointCount", "(II)I"⟩ : MethodName) jdk_42_method_59_code 3 (some .int) ({ frames := 2, cells := 0, slots := 0, locals := 29 } : Room) Z #[(.ref x), (.int (0 : Int32)), (.int lz)] h0 (fun v h L => v = some (.int lz) ∧ Fr Z.heap.size L ∧ h0 = h) := by
  refine Con.of (plainFor_of_name pn_0) (Ls := #[rv x, iv (0 : Int32), iv lz]) (fun m => efOf rfl) ?_
  intro p e s m below meth c T0 X0 hx hZ hby hml hown hnm hret hlk e0
  refine go (fun _ => XS.iloadN X0.here hx rfl (hb hby d14_0) rfl) ?_
  refine go (fun _ => XS.iloadN X0.here hx rfl (hb hby d14_1) rfl) ?_
  refine go (fun _ => XS.aloadN X0.here hx rfl (hb hby d14_2) rfl rfl) ?_
  show Ends p e below _ T0 (mkF m 3 #[rv x, iv (0 : Int32), iv lz] [(.ref x), (.int lz), (.int (0 : Int32))])
  refine cVirt X0 hx hZ hown (by rw [hml]; rfl) e0 (hwi hw 75 rfl) (hwi hw 61 rfl) (hwi hw 63 rfl) (hwi hw 62 rfl) (hwi hw 31 rfl) (hwi hw 64 rfl) (notFace_of_selects (args := #[]) (mvT hZ (hwi hw 63 rfl))) x Ex [] [(.int lz), (.int (0 : Int32))] rfl (rm_length hw x b k lz _ _ O0 cz SCS hcz Fc Ex Fv Vb) (hb hby d14_3) rfl (lenOf pd_14 rfl) (by decide) (by decide) (Nat.le_of_ble_eq_true rfl) (by decide) (by decide) ?_
  rintro v170 T170 h170 L170 X170 e170 ⟨rfl, N170, rfl⟩
  have N170a := Fr.app (Fr.nil _) N170
  show Ends p e below _ T170 (mkF m 6 #[rv x, iv (0 : Int32), iv lz] [(.int lz), (.int lz), (.int (0 : Int32))])
  refine cStat X170 hx hZ hown (by rw [hml]; rfl) e170 (hwi hw 76 rfl) (hwi hw 77 rfl) (hwi hw 78 rfl) (hwi hw 79 rfl) [(.int (0 : Int32)), (.int lz), (.int lz)] [] rfl (rm_cft3 hw lz _ l0) (hb hby d14_6) rfl (lenOf pd_15 rfl) (by decide) (by decide) (Nat.le_of_ble_eq_true rfl) (by decide) (by decide) ?_
  rintro v171 T171 h171 L171 X171 e171 ⟨rfl, N171, rfl⟩
  have N171a := Fr.app N170a N171
  show Ends p e below _ T171 (mkF m 9 #[rv x, iv (0 : Int32), iv lz] [(.int (0 : Int32))])
  refine go (fun _ => XT.pop X171.here hx rfl (hb hby d14_9) rfl rfl) ?_
  refine go (fun _ => XS.aloadN X171.here hx rfl (hb hby d14_10) rfl rfl) ?_
  show Ends p e below _ T171 (mkF m 11 #[rv x, iv (0 : Int32), iv lz] [(.ref x)])
  refine cVirt X171 hx hZ hown (by rw [hml]; rfl) e171 (hwi hw 84 rfl) (hwi hw 85 rfl) (hwi hw 87 rfl) (hwi hw 86 rfl) (hwi hw 31 rfl) (hwi hw 88 rfl) (notFace_of_selects (args := #[]) (mvT hZ (hwi hw 87 rfl))) x Ex [] [] rfl (rm_isLatin1 hw x _ O0 cz SCS hcz Fc) (hb hby d14_11) rfl (lenOf pd_16 rfl) (by decide) (by decide) (Nat.le_of_ble_eq_true rfl) (by decide) (by decide) ?_
  rintro v172 T172 h172 L172 X172 e172 ⟨rfl, N172, rfl⟩
  have N172a := Fr.app N171a N172
  show Ends p e below _ T172 (mkF m 14 #[rv x, iv (0 : Int32), iv lz] [(.int (1 : Int32))])
  refine go (fun _ => XS.ifNo X172.here hx rfl (hb hby d14_14) rfl (XT.i0_eq_f ((by decide) : ¬ ((1 : Int32) = (0 : Int32))))) ?_
  show Ends p e below _ T172 (mkF m 17 #[rv x, iv (0 : Int32), iv lz] [])
  refine go (fun _ => XS.iloadN X172.here hx rfl (hb hby d14_17) rfl) ?_
  refine go (fun _ => XS.iloadN X172.here hx rfl (hb hby d14_18) rfl) ?_
  refine go (fun _ => XS.isub X172.here hx rfl (hb hby d14_19) rfl) ?_
  show Ends p e below _ T172 (mkF m 20 #[rv x, iv (0 : Int32), iv lz] [(.int (lz - (0 : Int32)))])
  exact endI X172 hx hret (hb hby d14_20) (lvN X172 hlk e172 (fun h => by rw [hret] at h; cases h) ⟨by rw [own_s0], N172a, rfl⟩ (by decide) (by decide))
set_option maxRecDepth 65536 in
set_option maxHeartbeats 40000000 in
theorem rm_record {l : Launch} {Z : State} {a0 : Array Value} (hw : ∀ d ∈ tables_1, d.before a0 Z = true) (a : Addr) (h0 : Heap)  :
    Con l (⟨"java/lang/Record", "<init>", "()V"⟩ : MethodName) jdk_30_method_1_code 1 none ({ frames := 1, cells := 0, slots := 0, locals := 12 } : Room) Z #[(.ref a)] h0 (fun v h L => v = none ∧ Fr Z.heap.size L ∧ h0 = h) := by
  refine Con.of (plainFor_of_name pn_17) (Ls := #[rv a]) (fun m => efOf rfl) ?_
  intro p e s m below meth c T0 X0 hx hZ hby hml hown hnm hret hlk e0
  refine go (fun _ => XS.aloadN X0.here hx rfl (hb hby d15_0) rfl rfl) ?_
  show Ends p e below _ T0 (mkF m 1 #[rv a] [(.ref a)])
  obtain ⟨T173, X173, e173, s173⟩ := initO X0 hx hZ hown (hwi hw 15 rfl) (hwi hw 16 rfl) (hwi hw 17 rfl) e0 (g := (mkF m 1 #[rv a] [(.ref a)])) rfl (by rw [hml]; rfl) rfl (hb hby d15_1) (by decide) (W := 0) (by show 2 * 0 + _ ≤ _; exact Nat.le_of_eq rfl) (by decide)
  refine go s173 ?_
  show Ends p e below _ T173 (mkF m 4 #[rv a] [])
  exact endV X173 hx hret (hb hby d15_4) (lvN X173 hlk e173 (fun _ => rfl) ⟨rfl, (Fr.nil _), rfl⟩ (by decide) (by decide))
set_option maxRecDepth 65536 in
set_option maxHeartbeats 40000000 in
theorem rm_atN {l : Launch} {Z : State} {a0 : Array Value} (hw : ∀ d ∈ tables_1, d.before a0 Z = true) (a : Addr) (w1 w2 : Value) (h0 : Heap) (O0 : Ext Z.heap h0) (f0 : Z.heap.size ≤ a) (E0 : Exa Z h0 a "com/example/scopa/scopa/audit/Attribution") (F_reason : Fld Z h0 a "com/example/scopa/scopa/audit/Attribution" "reason" "Ljava/lang/String;" .null) (F_subject : Fld Z h0 a "com/example/scopa/scopa/audit/Attribution" "subject" "Ljava/lang/String;" .null) (F_actor : Fld Z h0 a "com/example/scopa/scopa/audit/Attribution" "actor" "Ljava/lang/String;" .null) (wr1 : w1.isRef = true) (wr2 : w2.isRef = true)  :
    Con l (⟨"com/example/scopa/scopa/audit/Attribution", "<init>", "(Ljava/lang/String;Ljava/lang/String;Ljava/lang/String;)V"⟩ : MethodName) prog_1_method_1_code 5 none ({ frames := 2, cells := 0, slots := 0, locals := 24 } : Room) Z #[(.ref a), .null, w1, w2] h0 (fun v h L => v = none ∧ Fr Z.heap.size L ∧ Keep h0 h [a] ∧ Fld Z h a "com/example/scopa/scopa/audit/Attribution" "reason" "Ljava/lang/String;" .null ∧ Fld Z h a "com/example/scopa/scopa/audit/Attribution" "subject" "Ljava/lang/String;" w1 ∧ Fld Z h a "com/example/scopa/scopa/audit/Attribution" "actor" "Ljava/lang/String;" w2) := by
  refine Con.of (plainFor_of_name pn_18) (Ls := #[rv a, .val .null, .val w1, .val w2, .unset]) (fun m => by rcases ref_cases wr1 with rfl | ⟨_, rfl⟩ <;> rcases ref_cases wr2 with rfl | ⟨_, rfl⟩ <;> first | rfl | (simp [entryFrame, mkF, argsToLocals, Value.category]; done)) ?_
  intro p e s m below meth c T0 X0 hx hZ hby hml hown hnm hret hlk e0
  refine go (fun _ => XS.aloadN X0.here hx rfl (hb hby d16_0) rfl rfl) ?_
  show Ends p e below _ T0 (mkF m 1 #[rv a, .val .null, .val w1, .val w2, .unset] [(.ref a)])
  refine cInit X0 hx hZ hown (by rw [hml]; rfl) e0 (hwi hw 10 rfl) (hwi hw 11 rfl) (hwi hw 13 rfl) (hwi hw 14 rfl) a [] [] rfl (rm_record hw a _) (hb hby d16_1) rfl (lenOf pd_19 rfl) rfl (by decide) (by decide) (Nat.le_of_ble_eq_true rfl) (by decide) (by decide) ?_
  rintro v174 T174 h174 L174 X174 e174 ⟨rfl, N174, rfl⟩
  have N174a := Fr.app (Fr.nil _) N174
  show Ends p e below _ T174 (mkF m 4 #[rv a, .val .null, .val w1, .val w2, .unset] [])
  refine go (fun _ => XS.aloadN X174.here hx rfl (hb hby d16_4) rfl rfl) ?_
  show Ends p e below _ T174 (mkF m 5 #[rv a, .val .null, .val w1, .val w2, .unset] [.null])
  refine go (fun _ => XS.ifnullYes X174.here hx rfl (pc0 := 5) (pc' := 61) rfl (hb hby d16_5) rfl (by decide) (by decide)) ?_
  show Ends p e below _ T174 (mkF m 61 #[rv a, .val .null, .val w1, .val w2, .unset] [])
  refine go (fun _ => XS.aloadN X174.here hx rfl (hb hby d16_61) rfl rfl) ?_
  refine go (fun _ => XS.aloadN X174.here hx rfl (hb hby d16_62) rfl rfl) ?_
  show Ends p e below _ T174 (mkF m 63 #[rv a, .val .null, .val w1, .val w2, .unset] [.null, (.ref a)])
  obtain ⟨T175, h175, X175, e175, W175, s175⟩ := putF X174 hx hZ hown (host := "") (Or.inl (hwi hw 18 rfl)) Via.refl e174 F_reason E0 (Or.inr ⟨(hwi hw 19 rfl), rfl, hnm⟩) (hwi hw 5 rfl) (ty := (.object "java/lang/String")) (by decide) rfl rfl (g := (mkF m 63 #[rv a, .val .null, .val w1, .val w2, .unset] [.null, (.ref a)])) rfl rfl (hb hby d16_63)
  have N175 := Fr.snoc X175 N174a f0
  have O176 : Ext Z.heap h175 := xw O0 W175 f0
  refine go s175 ?_
  show Ends p e below _ T175 (mkF m 66 #[rv a, .val .null, .val w1, .val w2, .unset] [])
  refine go (fun _ => XS.aloadN X175.here hx rfl (hb hby d16_66) rfl rfl) ?_
  refine go (fun _ => XS.aloadN X175.here hx rfl (hb hby d16_67) rfl wr1) ?_
  show Ends p e below _ T175 (mkF m 68 #[rv a, .val .null, .val w1, .val w2, .unset] [w1, (.ref a)])
  have F177 := (Exa.wr W175 E0)
  have F178 := (Fld.other W175 F_subject (Or.inr (slot_ne (a0 := a0) (Or.inr (hwi hw 21 rfl)) (Or.inr (hwi hw 19 rfl)) (by decide) (t := (.object "java/lang/String")) (t' := (.object "java/lang/String")) (by decide) (by decide))))
  obtain ⟨T179, h179, X179, e179, W179, s179⟩ := putF X175 hx hZ hown (host := "") (Or.inl (hwi hw 20 rfl)) Via.refl e175 F178 F177 (Or.inr ⟨(hwi hw 21 rfl), rfl, hnm⟩) (hwi hw 5 rfl) (ty := (.object "java/lang/String")) (by decide) (by rcases ref_cases wr1 with h | ⟨b, h⟩ <;> rw [h] <;> rfl) (by rcases ref_cases wr1 with h | ⟨b, h⟩ <;> rw [h] <;> rfl) (g := (mkF m 68 #[rv a, .val .null, .val w1, .val w2, .unset] [w1, (.ref a)])) rfl rfl (hb hby d16_68)
  have N179 := Fr.snoc X179 N175 f0
  have O180 : Ext Z.heap h179 := xw O176 W179 f0
  refine go s179 ?_
  show Ends p e below _ T179 (mkF m 71 #[rv a, .val .null, .val w1, .val w2, .unset] [])
  refine go (fun _ => XS.aloadN X179.here hx rfl (hb hby d16_71) rfl rfl) ?_
  refine go (fun _ => XS.aloadN X179.here hx rfl (hb hby d16_72) rfl wr2) ?_
  show Ends p e below _ T179 (mkF m 73 #[rv a, .val .null, .val w1, .val w2, .unset] [w2, (.ref a)])
  have F181 := (Exa.wr W179 F177)
  have F182 := (Fld.other W179 (Fld.other W175 F_actor (Or.inr (slot_ne (a0 := a0) (Or.inr (hwi hw 23 rfl)) (Or.inr (hwi hw 19 rfl)) (by decide) (t := (.object "java/lang/String")) (t' := (.object "java/lang/String")) (by decide) (by decide)))) (Or.inr (slot_ne (a0 := a0) (Or.inr (hwi hw 23 rfl)) (Or.inr (hwi hw 21 rfl)) (by decide) (t := (.object "java/lang/String")) (t' := (.object "java/lang/String")) (by decide) (by decide))))
  obtain ⟨T183, h183, X183, e183, W183, s183⟩ := putF X179 hx hZ hown (host := "") (Or.inl (hwi hw 22 rfl)) Via.refl e179 F182 F181 (Or.inr ⟨(hwi hw 23 rfl), rfl, hnm⟩) (hwi hw 5 rfl) (ty := (.object "java/lang/String")) (by decide) (by rcases ref_cases wr2 with h | ⟨b, h⟩ <;> rw [h] <;> rfl) (by rcases ref_cases wr2 with h | ⟨b, h⟩ <;> rw [h] <;> rfl) (g := (mkF m 73 #[rv a, .val .null, .val w1, .val w2, .unset] [w2, (.ref a)])) rfl rfl (hb hby d16_73)
  have N183 := Fr.snoc X183 N179 f0
  have O184 : Ext Z.heap h183 := xw O180 W183 f0
  refine go s183 ?_
  show Ends p e below _ T183 (mkF m 76 #[rv a, .val .null, .val w1, .val w2, .unset] [])
  have K185 : Keep h0 h183 [a] := (Keep.wr (Keep.wr (Keep.wr (Keep.refl _ _) W175 (Or.inl (List.mem_of_getElem? (i := 0) rfl))) W179 (Or.inl (List.mem_of_getElem? (i := 0) rfl))) W183 (Or.inl (List.mem_of_getElem? (i := 0) rfl)))
  have F186 := (Fld.other W183 (Fld.other W179 (Fld.same W175 F_reason) (Or.inr (slot_ne (a0 := a0) (Or.inr (hwi hw 19 rfl)) (Or.inr (hwi hw 21 rfl)) (by decide) (t := (.object "java/lang/String")) (t' := (.object "java/lang/String")) (by decide) (by decide)))) (Or.inr (slot_ne (a0 := a0) (Or.inr (hwi hw 19 rfl)) (Or.inr (hwi hw 23 rfl)) (by decide) (t := (.object "java/lang/String")) (t' := (.object "java/lang/String")) (by decide) (by decide))))
  have F187 := (Fld.other W183 (Fld.same W179 F178) (Or.inr (slot_ne (a0 := a0) (Or.inr (hwi hw 21 rfl)) (Or.inr (hwi hw 23 rfl)) (by decide) (t := (.object "java/lang/String")) (t' := (.object "java/lang/String")) (by decide) (by decide))))
  have F188 := (Fld.same W183 F182)
  exact endV X183 hx hret (hb hby d16_76) (lvN X183 hlk e183 (fun _ => rfl) ⟨rfl, N183, K185, F186, F187, F188⟩ (by decide) (by decide))
set_option maxRecDepth 65536 in
set_option maxHeartbeats 40000000 in
theorem rm_atS {l : Launch} {Z : State} {a0 : Array Value} (hw : ∀ d ∈ tables_1, d.before a0 Z = true) (a : Addr) (x : Addr) (w1 w2 : Value) (b : Addr) (k : ClassId) (lz : Int32) (vs : List Value) (h0 : Heap) (O0 : Ext Z.heap h0) (f0 : Z.heap.size ≤ a) (E0 : Exa Z h0 a "com/example/scopa/scopa/audit/Attribution") (F_reason : Fld Z h0 a "com/example/scopa/scopa/audit/Attribution" "reason" "Ljava/lang/String;" .null) (F_subject : Fld Z h0 a "com/example/scopa/scopa/audit/Attribution" "subject" "Ljava/lang/String;" .null) (F_actor : Fld Z h0 a "com/example/scopa/scopa/audit/Attribution" "actor" "Ljava/lang/String;" .null) (wr1 : w1.isRef = true) (wr2 : w2.isRef = true) (Ex : Exa Z h0 x "java/lang/String") (Fc : Fld Z h0 x "java/lang/String" "coder" "B" (.int 0)) (Fv : Fld Z h0 x "java/lang/String" "value" "[B" (.ref b)) (Vb : Arv Z h0 b k .byte lz vs (.int 0)) (nx : a ≠ x) (nb : a ≠ b) (cz : Int32) (SCS : Sta Z Z.heap "java/lang/String" "COMPACT_STRINGS" "Z" (.int cz)) (hcz : ¬ cz = (0 : Int32)) (l0 : ¬ lz < 0) (l3 : lz < 4) :
    Con l (⟨"com/example/scopa/scopa/audit/Attribution", "<init>", "(Ljava/lang/String;Ljava/lang/String;Ljava/lang/String;)V"⟩ : MethodName) prog_1_method_1_code 5 none ({ frames := 3, cells := 0, slots := 0, locals := 43 } : Room) Z #[(.ref a), (.ref x), w1, w2] h0 (fun v h L => v = none ∧ Fr Z.heap.size L ∧ Keep h0 h [a] ∧ Fld Z h a "com/example/scopa/scopa/audit/Attribution" "reason" "Ljava/lang/String;" (.ref x) ∧ Fld Z h a "com/example/scopa/scopa/audit/Attribution" "subject" "Ljava/lang/String;" w1 ∧ Fld Z h a "com/example/scopa/scopa/audit/Attribution" "actor" "Ljava/lang/String;" w2) := by
  refine Con.of (plainFor_of_name pn_18) (Ls := #[rv a, rv x, .val w1, .val w2, .unset]) (fun m => by rcases ref_cases wr1 with rfl | ⟨_, rfl⟩ <;> rcases ref_cases wr2 with rfl | ⟨_, rfl⟩ <;> first | rfl | (simp [entryFrame, mkF, argsToLocals, Value.category]; done)) ?_
  intro p e s m below meth c T0 X0 hx hZ hby hml hown hnm hret hlk e0
  have l4 := own_lt4 l3
  refine go (fun _ => XS.aloadN X0.here hx rfl (hb hby d16_0) rfl rfl) ?_
  show Ends p e below _ T0 (mkF m 1 #[rv a, rv x, .val w1, .val w2, .unset] [(.ref a)])
  refine cInit X0 hx hZ hown (by rw [hml]; rfl) e0 (hwi hw 10 rfl) (hwi hw 11 rfl) (hwi hw 13 rfl) (hwi hw 14 rfl) a [] [] rfl (rm_record hw a _) (hb hby d16_1) rfl (lenOf pd_19 rfl) rfl (by decide) (by decide) (Nat.le_of_ble_eq_true rfl) (by decide) (by decide) ?_
  rintro v189 T189 h189 L189 X189 e189 ⟨rfl, N189, rfl⟩
  have N189a := Fr.app (Fr.nil _) N189
  show Ends p e below _ T189 (mkF m 4 #[rv a, rv x, .val w1, .val w2, .unset] [])
  refine go (fun _ => XS.aloadN X189.here hx rfl (hb hby d16_4) rfl rfl) ?_
  show Ends p e below _ T189 (mkF m 5 #[rv a, rv x, .val w1, .val w2, .unset] [(.ref x)])
  refine go (fun _ => XS.ifnullNo X189.here hx rfl (hb hby d16_5) rfl) ?_
  show Ends p e below _ T189 (mkF m 8 #[rv a, rv x, .val w1, .val w2, .unset] [])
  refine go (fun _ => XS.aloadN X189.here hx rfl (hb hby d16_8) rfl rfl) ?_
  refine go (fun _ => XT.iconstV X189.here hx rfl (0 : Int32) (hb hby d16_9) (by decide)) ?_
  refine go (fun _ => XS.aloadN X189.here hx rfl (hb hby d16_10) rfl rfl) ?_
  show Ends p e below _ T189 (mkF m 11 #[rv a, rv x, .val w1, .val w2, .unset] [(.ref x), (.int (0 : Int32)), (.ref x)])
  refine cVirt X189 hx hZ hown (by rw [hml]; rfl) e189 (hwi hw 60 rfl) (hwi hw 61 rfl) (hwi hw 63 rfl) (hwi hw 62 rfl) (hwi hw 31 rfl) (hwi hw 64 rfl) (notFace_of_selects (args := #[]) (mvT hZ (hwi hw 63 rfl))) x Ex [] [(.int (0 : Int32)), (.ref x)] rfl (rm_length hw x b k lz _ _ O0 cz SCS hcz Fc Ex Fv Vb) (hb hby d16_11) rfl (lenOf pd_14 rfl) (by decide) (by decide) (Nat.le_of_ble_eq_true rfl) (by decide) (by decide) ?_
  rintro v190 T190 h190 L190 X190 e190 ⟨rfl, N190, rfl⟩
  have N190a := Fr.app N189a N190
  show Ends p e below _ T190 (mkF m 14 #[rv a, rv x, .val w1, .val w2, .unset] [(.int lz), (.int (0 : Int32)), (.ref x)])
  refine cVirt X190 hx hZ hown (by rw [hml]; rfl) e190 (hwi hw 70 rfl) (hwi hw 71 rfl) (hwi hw 73 rfl) (hwi hw 72 rfl) (hwi hw 31 rfl) (hwi hw 74 rfl) (notFace_of_selects (args := #[]) (mvT hZ (hwi hw 73 rfl))) x Ex [(.int (0 : Int32)), (.int lz)] [] rfl (rm_cpc hw x b k lz _ _ O0 cz SCS hcz Fc Ex Fv Vb l0) (hb hby d16_14) rfl (lenOf pd_20 rfl) (by decide) (by decide) (Nat.le_of_ble_eq_true rfl) (by decide) (by decide) ?_
  rintro v191 T191 h191 L191 X191 e191 ⟨rfl, N191, rfl⟩
  have N191a := Fr.app N190a N191
  show Ends p e below _ T191 (mkF m 17 #[rv a, rv x, .val w1, .val w2, .unset] [(.int lz)])
  refine go (fun _ => XS.istore X191.here hx rfl (hb hby d16_17) rfl (l' := #[rv a, rv x, .val w1, .val w2, iv lz]) rfl) ?_
  refine go (fun _ => XS.iload X191.here hx rfl (hb hby d16_19) rfl) ?_
  refine go (fun _ => XT.sipushV X191.here hx rfl (1000 : Int32) (hb hby d16_21) (by decide)) ?_
  show Ends p e below _ T191 (mkF m 24 #[rv a, rv x, .val w1, .val w2, iv lz] [(.int (1000 : Int32)), (.int lz)])
  refine go (fun _ => XS.icmpYes X191.here hx rfl (pc0 := 24) (pc' := 61) rfl (hb hby d16_24) rfl (XT.ii_le_t l4) (by decide) (by decide)) ?_
  show Ends p e below _ T191 (mkF m 61 #[rv a, rv x, .val w1, .val w2, iv lz] [])
  refine go (fun _ => XS.aloadN X191.here hx rfl (hb hby d16_61) rfl rfl) ?_
  refine go (fun _ => XS.aloadN X191.here hx rfl (hb hby d16_62) rfl rfl) ?_
  show Ends p e below _ T191 (mkF m 63 #[rv a, rv x, .val w1, .val w2, iv lz] [(.ref x), (.ref a)])
  obtain ⟨T192, h192, X192, e192, W192, s192⟩ := putF X191 hx hZ hown (host := "") (Or.inl (hwi hw 18 rfl)) Via.refl e191 F_reason E0 (Or.inr ⟨(hwi hw 19 rfl), rfl, hnm⟩) (hwi hw 5 rfl) (ty := (.object "java/lang/String")) (by decide) rfl rfl (g := (mkF m 63 #[rv a, rv x, .val w1, .val w2, iv lz] [(.ref x), (.ref a)])) rfl rfl (hb hby d16_63)
  have N192 := Fr.snoc X192 N191a f0
  have O193 : Ext Z.heap h192 := xw O0 W192 f0
  refine go s192 ?_
  show Ends p e below _ T192 (mkF m 66 #[rv a, rv x, .val w1, .val w2, iv lz] [])
  refine go (fun _ => XS.aloadN X192.here hx rfl (hb hby d16_66) rfl rfl) ?_
  refine go (fun _ => XS.aloadN X192.here hx rfl (hb hby d16_67) rfl wr1) ?_
  show Ends p e below _ T192 (mkF m 68 #[rv a, rv x, .val w1, .val w2, iv lz] [w1, (.ref a)])
  have F194 := (Exa.wr W192 E0)
  have F195 := (Fld.other W192 F_subject (Or.inr (slot_ne (a0 := a0) (Or.inr (hwi hw 21 rfl)) (Or.inr (hwi hw 19 rfl)) (by decide) (t := (.object "java/lang/String")) (t' := (.object "java/lang/String")) (by decide) (by decide))))
  obtain ⟨T196, h196, X196, e196, W196, s196⟩ := putF X192 hx hZ hown (host := "") (Or.inl (hwi hw 20 rfl)) Via.refl e192 F195 F194 (Or.inr ⟨(hwi hw 21 rfl), rfl, hnm⟩) (hwi hw 5 rfl) (ty := (.object "java/lang/String")) (by decide) (by rcases ref_cases wr1 with h | ⟨b, h⟩ <;> rw [h] <;> rfl) (by rcases ref_cases wr1 with h | ⟨b, h⟩ <;> rw [h] <;> rfl) (g := (mkF m 68 #[rv a, rv x, .val w1, .val w2, iv lz] [w1, (.ref a)])) rfl rfl (hb hby d16_68)
  have N196 := Fr.snoc X196 N192 f0
  have O197 : Ext Z.heap h196 := xw O193 W196 f0
  refine go s196 ?_
  show Ends p e below _ T196 (mkF m 71 #[rv a, rv x, .val w1, .val w2, iv lz] [])
  refine go (fun _ => XS.aloadN X196.here hx rfl (hb hby d16_71) rfl rfl) ?_
  refine go (fun _ => XS.aloadN X196.here hx rfl (hb hby d16_72) rfl wr2) ?_
  show Ends p e below _ T196 (mkF m 73 #[rv a, rv x, .val w1, .val w2, iv lz] [w2, (.ref a)])
  have F198 := (Exa.wr W196 F194)
  have F199 := (Fld.other W196 (Fld.other W192 F_actor (Or.inr (slot_ne (a0 := a0) (Or.inr (hwi hw 23 rfl)) (Or.inr (hwi hw 19 rfl)) (by decide) (t := (.object "java/lang/String")) (t' := (.object "java/lang/String")) (by decide) (by decide)))) (Or.inr (slot_ne (a0 := a0) (Or.inr (hwi hw 23 rfl)) (Or.inr (hwi hw 21 rfl)) (by decide) (t := (.object "java/lang/String")) (t' := (.object "java/lang/String")) (by decide) (by decide))))
  obtain ⟨T200, h200, X200, e200, W200, s200⟩ := putF X196 hx hZ hown (host := "") (Or.inl (hwi hw 22 rfl)) Via.refl e196 F199 F198 (Or.inr ⟨(hwi hw 23 rfl), rfl, hnm⟩) (hwi hw 5 rfl) (ty := (.object "java/lang/String")) (by decide) (by rcases ref_cases wr2 with h | ⟨b, h⟩ <;> rw [h] <;> rfl) (by rcases ref_cases wr2 with h | ⟨b, h⟩ <;> rw [h] <;> rfl) (g := (mkF m 73 #[rv a, rv x, .val w1, .val w2, iv lz] [w2, (.ref a)])) rfl rfl (hb hby d16_73)
  have N200 := Fr.snoc X200 N196 f0
  have O201 : Ext Z.heap h200 := xw O197 W200 f0
  refine go s200 ?_
  show Ends p e below _ T200 (mkF m 76 #[rv a, rv x, .val w1, .val w2, iv lz] [])
  have K202 : Keep h0 h200 [a] := (Keep.wr (Keep.wr (Keep.wr (Keep.refl _ _) W192 (Or.inl (List.mem_of_getElem? (i := 0) rfl))) W196 (Or.inl (List.mem_of_getElem? (i := 0) rfl))) W200 (Or.inl (List.mem_of_getElem? (i := 0) rfl)))
  have F203 := (Fld.other W200 (Fld.other W196 (Fld.same W192 F_reason) (Or.inr (slot_ne (a0 := a0) (Or.inr (hwi hw 19 rfl)) (Or.inr (hwi hw 21 rfl)) (by decide) (t := (.object "java/lang/String")) (t' := (.object "java/lang/String")) (by decide) (by decide)))) (Or.inr (slot_ne (a0 := a0) (Or.inr (hwi hw 19 rfl)) (Or.inr (hwi hw 23 rfl)) (by decide) (t := (.object "java/lang/String")) (t' := (.object "java/lang/String")) (by decide) (by decide))))
  have F204 := (Fld.other W200 (Fld.same W196 F195) (Or.inr (slot_ne (a0 := a0) (Or.inr (hwi hw 21 rfl)) (Or.inr (hwi hw 23 rfl)) (by decide) (t := (.object "java/lang/String")) (t' := (.object "java/lang/String")) (by decide) (by decide))))
  have F205 := (Fld.same W200 F199)
  exact endV X200 hx hret (hb hby d16_76) (lvN X200 hlk e200 (fun _ => rfl) ⟨rfl, N200, K202, F203, F204, F205⟩ (by decide) (by decide))
set_option maxRecDepth 65536 in
set_option maxHeartbeats 40000000 in
theorem rm_ie0 {l : Launch} {Z : State} {a0 : Array Value} (hw : ∀ d ∈ tables_1, d.before a0 Z = true) (a  : Addr) (h0 : Heap) (F0 : Fld Z h0 a "com/example/scopa/scopa/audit/Attribution" "reason" "Ljava/lang/String;" .null) (F1 : Fld Z h0 a "com/example/scopa/scopa/audit/Attribution" "subject" "Ljava/lang/String;" .null) (F2 : Fld Z h0 a "com/example/scopa/scopa/audit/Attribution" "actor" "Ljava/lang/String;" .null) :
    Con l (⟨"com/example/scopa/scopa/audit/Attribution", "isEmpty", "()Z"⟩ : MethodName) prog_1_method_2_code 1 (some .boolean) ({ frames := 0, cells := 0, slots := 0, locals := 0 } : Room) Z #[(.ref a)] h0 (fun v h L => v = some (.int 1) ∧ Fr Z.heap.size L ∧ h0 = h) := by
  refine Con.of (plainFor_of_name pn_18) (Ls := #[rv a]) (fun m => efOf rfl) ?_
  intro p e s m below meth c T0 X0 hx hZ hby hml hown hnm hret hlk e0
  refine go (fun _ => XS.aloadN X0.here hx rfl (hb hby d17_0) rfl rfl) ?_
  show Ends p e below _ T0 (mkF m 1 #[rv a] [(.ref a)])
  obtain ⟨T206, X206, e206, s206⟩ := getF X0 hx hZ hown (host := "") (Or.inl (hwi hw 18 rfl)) Via.refl e0 F0 (g := (mkF m 1 #[rv a] [(.ref a)])) rfl rfl (hb hby d17_1)
  refine go s206 ?_
  show Ends p e below _ T206 (mkF m 4 #[rv a] [.null])
  refine go (fun _ => XT.ifnonnullNo X206.here hx rfl (hb hby d17_4) rfl) ?_
  show Ends p e below _ T206 (mkF m 7 #[rv a] [])
  refine go (fun _ => XS.aloadN X206.here hx rfl (hb hby d17_7) rfl rfl) ?_
  show Ends p e below _ T206 (mkF m 8 #[rv a] [(.ref a)])
  obtain ⟨T207, X207, e207, s207⟩ := getF X206 hx hZ hown (host := "") (Or.inl (hwi hw 20 rfl)) Via.refl e206 F1 (g := (mkF m 8 #[rv a] [(.ref a)])) rfl rfl (hb hby d17_8)
  refine go s207 ?_
  show Ends p e below _ T207 (mkF m 11 #[rv a] [.null])
  refine go (fun _ => XT.ifnonnullNo X207.here hx rfl (hb hby d17_11) rfl) ?_
  show Ends p e below _ T207 (mkF m 14 #[rv a] [])
  refine go (fun _ => XS.aloadN X207.here hx rfl (hb hby d17_14) rfl rfl) ?_
  show Ends p e below _ T207 (mkF m 15 #[rv a] [(.ref a)])
  obtain ⟨T208, X208, e208, s208⟩ := getF X207 hx hZ hown (host := "") (Or.inl (hwi hw 22 rfl)) Via.refl e207 F2 (g := (mkF m 15 #[rv a] [(.ref a)])) rfl rfl (hb hby d17_15)
  refine go s208 ?_
  show Ends p e below _ T208 (mkF m 18 #[rv a] [.null])
  refine go (fun _ => XT.ifnonnullNo X208.here hx rfl (hb hby d17_18) rfl) ?_
  show Ends p e below _ T208 (mkF m 21 #[rv a] [])
  refine go (fun _ => XT.iconstV X208.here hx rfl (1 : Int32) (hb hby d17_21) (by decide)) ?_
  refine go (fun _ => XS.goto X208.here hx rfl (pc0 := 22) (pc' := 26) rfl (hb hby d17_22) (by decide) (by decide)) ?_
  show Ends p e below _ T208 (mkF m 26 #[rv a] [(.int (1 : Int32))])
  exact endN X208 hx hret (by simp) (hb hby d17_26) (lvN X208 hlk e208 (fun h => by rw [hret] at h; cases h) ⟨by simp [nar], (Fr.nil _), rfl⟩ (by decide) (by decide))
set_option maxRecDepth 65536 in
set_option maxHeartbeats 40000000 in
theorem rm_ie1 {l : Launch} {Z : State} {a0 : Array Value} (hw : ∀ d ∈ tables_1, d.before a0 Z = true) (a x0 : Addr) (h0 : Heap) (F0 : Fld Z h0 a "com/example/scopa/scopa/audit/Attribution" "reason" "Ljava/lang/String;" (.ref x0)) (F1 : Fld Z h0 a "com/example/scopa/scopa/audit/Attribution" "subject" "Ljava/lang/String;" .null) (F2 : Fld Z h0 a "com/example/scopa/scopa/audit/Attribution" "actor" "Ljava/lang/String;" .null) :
    Con l (⟨"com/example/scopa/scopa/audit/Attribution", "isEmpty", "()Z"⟩ : MethodName) prog_1_method_2_code 1 (some .boolean) ({ frames := 0, cells := 0, slots := 0, locals := 0 } : Room) Z #[(.ref a)] h0 (fun v h L => v = some (.int 0) ∧ Fr Z.heap.size L ∧ h0 = h) := by
  refine Con.of (plainFor_of_name pn_18) (Ls := #[rv a]) (fun m => efOf rfl) ?_
  intro p e s m below meth c T0 X0 hx hZ hby hml hown hnm hret hlk e0
  refine go (fun _ => XS.aloadN X0.here hx rfl (hb hby d17_0) rfl rfl) ?_
  show Ends p e below _ T0 (mkF m 1 #[rv a] [(.ref a)])
  obtain ⟨T209, X209, e209, s209⟩ := getF X0 hx hZ hown (host := "") (Or.inl (hwi hw 18 rfl)) Via.refl e0 F0 (g := (mkF m 1 #[rv a] [(.ref a)])) rfl rfl (hb hby d17_1)
  refine go s209 ?_
  show Ends p e below _ T209 (mkF m 4 #[rv a] [(.ref x0)])
  refine go (fun _ => XT.ifnonnullYes X209.here hx rfl (pc0 := 4) (pc' := 25) rfl (hb hby d17_4) rfl (by decide) (by decide)) ?_
  show Ends p e below _ T209 (mkF m 25 #[rv a] [])
  refine go (fun _ => XT.iconstV X209.here hx rfl (0 : Int32) (hb hby d17_25) (by decide)) ?_
  show Ends p e below _ T209 (mkF m 26 #[rv a] [(.int (0 : Int32))])
  exact endN X209 hx hret (by simp) (hb hby d17_26) (lvN X209 hlk e209 (fun h => by rw [hret] at h; cases h) ⟨by simp [nar], (Fr.nil _), rfl⟩ (by decide) (by decide))
set_option maxRecDepth 65536 in
set_option maxHeartbeats 40000000 in
theorem rm_ie2 {l : Launch} {Z : State} {a0 : Array Value} (hw : ∀ d ∈ tables_1, d.before a0 Z = true) (a x1 : Addr) (h0 : Heap) (F0 : Fld Z h0 a "com/example/scopa/scopa/audit/Attribution" "reason" "Ljava/lang/String;" .null) (F1 : Fld Z h0 a "com/example/scopa/scopa/audit/Attribution" "subject" "Ljava/lang/String;" (.ref x1)) (F2 : Fld Z h0 a "com/example/scopa/scopa/audit/Attribution" "actor" "Ljava/lang/String;" .null) :
    Con l (⟨"com/example/scopa/scopa/audit/Attribution", "isEmpty", "()Z"⟩ : MethodName) prog_1_method_2_code 1 (some .boolean) ({ frames := 0, cells := 0, slots := 0, locals := 0 } : Room) Z #[(.ref a)] h0 (fun v h L => v = some (.int 0) ∧ Fr Z.heap.size L ∧ h0 = h) := by
  refine Con.of (plainFor_of_name pn_18) (Ls := #[rv a]) (fun m => efOf rfl) ?_
  intro p e s m below meth c T0 X0 hx hZ hby hml hown hnm hret hlk e0
  refine go (fun _ => XS.aloadN X0.here hx rfl (hb hby d17_0) rfl rfl) ?_
  show Ends p e below _ T0 (mkF m 1 #[rv a] [(.ref a)])
  obtain ⟨T210, X210, e210, s210⟩ := getF X0 hx hZ hown (host := "") (Or.inl (hwi hw 18 rfl)) Via.refl e0 F0 (g := (mkF m 1 #[rv a] [(.ref a)])) rfl rfl (hb hby d17_1)
  refine go s210 ?_
  show Ends p e below _ T210 (mkF m 4 #[rv a] [.null])
  refine go (fun _ => XT.ifnonnullNo X210.here hx rfl (hb hby d17_4) rfl) ?_
  show Ends p e below _ T210 (mkF m 7 #[rv a] [])
  refine go (fun _ => XS.aloadN X210.here hx rfl (hb hby d17_7) rfl rfl) ?_
  show Ends p e below _ T210 (mkF m 8 #[rv a] [(.ref a)])
  obtain ⟨T211, X211, e211, s211⟩ := getF X210 hx hZ hown (host := "") (Or.inl (hwi hw 20 rfl)) Via.refl e210 F1 (g := (mkF m 8 #[rv a] [(.ref a)])) rfl rfl (hb hby d17_8)
  refine go s211 ?_
  show Ends p e below _ T211 (mkF m 11 #[rv a] [(.ref x1)])
  refine go (fun _ => XT.ifnonnullYes X211.here hx rfl (pc0 := 11) (pc' := 25) rfl (hb hby d17_11) rfl (by decide) (by decide)) ?_
  show Ends p e below _ T211 (mkF m 25 #[rv a] [])
  refine go (fun _ => XT.iconstV X211.here hx rfl (0 : Int32) (hb hby d17_25) (by decide)) ?_
  show Ends p e below _ T211 (mkF m 26 #[rv a] [(.int (0 : Int32))])
  exact endN X211 hx hret (by simp) (hb hby d17_26) (lvN X211 hlk e211 (fun h => by rw [hret] at h; cases h) ⟨by simp [nar], (Fr.nil _), rfl⟩ (by decide) (by decide))
set_option maxRecDepth 65536 in
set_option maxHeartbeats 40000000 in
theorem rm_ie3 {l : Launch} {Z : State} {a0 : Array Value} (hw : ∀ d ∈ tables_1, d.before a0 Z = true) (a x0 x1 : Addr) (h0 : Heap) (F0 : Fld Z h0 a "com/example/scopa/scopa/audit/Attribution" "reason" "Ljava/lang/String;" (.ref x0)) (F1 : Fld Z h0 a "com/example/scopa/scopa/audit/Attribution" "subject" "Ljava/lang/String;" (.ref x1)) (F2 : Fld Z h0 a "com/example/scopa/scopa/audit/Attribution" "actor" "Ljava/lang/String;" .null) :
    Con l (⟨"com/example/scopa/scopa/audit/Attribution", "isEmpty", "()Z"⟩ : MethodName) prog_1_method_2_code 1 (some .boolean) ({ frames := 0, cells := 0, slots := 0, locals := 0 } : Room) Z #[(.ref a)] h0 (fun v h L => v = some (.int 0) ∧ Fr Z.heap.size L ∧ h0 = h) := by
  refine Con.of (plainFor_of_name pn_18) (Ls := #[rv a]) (fun m => efOf rfl) ?_
  intro p e s m below meth c T0 X0 hx hZ hby hml hown hnm hret hlk e0
  refine go (fun _ => XS.aloadN X0.here hx rfl (hb hby d17_0) rfl rfl) ?_
  show Ends p e below _ T0 (mkF m 1 #[rv a] [(.ref a)])
  obtain ⟨T212, X212, e212, s212⟩ := getF X0 hx hZ hown (host := "") (Or.inl (hwi hw 18 rfl)) Via.refl e0 F0 (g := (mkF m 1 #[rv a] [(.ref a)])) rfl rfl (hb hby d17_1)
  refine go s212 ?_
  show Ends p e below _ T212 (mkF m 4 #[rv a] [(.ref x0)])
  refine go (fun _ => XT.ifnonnullYes X212.here hx rfl (pc0 := 4) (pc' := 25) rfl (hb hby d17_4) rfl (by decide) (by decide)) ?_
  show Ends p e below _ T212 (mkF m 25 #[rv a] [])
  refine go (fun _ => XT.iconstV X212.here hx rfl (0 : Int32) (hb hby d17_25) (by decide)) ?_
  show Ends p e below _ T212 (mkF m 26 #[rv a] [(.int (0 : Int32))])
  exact endN X212 hx hret (by simp) (hb hby d17_26) (lvN X212 hlk e212 (fun h => by rw [hret] at h; cases h) ⟨by simp [nar], (Fr.nil _), rfl⟩ (by decide) (by decide))
set_option maxRecDepth 65536 in
set_option maxHeartbeats 40000000 in
theorem rm_ie4 {l : Launch} {Z : State} {a0 : Array Value} (hw : ∀ d ∈ tables_1, d.before a0 Z = true) (a x2 : Addr) (h0 : Heap) (F0 : Fld Z h0 a "com/example/scopa/scopa/audit/Attribution" "reason" "Ljava/lang/String;" .null) (F1 : Fld Z h0 a "com/example/scopa/scopa/audit/Attribution" "subject" "Ljava/lang/String;" .null) (F2 : Fld Z h0 a "com/example/scopa/scopa/audit/Attribution" "actor" "Ljava/lang/String;" (.ref x2)) :
    Con l (⟨"com/example/scopa/scopa/audit/Attribution", "isEmpty", "()Z"⟩ : MethodName) prog_1_method_2_code 1 (some .boolean) ({ frames := 0, cells := 0, slots := 0, locals := 0 } : Room) Z #[(.ref a)] h0 (fun v h L => v = some (.int 0) ∧ Fr Z.heap.size L ∧ h0 = h) := by
  refine Con.of (plainFor_of_name pn_18) (Ls := #[rv a]) (fun m => efOf rfl) ?_
  intro p e s m below meth c T0 X0 hx hZ hby hml hown hnm hret hlk e0
  refine go (fun _ => XS.aloadN X0.here hx rfl (hb hby d17_0) rfl rfl) ?_
  show Ends p e below _ T0 (mkF m 1 #[rv a] [(.ref a)])
  obtain ⟨T213, X213, e213, s213⟩ := getF X0 hx hZ hown (host := "") (Or.inl (hwi hw 18 rfl)) Via.refl e0 F0 (g := (mkF m 1 #[rv a] [(.ref a)])) rfl rfl (hb hby d17_1)
  refine go s213 ?_
  show Ends p e below _ T213 (mkF m 4 #[rv a] [.null])
  refine go (fun _ => XT.ifnonnullNo X213.here hx rfl (hb hby d17_4) rfl) ?_
  show Ends p e below _ T213 (mkF m 7 #[rv a] [])
  refine go (fun _ => XS.aloadN X213.here hx rfl (hb hby d17_7) rfl rfl) ?_
  show Ends p e below _ T213 (mkF m 8 #[rv a] [(.ref a)])
  obtain ⟨T214, X214, e214, s214⟩ := getF X213 hx hZ hown (host := "") (Or.inl (hwi hw 20 rfl)) Via.refl e213 F1 (g := (mkF m 8 #[rv a] [(.ref a)])) rfl rfl (hb hby d17_8)
  refine go s214 ?_
  show Ends p e below _ T214 (mkF m 11 #[rv a] [.null])
  refine go (fun _ => XT.ifnonnullNo X214.here hx rfl (hb hby d17_11) rfl) ?_
  show Ends p e below _ T214 (mkF m 14 #[rv a] [])
  refine go (fun _ => XS.aloadN X214.here hx rfl (hb hby d17_14) rfl rfl) ?_
  show Ends p e below _ T214 (mkF m 15 #[rv a] [(.ref a)])
  obtain ⟨T215, X215, e215, s215⟩ := getF X214 hx hZ hown (host := "") (Or.inl (hwi hw 22 rfl)) Via.refl e214 F2 (g := (mkF m 15 #[rv a] [(.ref a)])) rfl rfl (hb hby d17_15)
  refine go s215 ?_
  show Ends p e below _ T215 (mkF m 18 #[rv a] [(.ref x2)])
  refine go (fun _ => XT.ifnonnullYes X215.here hx rfl (pc0 := 18) (pc' := 25) rfl (hb hby d17_18) rfl (by decide) (by decide)) ?_
  show Ends p e below _ T215 (mkF m 25 #[rv a] [])
  refine go (fun _ => XT.iconstV X215.here hx rfl (0 : Int32) (hb hby d17_25) (by decide)) ?_
  show Ends p e below _ T215 (mkF m 26 #[rv a] [(.int (0 : Int32))])
  exact endN X215 hx hret (by simp) (hb hby d17_26) (lvN X215 hlk e215 (fun h => by rw [hret] at h; cases h) ⟨by simp [nar], (Fr.nil _), rfl⟩ (by decide) (by decide))
set_option maxRecDepth 65536 in
set_option maxHeartbeats 40000000 in
theorem rm_ie5 {l : Launch} {Z : State} {a0 : Array Value} (hw : ∀ d ∈ tables_1, d.before a0 Z = true) (a x0 x2 : Addr) (h0 : Heap) (F0 : Fld Z h0 a "com/example/scopa/scopa/audit/Attribution" "reason" "Ljava/lang/String;" (.ref x0)) (F1 : Fld Z h0 a "com/example/scopa/scopa/audit/Attribution" "subject" "Ljava/lang/String;" .null) (F2 : Fld Z h0 a "com/example/scopa/scopa/audit/Attribution" "actor" "Ljava/lang/String;" (.ref x2)) :
    Con l (⟨"com/example/scopa/scopa/audit/Attribution", "isEmpty", "()Z"⟩ : MethodName) prog_1_method_2_code 1 (some .boolean) ({ frames := 0, cells := 0, slots := 0, locals := 0 } : Room) Z #[(.ref a)] h0 (fun v h L => v = some (.int 0) ∧ Fr Z.heap.size L ∧ h0 = h) := by
  refine Con.of (plainFor_of_name pn_18) (Ls := #[rv a]) (fun m => efOf rfl) ?_
  intro p e s m below meth c T0 X0 hx hZ hby hml hown hnm hret hlk e0
  refine go (fun _ => XS.aloadN X0.here hx rfl (hb hby d17_0) rfl rfl) ?_
  show Ends p e below _ T0 (mkF m 1 #[rv a] [(.ref a)])
  obtain ⟨T216, X216, e216, s216⟩ := getF X0 hx hZ hown (host := "") (Or.inl (hwi hw 18 rfl)) Via.refl e0 F0 (g := (mkF m 1 #[rv a] [(.ref a)])) rfl rfl (hb hby d17_1)
  refine go s216 ?_
  show Ends p e below _ T216 (mkF m 4 #[rv a] [(.ref x0)])
  refine go (fun _ => XT.ifnonnullYes X216.here hx rfl (pc0 := 4) (pc' := 25) rfl (hb hby d17_4) rfl (by decide) (by decide)) ?_
  show Ends p e below _ T216 (mkF m 25 #[rv a] [])
  refine go (fun _ => XT.iconstV X216.here hx rfl (0 : Int32) (hb hby d17_25) (by decide)) ?_
  show Ends p e below _ T216 (mkF m 26 #[rv a] [(.int (0 : Int32))])
  exact endN X216 hx hret (by simp) (hb hby d17_26) (lvN X216 hlk e216 (fun h => by rw [hret] at h; cases h) ⟨by simp [nar], (Fr.nil _), rfl⟩ (by decide) (by decide))
set_option maxRecDepth 65536 in
set_option maxHeartbeats 40000000 in
theorem rm_ie6 {l : Launch} {Z : State} {a0 : Array Value} (hw : ∀ d ∈ tables_1, d.before a0 Z = true) (a x1 x2 : Addr) (h0 : Heap) (F0 : Fld Z h0 a "com/example/scopa/scopa/audit/Attribution" "reason" "Ljava/lang/String;" .null) (F1 : Fld Z h0 a "com/example/scopa/scopa/audit/Attribution" "subject" "Ljava/lang/String;" (.ref x1)) (F2 : Fld Z h0 a "com/example/scopa/scopa/audit/Attribution" "actor" "Ljava/lang/String;" (.ref x2)) :
    Con l (⟨"com/example/scopa/scopa/audit/Attribution", "isEmpty", "()Z"⟩ : MethodName) prog_1_method_2_code 1 (some .boolean) ({ frames := 0, cells := 0, slots := 0, locals := 0 } : Room) Z #[(.ref a)] h0 (fun v h L => v = some (.int 0) ∧ Fr Z.heap.size L ∧ h0 = h) := by
  refine Con.of (plainFor_of_name pn_18) (Ls := #[rv a]) (fun m => efOf rfl) ?_
  intro p e s m below meth c T0 X0 hx hZ hby hml hown hnm hret hlk e0
  refine go (fun _ => XS.aloadN X0.here hx rfl (hb hby d17_0) rfl rfl) ?_
  show Ends p e below _ T0 (mkF m 1 #[rv a] [(.ref a)])
  obtain ⟨T217, X217, e217, s217⟩ := getF X0 hx hZ hown (host := "") (Or.inl (hwi hw 18 rfl)) Via.refl e0 F0 (g := (mkF m 1 #[rv a] [(.ref a)])) rfl rfl (hb hby d17_1)
  refine go s217 ?_
  show Ends p e below _ T217 (mkF m 4 #[rv a] [.null])
  refine go (fun _ => XT.ifnonnullNo X217.here hx rfl (hb hby d17_4) rfl) ?_
  show Ends p e below _ T217 (mkF m 7 #[rv a] [])
  refine go (fun _ => XS.aloadN X217.here hx rfl (hb hby d17_7) rfl rfl) ?_
  show Ends p e below _ T217 (mkF m 8 #[rv a] [(.ref a)])
  obtain ⟨T218, X218, e218, s218⟩ := getF X217 hx hZ hown (host := "") (Or.inl (hwi hw 20 rfl)) Via.refl e217 F1 (g := (mkF m 8 #[rv a] [(.ref a)])) rfl rfl (hb hby d17_8)
  refine go s218 ?_
  show Ends p e below _ T218 (mkF m 11 #[rv a] [(.ref x1)])
  refine go (fun _ => XT.ifnonnullYes X218.here hx rfl (pc0 := 11) (pc' := 25) rfl (hb hby d17_11) rfl (by decide) (by decide)) ?_
  show Ends p e below _ T218 (mkF m 25 #[rv a] [])
  refine go (fun _ => XT.iconstV X218.here hx rfl (0 : Int32) (hb hby d17_25) (by decide)) ?_
  show Ends p e below _ T218 (mkF m 26 #[rv a] [(.int (0 : Int32))])
  exact endN X218 hx hret (by simp) (hb hby d17_26) (lvN X218 hlk e218 (fun h => by rw [hret] at h; cases h) ⟨by simp [nar], (Fr.nil _), rfl⟩ (by decide) (by decide))
set_option maxRecDepth 65536 in
set_option maxHeartbeats 40000000 in
theorem rm_ie7 {l : Launch} {Z : State} {a0 : Array Value} (hw : ∀ d ∈ tables_1, d.before a0 Z = true) (a x0 x1 x2 : Addr) (h0 : Heap) (F0 : Fld Z h0 a "com/example/scopa/scopa/audit/Attribution" "reason" "Ljava/lang/String;" (.ref x0)) (F1 : Fld Z h0 a "com/example/scopa/scopa/audit/Attribution" "subject" "Ljava/lang/String;" (.ref x1)) (F2 : Fld Z h0 a "com/example/scopa/scopa/audit/Attribution" "actor" "Ljava/lang/String;" (.ref x2)) :
    Con l (⟨"com/example/scopa/scopa/audit/Attribution", "isEmpty", "()Z"⟩ : MethodName) prog_1_method_2_code 1 (some .boolean) ({ frames := 0, cells := 0, slots := 0, locals := 0 } : Room) Z #[(.ref a)] h0 (fun v h L => v = some (.int 0) ∧ Fr Z.heap.size L ∧ h0 = h) := by
  refine Con.of (plainFor_of_name pn_18) (Ls := #[rv a]) (fun m => efOf rfl) ?_
  intro p e s m below meth c T0 X0 hx hZ hby hml hown hnm hret hlk e0
  refine go (fun _ => XS.aloadN X0.here hx rfl (hb hby d17_0) rfl rfl) ?_
  show Ends p e below _ T0 (mkF m 1 #[rv a] [(.ref a)])
  obtain ⟨T219, X219, e219, s219⟩ := getF X0 hx hZ hown (host := "") (Or.inl (hwi hw 18 rfl)) Via.refl e0 F0 (g := (mkF m 1 #[rv a] [(.ref a)])) rfl rfl (hb hby d17_1)
  refine go s219 ?_
  show Ends p e below _ T219 (mkF m 4 #[rv a] [(.ref x0)])
  refine go (fun _ => XT.ifnonnullYes X219.here hx rfl (pc0 := 4) (pc' := 25) rfl (hb hby d17_4) rfl (by decide) (by decide)) ?_
  show Ends p e below _ T219 (mkF m 25 #[rv a] [])
  refine go (fun _ => XT.iconstV X219.here hx rfl (0 : Int32) (hb hby d17_25) (by decide)) ?_
  show Ends p e below _ T219 (mkF m 26 #[rv a] [(.int (0 : Int32))])
  exact endN X219 hx hret (by simp) (hb hby d17_26) (lvN X219 hlk e219 (fun h => by rw [hret] at h; cases h) ⟨by simp [nar], (Fr.nil _), rfl⟩ (by decide) (by decide))
set_option maxRecDepth 65536 in
set_option maxHeartbeats 40000000 in
theorem rm_make {l : Launch} {Z : State} {a0 : Array Value} (hw : ∀ d ∈ tables_1, d.before a0 Z = true) (sel ci : Int32) (h0 : Heap) (O0 : Ext Z.heap h0) (cz : Int32) (SCS : Sta Z Z.heap "java/lang/String" "COMPACT_STRINGS" "Z" (.int cz)) (hcz : ¬ cz = (0 : Int32)) :
    ConW l (⟨"com/example/scopa/scopa/audit/AttributionIsEmptyPinLaw", "make", "(II)Ljava/lang/String;"⟩ : MethodName) method_2_code 6 (some (.object "java/lang/String")) ({ frames := 4, cells := 6, slots := 12, locals := 66 } : Room) Z own_EL #[(.int sel), (.int ci)] h0 (fun v h L => (v = some .null ∧ Fr Z.heap.size L ∧ Keep h0 h [] ∧ (sel &&& (1 : Int32)) = (0 : Int32)) ∨ (∃ (a b : Addr) (k : ClassId) (lz : Int32) (vs : List Value), v = some (.ref a) ∧ Fr Z.heap.size L ∧ Keep h0 h [] ∧ h0.size ≤ a ∧ ¬ (sel &&& (1 : Int32)) = (0 : Int32) ∧ Exa Z h a "java/lang/String" ∧ Fld Z h a "java/lang/String" "value" "[B" (.ref b) ∧ Fld Z h a "java/lang/String" "coder" "B" (.int 0) ∧ Arv Z h b k .byte lz vs (.int 0) ∧ ¬ lz < 0 ∧ lz < 4)) := by
  refine ConW.of (plainFor_of_name pn_21) (Ls := #[iv sel, iv ci, .unset, .unset, .unset, .unset]) (fun m => efOf rfl) ?_
  intro p e s m below meth c T0 X0 hx hZ hby hml hown hnm hret hlk e0 hs0 hS hk H0
  refine go (fun _ => XS.iloadN X0.here hx rfl (hb hby d18_0) rfl) ?_
  refine go (fun _ => XT.iconstV X0.here hx rfl (1 : Int32) (hb hby d18_1) (by decide)) ?_
  refine go (fun _ => XS.iand X0.here hx rfl (hb hby d18_2) rfl) ?_
  show Ends p e below _ T0 (mkF m 3 #[iv sel, iv ci, .unset, .unset, .unset, .unset] [(.int (sel &&& (1 : Int32)))])
  by_cases c3_220 : (sel &&& (1 : Int32)) = (0 : Int32)
  · refine go (fun _ => XS.ifNo X0.here hx rfl (hb hby d18_3) rfl (XT.i0_ne_f c3_220)) ?_
    show Ends p e below _ T0 (mkF m 6 #[iv sel, iv ci, .unset, .unset, .unset, .unset] [])
    refine go (fun _ => XS.aconstNull X0.here hx rfl (hb hby d18_6)) ?_
    show Ends p e below _ T0 (mkF m 7 #[iv sel, iv ci, .unset, .unset, .unset, .unset] [.null])
    have K221 : Keep h0 h0 [] := (Keep.refl _ _)
    exact endA X0 hx hret rfl rfl (hb hby d18_7) (lvW X0 hlk hZ (own_EW hw) hs0 hS hk H0 e0 (fun h => by rw [hret] at h; cases h) (Or.inl ⟨rfl, (Fr.nil _), K221, c3_220⟩) (by decide) (by decide))
  · refine go (fun _ => XS.ifYes X0.here hx rfl (pc0 := 3) (pc' := 8) rfl (hb hby d18_3) rfl (XT.i0_ne_t c3_220) (by decide) (by decide)) ?_
    show Ends p e below _ T0 (mkF m 8 #[iv sel, iv ci, .unset, .unset, .unset, .unset] [])
    refine go (fun _ => XS.iloadN X0.here hx rfl (hb hby d18_8) rfl) ?_
    refine go (fun _ => XT.iconstV X0.here hx rfl (1 : Int32) (hb hby d18_9) (by decide)) ?_
    refine go (fun _ => XT.iushr X0.here hx rfl (hb hby d18_10) rfl) ?_
    refine go (fun _ => XT.iconstV X0.here hx rfl (3 : Int32) (hb hby d18_11) (by decide)) ?_
    refine go (fun _ => XS.iand X0.here hx rfl (hb hby d18_12) rfl) ?_
    refine go (fun _ => XS.istoreN X0.here hx rfl (hb hby d18_13) rfl (l' := #[iv sel, iv ci, iv ((XT.ushr sel (1 : Int32)) &&& (3 : Int32)), .unset, .unset, .unset]) rfl) ?_
    show Ends p e below _ T0 (mkF m 14 #[iv sel, iv ci, iv ((XT.ushr sel (1 : Int32)) &&& (3 : Int32)), .unset, .unset, .unset] [])
    refine go (fun _ => XS.iloadN X0.here hx rfl (hb hby d18_14) rfl) ?_
    refine go (fun _ => XT.sipushV X0.here hx rfl (255 : Int32) (hb hby d18_15) (by decide)) ?_
    refine go (fun _ => XS.iand X0.here hx rfl (hb hby d18_18) rfl) ?_
    refine go (fun _ => XT.i2c X0.here hx rfl (hb hby d18_19) rfl) ?_
    show Ends p e below _ T0 (mkF m 20 #[iv sel, iv ci, iv ((XT.ushr sel (1 : Int32)) &&& (3 : Int32)), .unset, .unset, .unset] [(.int (ci &&& (255 : Int32)).toUInt32.toUInt16.toUInt32.toInt32)])
    obtain ⟨ch222, hch222⟩ : ∃ z : Int32, z = (ci &&& (255 : Int32)).toUInt32.toUInt16.toUInt32.toInt32 := ⟨_, rfl⟩
    have lc222 : ¬ (255 : Int32) < ch222 := by rw [hch222]; exact (own_ch _).1
    have nc222 : nar .char ch222 = ch222 := by rw [hch222]; exact own_nc _
    rw [← hch222]
    show Ends p e below _ T0 (mkF m 20 #[iv sel, iv ci, iv ((XT.ushr sel (1 : Int32)) &&& (3 : Int32)), .unset, .unset, .unset] [(.int ch222)])
    refine go (fun _ => XS.istoreN X0.here hx rfl (hb hby d18_20) rfl (l' := #[iv sel, iv ci, iv ((XT.ushr sel (1 : Int32)) &&& (3 : Int32)), iv ch222, .unset, .unset]) rfl) ?_
    refine go (fun _ => XS.iloadN X0.here hx rfl (hb hby d18_21) rfl) ?_
    refine go (fun _ => XT.bipushV X0.here hx rfl (8 : Int32) (hb hby d18_22) (by decide)) ?_
    refine go (fun _ => XT.iushr X0.here hx rfl (hb hby d18_24) rfl) ?_
    refine go (fun _ => XT.sipushV X0.here hx rfl (255 : Int32) (hb hby d18_25) (by decide)) ?_
    refine go (fun _ => XS.iand X0.here hx rfl (hb hby d18_28) rfl) ?_
    show Ends p e below _ T0 (mkF m 29 #[iv sel, iv ci, iv ((XT.ushr sel (1 : Int32)) &&& (3 : Int32)), iv ch222, .unset, .unset] [(.int ((XT.ushr ci (8 : Int32)) &&& (255 : Int32)))])
    refine go (fun _ => XT.i2c X0.here hx rfl (hb hby d18_29) rfl) ?_
    show Ends p e below _ T0 (mkF m 30 #[iv sel, iv ci, iv ((XT.ushr sel (1 : Int32)) &&& (3 : Int32)), iv ch222, .unset, .unset] [(.int ((XT.ushr ci (8 : Int32)) &&& (255 : Int32)).toUInt32.toUInt16.toUInt32.toInt32)])
    obtain ⟨ch223, hch223⟩ : ∃ z : Int32, z = ((XT.ushr ci (8 : Int32)) &&& (255 : Int32)).toUInt32.toUInt16.toUInt32.toInt32 := ⟨_, rfl⟩
    have lc223 : ¬ (255 : Int32) < ch223 := by rw [hch223]; exact (own_ch _).1
    have nc223 : nar .char ch223 = ch223 := by rw [hch223]; exact own_nc _
    rw [← hch223]
    show Ends p e below _ T0 (mkF m 30 #[iv sel, iv ci, iv ((XT.ushr sel (1 : Int32)) &&& (3 : Int32)), iv ch222, .unset, .unset] [(.int ch223)])
    refine go (fun _ => XS.istore X0.here hx rfl (hb hby d18_30) rfl (l' := #[iv sel, iv ci, iv ((XT.ushr sel (1 : Int32)) &&& (3 : Int32)), iv ch222, iv ch223, .unset]) rfl) ?_
    refine go (fun _ => XS.iloadN X0.here hx rfl (hb hby d18_32) rfl) ?_
    refine go (fun _ => XT.bipushV X0.here hx rfl (16 : Int32) (hb hby d18_33) (by decide)) ?_
    refine go (fun _ => XT.iushr X0.here hx rfl (hb hby d18_35) rfl) ?_
    refine go (fun _ => XT.sipushV X0.here hx rfl (255 : Int32) (hb hby d18_36) (by decide)) ?_
    refine go (fun _ => XS.iand X0.here hx rfl (hb hby d18_39) rfl) ?_
    show Ends p e below _ T0 (mkF m 40 #[iv sel, iv ci, iv ((XT.ushr sel (1 : Int32)) &&& (3 : Int32)), iv ch222, iv ch223, .unset] [(.int ((XT.ushr ci (16 : Int32)) &&& (255 : Int32)))])
    refine go (fun _ => XT.i2c X0.here hx rfl (hb hby d18_40) rfl) ?_
    show Ends p e below _ T0 (mkF m 41 #[iv sel, iv ci, iv ((XT.ushr sel (1 : Int32)) &&& (3 : Int32)), iv ch222, iv ch223, .unset] [(.int ((XT.ushr ci (16 : Int32)) &&& (255 : Int32)).toUInt32.toUInt16.toUInt32.toInt32)])
    obtain ⟨ch224, hch224⟩ : ∃ z : Int32, z = ((XT.ushr ci (16 : Int32)) &&& (255 : Int32)).toUInt32.toUInt16.toUInt32.toInt32 := ⟨_, rfl⟩
    have lc224 : ¬ (255 : Int32) < ch224 := by rw [hch224]; exact (own_ch _).1
    have nc224 : nar .char ch224 = ch224 := by rw [hch224]; exact own_nc _
    rw [← hch224]
    show Ends p e below _ T0 (mkF m 41 #[iv sel, iv ci, iv ((XT.ushr sel (1 : Int32)) &&& (3 : Int32)), iv ch222, iv ch223, .unset] [(.int ch224)])
    refine go (fun _ => XS.istore X0.here hx rfl (hb hby d18_41) rfl (l' := #[iv sel, iv ci, iv ((XT.ushr sel (1 : Int32)) &&& (3 : Int32)), iv ch222, iv ch223, iv ch224]) rfl) ?_
    refine go (fun _ => XS.iloadN X0.here hx rfl (hb hby d18_43) rfl) ?_
    show Ends p e below _ T0 (mkF m 44 #[iv sel, iv ci, iv ((XT.ushr sel (1 : Int32)) &&& (3 : Int32)), iv ch222, iv ch223, iv ch224] [(.int ((XT.ushr sel (1 : Int32)) &&& (3 : Int32)))])
    by_cases c44_225 : ((XT.ushr sel (1 : Int32)) &&& (3 : Int32)) = (0 : Int32)
    · refine go (fun _ => XS.ifNo X0.here hx rfl (hb hby d18_44) rfl (XT.i0_ne_f c44_225)) ?_
      show Ends p e below _ T0 (mkF m 47 #[iv sel, iv ci, iv ((XT.ushr sel (1 : Int32)) &&& (3 : Int32)), iv ch222, iv ch223, iv ch224] [])
      obtain ⟨T226, h226, X226, e226, E226, A226, D226, U226, s226⟩ := newO X0 hx hZ hown (hwi hw 29 rfl) (hwi hw 30 rfl) (hwi hw 31 rfl) e0 (g := (mkF m 47 #[iv sel, iv ci, iv ((XT.ushr sel (1 : Int32)) &&& (3 : Int32)), iv ch222, iv ch223, iv ch224] [])) rfl (hb hby d18_47) (by decide) (by decide)
      obtain ⟨a226, g226⟩ : ∃ z : Addr, z = h0.size := ⟨_, rfl⟩
      have f226 : Z.heap.size ≤ a226 := by rw [g226]; exact (O0).1
      have K227 : Keep h0 h0 [] := (Keep.refl _ _)
      have b226 : h0.size ≤ a226 := by rw [g226]; exact (K227).1
      rw [← g226] at A226 D226 U226 s226
      have C228 : CHr Z own_EL s.vm h0 s.vm h226 := CHr.ext E226 H0.1
      have hk := Nat.le_trans hk C228.2.1
      have H228 := H0.trans C228
      have O229 : Ext Z.heap h226 := xx O0 E226
      have SF226 : Safe Z own_EL s.vm h226 a226 := Safe.ext E226 H0.1 (Safe.new (by rw [g226]; exact Nat.le_refl _))
      refine go s226 ?_
      show Ends p e below _ T226 (mkF m 50 #[iv sel, iv ci, iv ((XT.ushr sel (1 : Int32)) &&& (3 : Int32)), iv ch222, iv ch223, iv ch224] [(.ref a226)])
      refine go (fun _ => XS.dup X226.here hx rfl (hb hby d18_50) rfl rfl) ?_
      refine go (fun _ => XT.iconstV X226.here hx rfl (0 : Int32) (hb hby d18_51) (by decide)) ?_
      show Ends p e below _ T226 (mkF m 52 #[iv sel, iv ci, iv ((XT.ushr sel (1 : Int32)) &&& (3 : Int32)), iv ch222, iv ch223, iv ch224] [(.int (0 : Int32)), (.ref a226), (.ref a226)])
      obtain ⟨T230, h230, k230, X230, e230, E230, A230, s230⟩ := newP X226 hx hZ (hwi hw 32 rfl) e226 (g := (mkF m 52 #[iv sel, iv ci, iv ((XT.ushr sel (1 : Int32)) &&& (3 : Int32)), iv ch222, iv ch223, iv ch224] [(.int (0 : Int32)), (.ref a226), (.ref a226)])) rfl (hb hby d18_52) rfl (by decide) (cap := 0) (by decide) (by decide) (by decide) (by decide)
      obtain ⟨a230, g230⟩ : ∃ z : Addr, z = h226.size := ⟨_, rfl⟩
      have n231 : a226 ≠ a230 := fun q => absurd (A226.lt) (by rw [q, g230]; exact Nat.lt_irrefl _)
      have f230 : Z.heap.size ≤ a230 := by rw [g230]; exact (O229).1
      have K232 : Keep h0 h226 [] := (Keep.ext K227 E226)
      have b230 : h0.size ≤ a230 := by rw [g230]; exact (K232).1
      rw [← g230] at A230 s230
      have C233 : CHr Z own_EL s.vm h226 s.vm h230 := CHr.ext E230 H228.1
      have hk := Nat.le_trans hk C233.2.1
      have H233 := H228.trans C233
      have O234 : Ext Z.heap h230 := xx O229 E230
      have SF230 : Safe Z own_EL s.vm h230 a230 := Safe.ext E230 H228.1 (Safe.new (by rw [g230]; exact Nat.le_refl _))
      have V230 : Arv Z h230 a230 k230 .char (0 : Int32) [] (.int 0) := Arv.pad (Arv.new A230 (by decide)) (pad_rep [] _ 0)
      refine go s230 ?_
      show Ends p e below _ T230 (mkF m 54 #[iv sel, iv ci, iv ((XT.ushr sel (1 : Int32)) &&& (3 : Int32)), iv ch222, iv ch223, iv ch224] [(.ref a230), (.ref a226), (.ref a226)])
      have F235 := (Exa.ext E230 A226)
      have F236 := (Fld.ext E230 (D226 (Or.inr (hwi hw 43 rfl)) (ty := (.array .byte)) (by decide)))
      have F237 := (Fld.ext E230 (D226 (Or.inr (hwi hw 44 rfl)) (ty := .byte) (by decide)))
      refine cInitW X230 hx hZ hown (by rw [hml]; rfl) e230 (own_EW hw) hS hk H233.1 (hwi hw 33 rfl) (hwi hw 34 rfl) (hwi hw 31 rfl) (hwi hw 35 rfl) a226 [(.ref a230)] [(.ref a226)] rfl (rm_new1_0 hw a226 a230 k230 _ O234 f226 F235 F236 F237 V230 n231) (hb hby d18_54) rfl (lenOf pd_22 rfl) rfl (by decide) (by decide) (Nat.le_of_ble_eq_true rfl) (by decide) (by decide) ?_
      rintro v238 T238 h238 L238 k238w X238 e238 hS hk hZ hown C238w ⟨b238, k238, rfl, N238, K238, Fv238, Fc238, V238, nb238⟩
      have N238a := Fr.app (Fr.nil _) N238
      have H239 := H233.trans C238w
      have O240 : Ext Z.heap h238 := xk O234 K238 (allS f226 all0)
      show Ends p e below _ T238 (mkF m 57 #[iv sel, iv ci, iv ((XT.ushr sel (1 : Int32)) &&& (3 : Int32)), iv ch222, iv ch223, iv ch224] [(.ref a226)])
      have K241 : Keep h0 h238 [] := (Keep.trans (Keep.ext K232 E230) K238 (allS (Or.inr b226) all0))
      have F242 := (Exa.keep F235 K238)
      exact endA X238 hx hret rfl rfl (hb hby d18_57) (lvW X238 hlk hZ (own_EW hw) hs0 hS hk H239 e238 (fun h => by rw [hret] at h; cases h) (Or.inr ⟨a226, b238, _, (0 : Int32), _, rfl, N238a, K241, b226, c3_220, F242, Fv238, Fc238, V238, by decide, by decide⟩) (by decide) (by decide))
    · refine go (fun _ => XS.ifYes X0.here hx rfl (pc0 := 44) (pc' := 58) rfl (hb hby d18_44) rfl (XT.i0_ne_t c44_225) (by decide) (by decide)) ?_
      show Ends p e below _ T0 (mkF m 58 #[iv sel, iv ci, iv ((XT.ushr sel (1 : Int32)) &&& (3 : Int32)), iv ch222, iv ch223, iv ch224] [])
      refine go (fun _ => XS.iloadN X0.here hx rfl (hb hby d18_58) rfl) ?_
      refine go (fun _ => XT.iconstV X0.here hx rfl (1 : Int32) (hb hby d18_59) (by decide)) ?_
      show Ends p e below _ T0 (mkF m 60 #[iv sel, iv ci, iv ((XT.ushr sel (1 : Int32)) &&& (3 : Int32)), iv ch222, iv ch223, iv ch224] [(.int (1 : Int32)), (.int ((XT.ushr sel (1 : Int32)) &&& (3 : Int32)))])
      by_cases c60_243 : ((XT.ushr sel (1 : Int32)) &&& (3 : Int32)) = (1 : Int32)
      · refine go (fun _ => XS.icmpNo X0.here hx rfl (hb hby d18_60) rfl (XT.ii_ne_f c60_243)) ?_
        show Ends p e below _ T0 (mkF m 63 #[iv sel, iv ci, iv ((XT.ushr sel (1 : Int32)) &&& (3 : Int32)), iv ch222, iv ch223, iv ch224] [])
        refine go (fun _ => XS.iloadN X0.here hx rfl (hb hby d18_63) rfl) ?_
        show Ends p e below _ T0 (mkF m 64 #[iv sel, iv ci, iv ((XT.ushr sel (1 : Int32)) &&& (3 : Int32)), iv ch222, iv ch223, iv ch224] [(.int ch222)])
        refine cStat X0 hx hZ hown (by rw [hml]; rfl) e0 (hwi hw 89 rfl) (hwi hw 90 rfl) (hwi hw 31 rfl) (hwi hw 91 rfl) [(.int ch222)] [] rfl (rm_cvalueOf hw ch222 _ O0 lc222 cz SCS hcz) (hb hby d18_64) rfl (lenOf pd_23 rfl) (by decide) (by decide) (Nat.le_of_ble_eq_true rfl) (by decide) (by decide) ?_
        rintro v244 T244 h244 L244 X244 e244 ⟨a244, b244, k244, rfl, N244, K244, ga244, gb244, nn244, E244, Fv244, Fc244, V244⟩
        have N244a := Fr.app (Fr.nil _) N244
        have f245 : Z.heap.size ≤ a244 := Nat.le_trans (O0).1 ga244
        have K246 : Keep h0 h0 [] := (Keep.refl _ _)
        have b245 : h0.size ≤ a244 := Nat.le_trans (K246).1 ga244
        have f247 : Z.heap.size ≤ b244 := Nat.le_trans (O0).1 gb244
        have b247 : h0.size ≤ b244 := Nat.le_trans (K246).1 gb244
        have C248 : CHr Z own_EL s.vm h0 s.vm h244 := CHr.keep K244 sf0 H0.1
        have hk := Nat.le_trans hk C248.2.1
        have H248 := H0.trans C248
        have O249 : Ext Z.heap h244 := xk O0 K244 all0
        show Ends p e below _ T244 (mkF m 67 #[iv sel, iv ci, iv ((XT.ushr sel (1 : Int32)) &&& (3 : Int32)), iv ch222, iv ch223, iv ch224] [(.ref a244)])
        have K250 : Keep h0 h244 [] := (Keep.trans K246 K244 all0)
        exact endA X244 hx hret rfl rfl (hb hby d18_67) (lvW X244 hlk hZ (own_EW hw) hs0 hS hk H248 e244 (fun h => by rw [hret] at h; cases h) (Or.inr ⟨a244, b244, _, (1 : Int32), _, rfl, N244a, K250, b245, c3_220, E244, Fv244, Fc244, V244, by decide, by decide⟩) (by decide) (by decide))
      · refine go (fun _ => XS.icmpYes X0.here hx rfl (pc0 := 60) (pc' := 68) rfl (hb hby d18_60) rfl (XT.ii_ne_t c60_243) (by decide) (by decide)) ?_
        show Ends p e below _ T0 (mkF m 68 #[iv sel, iv ci, iv ((XT.ushr sel (1 : Int32)) &&& (3 : Int32)), iv ch222, iv ch223, iv ch224] [])
        refine go (fun _ => XS.iloadN X0.here hx rfl (hb hby d18_68) rfl) ?_
        refine go (fun _ => XT.iconstV X0.here hx rfl (2 : Int32) (hb hby d18_69) (by decide)) ?_
        show Ends p e below _ T0 (mkF m 70 #[iv sel, iv ci, iv ((XT.ushr sel (1 : Int32)) &&& (3 : Int32)), iv ch222, iv ch223, iv ch224] [(.int (2 : Int32)), (.int ((XT.ushr sel (1 : Int32)) &&& (3 : Int32)))])
        by_cases c70_251 : ((XT.ushr sel (1 : Int32)) &&& (3 : Int32)) = (2 : Int32)
        · refine go (fun _ => XS.icmpNo X0.here hx rfl (hb hby d18_70) rfl (XT.ii_ne_f c70_251)) ?_
          show Ends p e below _ T0 (mkF m 73 #[iv sel, iv ci, iv ((XT.ushr sel (1 : Int32)) &&& (3 : Int32)), iv ch222, iv ch223, iv ch224] [])
          obtain ⟨T252, h252, X252, e252, E252, A252, D252, U252, s252⟩ := newO X0 hx hZ hown (hwi hw 29 rfl) (hwi hw 30 rfl) (hwi hw 31 rfl) e0 (g := (mkF m 73 #[iv sel, iv ci, iv ((XT.ushr sel (1 : Int32)) &&& (3 : Int32)), iv ch222, iv ch223, iv ch224] [])) rfl (hb hby d18_73) (by decide) (by decide)
          obtain ⟨a252, g252⟩ : ∃ z : Addr, z = h0.size := ⟨_, rfl⟩
          have f252 : Z.heap.size ≤ a252 := by rw [g252]; exact (O0).1
          have K253 : Keep h0 h0 [] := (Keep.refl _ _)
          have b252 : h0.size ≤ a252 := by rw [g252]; exact (K253).1
          rw [← g252] at A252 D252 U252 s252
          have C254 : CHr Z own_EL s.vm h0 s.vm h252 := CHr.ext E252 H0.1
          have hk := Nat.le_trans hk C254.2.1
          have H254 := H0.trans C254
          have O255 : Ext Z.heap h252 := xx O0 E252
          have SF252 : Safe Z own_EL s.vm h252 a252 := Safe.ext E252 H0.1 (Safe.new (by rw [g252]; exact Nat.le_refl _))
          refine go s252 ?_
          show Ends p e below _ T252 (mkF m 76 #[iv sel, iv ci, iv ((XT.ushr sel (1 : Int32)) &&& (3 : Int32)), iv ch222, iv ch223, iv ch224] [(.ref a252)])
          refine go (fun _ => XS.dup X252.here hx rfl (hb hby d18_76) rfl rfl) ?_
          refine go (fun _ => XT.iconstV X252.here hx rfl (2 : Int32) (hb hby d18_77) (by decide)) ?_
          show Ends p e below _ T252 (mkF m 78 #[iv sel, iv ci, iv ((XT.ushr sel (1 : Int32)) &&& (3 : Int32)), iv ch222, iv ch223, iv ch224] [(.int (2 : Int32)), (.ref a252), (.ref a252)])
          obtain ⟨T256, h256, k256, X256, e256, E256, A256, s256⟩ := newP X252 hx hZ (hwi hw 32 rfl) e252 (g := (mkF m 78 #[iv sel, iv ci, iv ((XT.ushr sel (1 : Int32)) &&& (3 : Int32)), iv ch222, iv ch223, iv ch224] [(.int (2 : Int32)), (.ref a252), (.ref a252)])) rfl (hb hby d18_78) rfl (by decide) (cap := 2) (by decide) (by decide) (by decide) (by decide)
          obtain ⟨a256, g256⟩ : ∃ z : Addr, z = h252.size := ⟨_, rfl⟩
          have n257 : a252 ≠ a256 := fun q => absurd (A252.lt) (by rw [q, g256]; exact Nat.lt_irrefl _)
          have f256 : Z.heap.size ≤ a256 := by rw [g256]; exact (O255).1
          have K258 : Keep h0 h252 [] := (Keep.ext K253 E252)
          have b256 : h0.size ≤ a256 := by rw [g256]; exact (K258).1
          rw [← g256] at A256 s256
          have C259 : CHr Z own_EL s.vm h252 s.vm h256 := CHr.ext E256 H254.1
          have hk := Nat.le_trans hk C259.2.1
          have H259 := H254.trans C259
          have O260 : Ext Z.heap h256 := xx O255 E256
          have SF256 : Safe Z own_EL s.vm h256 a256 := Safe.ext E256 H254.1 (Safe.new (by rw [g256]; exact Nat.le_refl _))
          have V256 : Arv Z h256 a256 k256 .char (2 : Int32) [(.int (0 : Int32)), (.int (0 : Int32))] (.int 0) := Arv.pad (Arv.new A256 (by decide)) (pad_rep [] _ 2)
          refine go s256 ?_
          show Ends p e below _ T256 (mkF m 80 #[iv sel, iv ci, iv ((XT.ushr sel (1 : Int32)) &&& (3 : Int32)), iv ch222, iv ch223, iv ch224] [(.ref a256), (.ref a252), (.ref a252)])
          refine go (fun _ => XS.dup X256.here hx rfl (hb hby d18_80) rfl rfl) ?_
          refine go (fun _ => XT.iconstV X256.here hx rfl (0 : Int32) (hb hby d18_81) (by decide)) ?_
          refine go (fun _ => XS.iloadN X256.here hx rfl (hb hby d18_82) rfl) ?_
          show Ends p e below _ T256 (mkF m 83 #[iv sel, iv ci, iv ((XT.ushr sel (1 : Int32)) &&& (3 : Int32)), iv ch222, iv ch223, iv ch224] [(.int ch222), (.int (0 : Int32)), (.ref a256), (.ref a256), (.ref a252), (.ref a252)])
          obtain ⟨cl261, A261, q261, S261, M261, H261, G261⟩ := id V256
          obtain ⟨T261, h261, X261, e261, W261, s261⟩ := stC X256 hx hZ e256 A261 (j := (0 : Int32)) (inb_of S261 (by decide)) (g := (mkF m 83 #[iv sel, iv ci, iv ((XT.ushr sel (1 : Int32)) &&& (3 : Int32)), iv ch222, iv ch223, iv ch224] [(.int ch222), (.int (0 : Int32)), (.ref a256), (.ref a256), (.ref a252), (.ref a252)])) rfl rfl (hb hby d18_83)
          have r261 : nar .char ch222 = ch222 := nc222
          rw [r261] at W261
          have N261 := Fr.snoc X261 (Fr.nil _) f256
          have C262 : CHr Z own_EL s.vm h256 s.vm h261 := CHr.wr W261 SF256 H259.1
          have hk := Nat.le_trans hk C262.2.1
          have H262 := H259.trans C262
          have O263 : Ext Z.heap h261 := xw O260 W261 f256
          have V261 : Arv Z h261 a256 k256 .char (2 : Int32) [(.int ch222), (.int (0 : Int32))] (.int 0) := Arv.set A261 q261 S261 M261 H261 G261 (by first | rfl | exact fits_nar_char ch222 | (rw [← r261]; exact fits_nar_char ch222)) W261 0 (by decide) (Nat.le_of_ble_eq_true rfl)
          refine go s261 ?_
          show Ends p e below _ T261 (mkF m 84 #[iv sel, iv ci, iv ((XT.ushr sel (1 : Int32)) &&& (3 : Int32)), iv ch222, iv ch223, iv ch224] [(.ref a256), (.ref a252), (.ref a252)])
          refine go (fun _ => XS.dup X261.here hx rfl (hb hby d18_84) rfl rfl) ?_
          refine go (fun _ => XT.iconstV X261.here hx rfl (1 : Int32) (hb hby d18_85) (by decide)) ?_
          refine go (fun _ => XS.iload X261.here hx rfl (hb hby d18_86) rfl) ?_
          show Ends p e below _ T261 (mkF m 88 #[iv sel, iv ci, iv ((XT.ushr sel (1 : Int32)) &&& (3 : Int32)), iv ch222, iv ch223, iv ch224] [(.int ch223), (.int (1 : Int32)), (.ref a256), (.ref a256), (.ref a252), (.ref a252)])
          obtain ⟨cl264, A264, q264, S264, M264, H264, G264⟩ := id V261
          obtain ⟨T264, h264, X264, e264, W264, s264⟩ := stC X261 hx hZ e261 A264 (j := (1 : Int32)) (inb_of S264 (by decide)) (g := (mkF m 88 #[iv sel, iv ci, iv ((XT.ushr sel (1 : Int32)) &&& (3 : Int32)), iv ch222, iv ch223, iv ch224] [(.int ch223), (.int (1 : Int32)), (.ref a256), (.ref a256), (.ref a252), (.ref a252)])) rfl rfl (hb hby d18_88)
          have r264 : nar .char ch223 = ch223 := nc223
          rw [r264] at W264
          have N264 := Fr.snoc X264 N261 f256
          have F266 := (Safe.wr W261 SF256 H259.1 SF256)
          have C265 : CHr Z own_EL s.vm h261 s.vm h264 := CHr.wr W264 F266 H262.1
          have hk := Nat.le_trans hk C265.2.1
          have H265 := H262.trans C265
          have O267 : Ext Z.heap h264 := xw O263 W264 f256
          have V264 : Arv Z h264 a256 k256 .char (2 : Int32) [(.int ch222), (.int ch223)] (.int 0) := Arv.set A264 q264 S264 M264 H264 G264 (by first | rfl | exact fits_nar_char ch223 | (rw [← r264]; exact fits_nar_char ch223)) W264 1 (by decide) (Nat.le_of_ble_eq_true rfl)
          refine go s264 ?_
          show Ends p e below _ T264 (mkF m 89 #[iv sel, iv ci, iv ((XT.ushr sel (1 : Int32)) &&& (3 : Int32)), iv ch222, iv ch223, iv ch224] [(.ref a256), (.ref a252), (.ref a252)])
          have F268 := (Exa.wr W264 (Exa.wr W261 (Exa.ext E256 A252)))
          have F269 := (Fld.other W264 (Fld.other W261 (Fld.ext E256 (D252 (Or.inr (hwi hw 43 rfl)) (ty := (.array .byte)) (by decide))) (Or.inl n257)) (Or.inl n257))
          have F270 := (Fld.other W264 (Fld.other W261 (Fld.ext E256 (D252 (Or.inr (hwi hw 44 rfl)) (ty := .byte) (by decide))) (Or.inl n257)) (Or.inl n257))
          refine cInit X264 hx hZ hown (by rw [hml]; rfl) e264 (hwi hw 33 rfl) (hwi hw 34 rfl) (hwi hw 31 rfl) (hwi hw 35 rfl) a252 [(.ref a256)] [(.ref a252)] rfl (rm_new1_2 hw a252 a256 k256 ch222 ch223 _ O267 f252 n257 F268 F269 F270 cz SCS hcz V264 lc222 lc223) (hb hby d18_89) rfl (lenOf pd_22 rfl) rfl (by decide) (by decide) (Nat.le_of_ble_eq_true rfl) (by decide) (by decide) ?_
          rintro v271 T271 h271 L271 X271 e271 ⟨b271, k271, rfl, N271, K271, g271, Fv271, Fc271, V271⟩
          have N271a := Fr.app N264 N271
          have n272 : a252 ≠ b271 := Nat.ne_of_lt (Nat.lt_of_lt_of_le (F268.lt) g271)
          have n273 : a256 ≠ b271 := Nat.ne_of_lt (Nat.lt_of_lt_of_le (V264.lt) g271)
          have f274 : Z.heap.size ≤ b271 := Nat.le_trans (O267).1 g271
          have K275 : Keep h0 h264 [] := (Keep.wr (Keep.wr (Keep.ext K258 E256) W261 (Or.inr b256)) W264 (Or.inr b256))
          have b274 : h0.size ≤ b271 := Nat.le_trans (K275).1 g271
          have F277 := (Safe.wr W264 F266 H262.1 (Safe.wr W261 SF256 H259.1 (Safe.ext E256 H254.1 SF252)))
          have sf276 : ∀ x ∈ [a252], Safe Z own_EL s.vm h264 x := (sfS F277 sf0)
          have C276 : CHr Z own_EL s.vm h264 s.vm h271 := CHr.keep K271 sf276 H265.1
          have hk := Nat.le_trans hk C276.2.1
          have H276 := H265.trans C276
          have O278 : Ext Z.heap h271 := xk O267 K271 (allS f252 all0)
          show Ends p e below _ T271 (mkF m 92 #[iv sel, iv ci, iv ((XT.ushr sel (1 : Int32)) &&& (3 : Int32)), iv ch222, iv ch223, iv ch224] [(.ref a252)])
          have K279 : Keep h0 h271 [] := (Keep.trans K275 K271 (allS (Or.inr b252) all0))
          have F280 := (Exa.keep F268 K271)
          exact endA X271 hx hret rfl rfl (hb hby d18_92) (lvW X271 hlk hZ (own_EW hw) hs0 hS hk H276 e271 (fun h => by rw [hret] at h; cases h) (Or.inr ⟨a252, b271, _, (2 : Int32), _, rfl, N271a, K279, b252, c3_220, F280, Fv271, Fc271, V271, by decide, by decide⟩) (by decide) (by decide))
        · refine go (fun _ => XS.icmpYes X0.here hx rfl (pc0 := 70) (pc' := 93) rfl (hb hby d18_70) rfl (XT.ii_ne_t c70_251) (by decide) (by decide)) ?_
          show Ends p e below _ T0 (mkF m 93 #[iv sel, iv ci, iv ((XT.ushr sel (1 : Int32)) &&& (3 : Int32)), iv ch222, iv ch223, iv ch224] [])
          obtain ⟨T281, h281, X281, e281, E281, A281, D281, U281, s281⟩ := newO X0 hx hZ hown (hwi hw 29 rfl) (hwi hw 30 rfl) (hwi hw 31 rfl) e0 (g := (mkF m 93 #[iv sel, iv ci, iv ((XT.ushr sel (1 : Int32)) &&& (3 : Int32)), iv ch222, iv ch223, iv ch224] [])) rfl (hb hby d18_93) (by decide) (by decide)
          obtain ⟨a281, g281⟩ : ∃ z : Addr, z = h0.size := ⟨_, rfl⟩
          have f281 : Z.heap.size ≤ a281 := by rw [g281]; exact (O0).1
          have K282 : Keep h0 h0 [] := (Keep.refl _ _)
          have b281 : h0.size ≤ a281 := by rw [g281]; exact (K282).1
          rw [← g281] at A281 D281 U281 s281
          have C283 : CHr Z own_EL s.vm h0 s.vm h281 := CHr.ext E281 H0.1
          have hk := Nat.le_trans hk C283.2.1
          have H283 := H0.trans C283
          have O284 : Ext Z.heap h281 := xx O0 E281
          have SF281 : Safe Z own_EL s.vm h281 a281 := Safe.ext E281 H0.1 (Safe.new (by rw [g281]; exact Nat.le_refl _))
          refine go s281 ?_
          show Ends p e below _ T281 (mkF m 96 #[iv sel, iv ci, iv ((XT.ushr sel (1 : Int32)) &&& (3 : Int32)), iv ch222, iv ch223, iv ch224] [(.ref a281)])
          refine go (fun _ => XS.dup X281.here hx rfl (hb hby d18_96) rfl rfl) ?_
          refine go (fun _ => XT.iconstV X281.here hx rfl (3 : Int32) (hb hby d18_97) (by decide)) ?_
          show Ends p e below _ T281 (mkF m 98 #[iv sel, iv ci, iv ((XT.ushr sel (1 : Int32)) &&& (3 : Int32)), iv ch222, iv ch223, iv ch224] [(.int (3 : Int32)), (.ref a281), (.ref a281)])
          obtain ⟨T285, h285, k285, X285, e285, E285, A285, s285⟩ := newP X281 hx hZ (hwi hw 32 rfl) e281 (g := (mkF m 98 #[iv sel, iv ci, iv ((XT.ushr sel (1 : Int32)) &&& (3 : Int32)), iv ch222, iv ch223, iv ch224] [(.int (3 : Int32)), (.ref a281), (.ref a281)])) rfl (hb hby d18_98) rfl (by decide) (cap := 3) (by decide) (by decide) (by decide) (by decide)
          obtain ⟨a285, g285⟩ : ∃ z : Addr, z = h281.size := ⟨_, rfl⟩
          have n286 : a281 ≠ a285 := fun q => absurd (A281.lt) (by rw [q, g285]; exact Nat.lt_irrefl _)
          have f285 : Z.heap.size ≤ a285 := by rw [g285]; exact (O284).1
          have K287 : Keep h0 h281 [] := (Keep.ext K282 E281)
          have b285 : h0.size ≤ a285 := by rw [g285]; exact (K287).1
          rw [← g285] at A285 s285
          have C288 : CHr Z own_EL s.vm h281 s.vm h285 := CHr.ext E285 H283.1
          have hk := Nat.le_trans hk C288.2.1
          have H288 := H283.trans C288
          have O289 : Ext Z.heap h285 := xx O284 E285
          have SF285 : Safe Z own_EL s.vm h285 a285 := Safe.ext E285 H283.1 (Safe.new (by rw [g285]; exact Nat.le_refl _))
          have V285 : Arv Z h285 a285 k285 .char (3 : Int32) [(.int (0 : Int32)), (.int (0 : Int32)), (.int (0 : Int32))] (.int 0) := Arv.pad (Arv.new A285 (by decide)) (pad_rep [] _ 3)
          refine go s285 ?_
          show Ends p e below _ T285 (mkF m 100 #[iv sel, iv ci, iv ((XT.ushr sel (1 : Int32)) &&& (3 : Int32)), iv ch222, iv ch223, iv ch224] [(.ref a285), (.ref a281), (.ref a281)])
          refine go (fun _ => XS.dup X285.here hx rfl (hb hby d18_100) rfl rfl) ?_
          refine go (fun _ => XT.iconstV X285.here hx rfl (0 : Int32) (hb hby d18_101) (by decide)) ?_
          refine go (fun _ => XS.iloadN X285.here hx rfl (hb hby d18_102) rfl) ?_
          show Ends p e below _ T285 (mkF m 103 #[iv sel, iv ci, iv ((XT.ushr sel (1 : Int32)) &&& (3 : Int32)), iv ch222, iv ch223, iv ch224] [(.int ch222), (.int (0 : Int32)), (.ref a285), (.ref a285), (.ref a281), (.ref a281)])
          obtain ⟨cl290, A290, q290, S290, M290, H290, G290⟩ := id V285
          obtain ⟨T290, h290, X290, e290, W290, s290⟩ := stC X285 hx hZ e285 A290 (j := (0 : Int32)) (inb_of S290 (by decide)) (g := (mkF m 103 #[iv sel, iv ci, iv ((XT.ushr sel (1 : Int32)) &&& (3 : Int32)), iv ch222, iv ch223, iv ch224] [(.int ch222), (.int (0 : Int32)), (.ref a285), (.ref a285), (.ref a281), (.ref a281)])) rfl rfl (hb hby d18_103)
          have r290 : nar .char ch222 = ch222 := nc222
          rw [r290] at W290
          have N290 := Fr.snoc X290 (Fr.nil _) f285
          have C291 : CHr Z own_EL s.vm h285 s.vm h290 := CHr.wr W290 SF285 H288.1
          have hk := Nat.le_trans hk C291.2.1
          have H291 := H288.trans C291
          have O292 : Ext Z.heap h290 := xw O289 W290 f285
          have V290 : Arv Z h290 a285 k285 .char (3 : Int32) [(.int ch222), (.int (0 : Int32)), (.int (0 : Int32))] (.int 0) := Arv.set A290 q290 S290 M290 H290 G290 (by first | rfl | exact fits_nar_char ch222 | (rw [← r290]; exact fits_nar_char ch222)) W290 0 (by decide) (Nat.le_of_ble_eq_true rfl)
          refine go s290 ?_
          show Ends p e below _ T290 (mkF m 104 #[iv sel, iv ci, iv ((XT.ushr sel (1 : Int32)) &&& (3 : Int32)), iv ch222, iv ch223, iv ch224] [(.ref a285), (.ref a281), (.ref a281)])
          refine go (fun _ => XS.dup X290.here hx rfl (hb hby d18_104) rfl rfl) ?_
          refine go (fun _ => XT.iconstV X290.here hx rfl (1 : Int32) (hb hby d18_105) (by decide)) ?_
          refine go (fun _ => XS.iload X290.here hx rfl (hb hby d18_106) rfl) ?_
          show Ends p e below _ T290 (mkF m 108 #[iv sel, iv ci, iv ((XT.ushr sel (1 : Int32)) &&& (3 : Int32)), iv ch222, iv ch223, iv ch224] [(.int ch223), (.int (1 : Int32)), (.ref a285), (.ref a285), (.ref a281), (.ref a281)])
          obtain ⟨cl293, A293, q293, S293, M293, H293, G293⟩ := id V290
          obtain ⟨T293, h293, X293, e293, W293, s293⟩ := stC X290 hx hZ e290 A293 (j := (1 : Int32)) (inb_of S293 (by decide)) (g := (mkF m 108 #[iv sel, iv ci, iv ((XT.ushr sel (1 : Int32)) &&& (3 : Int32)), iv ch222, iv ch223, iv ch224] [(.int ch223), (.int (1 : Int32)), (.ref a285), (.ref a285), (.ref a281), (.ref a281)])) rfl rfl (hb hby d18_108)
          have r293 : nar .char ch223 = ch223 := nc223
          rw [r293] at W293
          have N293 := Fr.snoc X293 N290 f285
          have F295 := (Safe.wr W290 SF285 H288.1 SF285)
          have C294 : CHr Z own_EL s.vm h290 s.vm h293 := CHr.wr W293 F295 H291.1
          have hk := Nat.le_trans hk C294.2.1
          have H294 := H291.trans C294
          have O296 : Ext Z.heap h293 := xw O292 W293 f285
          have V293 : Arv Z h293 a285 k285 .char (3 : Int32) [(.int ch222), (.int ch223), (.int (0 : Int32))] (.int 0) := Arv.set A293 q293 S293 M293 H293 G293 (by first | rfl | exact fits_nar_char ch223 | (rw [← r293]; exact fits_nar_char ch223)) W293 1 (by decide) (Nat.le_of_ble_eq_true rfl)
          refine go s293 ?_
          show Ends p e below _ T293 (mkF m 109 #[iv sel, iv ci, iv ((XT.ushr sel (1 : Int32)) &&& (3 : Int32)), iv ch222, iv ch223, iv ch224] [(.ref a285), (.ref a281), (.ref a281)])
          refine go (fun _ => XS.dup X293.here hx rfl (hb hby d18_109) rfl rfl) ?_
          refine go (fun _ => XT.iconstV X293.here hx rfl (2 : Int32) (hb hby d18_110) (by decide)) ?_
          refine go (fun _ => XS.iload X293.here hx rfl (hb hby d18_111) rfl) ?_
          show Ends p e below _ T293 (mkF m 113 #[iv sel, iv ci, iv ((XT.ushr sel (1 : Int32)) &&& (3 : Int32)), iv ch222, iv ch223, iv ch224] [(.int ch224), (.int (2 : Int32)), (.ref a285), (.ref a285), (.ref a281), (.ref a281)])
          obtain ⟨cl297, A297, q297, S297, M297, H297, G297⟩ := id V293
          obtain ⟨T297, h297, X297, e297, W297, s297⟩ := stC X293 hx hZ e293 A297 (j := (2 : Int32)) (inb_of S297 (by decide)) (g := (mkF m 113 #[iv sel, iv ci, iv ((XT.ushr sel (1 : Int32)) &&& (3 : Int32)), iv ch222, iv ch223, iv ch224] [(.int ch224), (.int (2 : Int32)), (.ref a285), (.ref a285), (.ref a281), (.ref a281)])) rfl rfl (hb hby d18_113)
          have r297 : nar .char ch224 = ch224 := nc224
          rw [r297] at W297
          have N297 := Fr.snoc X297 N293 f285
          have F299 := (Safe.wr W293 F295 H291.1 F295)
          have C298 : CHr Z own_EL s.vm h293 s.vm h297 := CHr.wr W297 F299 H294.1
          have hk := Nat.le_trans hk C298.2.1
          have H298 := H294.trans C298
          have O300 : Ext Z.heap h297 := xw O296 W297 f285
          have V297 : Arv Z h297 a285 k285 .char (3 : Int32) [(.int ch222), (.int ch223), (.int ch224)] (.int 0) := Arv.set A297 q297 S297 M297 H297 G297 (by first | rfl | exact fits_nar_char ch224 | (rw [← r297]; exact fits_nar_char ch224)) W297 2 (by decide) (Nat.le_of_ble_eq_true rfl)
          refine go s297 ?_
          show Ends p e below _ T297 (mkF m 114 #[iv sel, iv ci, iv ((XT.ushr sel (1 : Int32)) &&& (3 : Int32)), iv ch222, iv ch223, iv ch224] [(.ref a285), (.ref a281), (.ref a281)])
          have F301 := (Exa.wr W297 (Exa.wr W293 (Exa.wr W290 (Exa.ext E285 A281))))
          have F302 := (Fld.other W297 (Fld.other W293 (Fld.other W290 (Fld.ext E285 (D281 (Or.inr (hwi hw 43 rfl)) (ty := (.array .byte)) (by decide))) (Or.inl n286)) (Or.inl n286)) (Or.inl n286))
          have F303 := (Fld.other W297 (Fld.other W293 (Fld.other W290 (Fld.ext E285 (D281 (Or.inr (hwi hw 44 rfl)) (ty := .byte) (by decide))) (Or.inl n286)) (Or.inl n286)) (Or.inl n286))
          refine cInit X297 hx hZ hown (by rw [hml]; rfl) e297 (hwi hw 33 rfl) (hwi hw 34 rfl) (hwi hw 31 rfl) (hwi hw 35 rfl) a281 [(.ref a285)] [(.ref a281)] rfl (rm_new1_3 hw a281 a285 k285 ch222 ch223 ch224 _ O300 f281 n286 F301 F302 F303 cz SCS hcz V297 lc222 lc223 lc224) (hb hby d18_114) rfl (lenOf pd_22 rfl) rfl (by decide) (by decide) (Nat.le_of_ble_eq_true rfl) (by decide) (by decide) ?_
          rintro v304 T304 h304 L304 X304 e304 ⟨b304, k304, rfl, N304, K304, g304, Fv304, Fc304, V304⟩
          have N304a := Fr.app N297 N304
          have n305 : a281 ≠ b304 := Nat.ne_of_lt (Nat.lt_of_lt_of_le (F301.lt) g304)
          have n306 : a285 ≠ b304 := Nat.ne_of_lt (Nat.lt_of_lt_of_le (V297.lt) g304)
          have f307 : Z.heap.size ≤ b304 := Nat.le_trans (O300).1 g304
          have K308 : Keep h0 h297 [] := (Keep.wr (Keep.wr (Keep.wr (Keep.ext K287 E285) W290 (Or.inr b285)) W293 (Or.inr b285)) W297 (Or.inr b285))
          have b307 : h0.size ≤ b304 := Nat.le_trans (K308).1 g304
          have F310 := (Safe.wr W297 F299 H294.1 (Safe.wr W293 F295 H291.1 (Safe.wr W290 SF285 H288.1 (Safe.ext E285 H283.1 SF281))))
          have sf309 : ∀ x ∈ [a281], Safe Z own_EL s.vm h297 x := (sfS F310 sf0)
          have C309 : CHr Z own_EL s.vm h297 s.vm h304 := CHr.keep K304 sf309 H298.1
          have hk := Nat.le_trans hk C309.2.1
          have H309 := H298.trans C309
          have O311 : Ext Z.heap h304 := xk O300 K304 (allS f281 all0)
          show Ends p e below _ T304 (mkF m 117 #[iv sel, iv ci, iv ((XT.ushr sel (1 : Int32)) &&& (3 : Int32)), iv ch222, iv ch223, iv ch224] [(.ref a281)])
          have K312 : Keep h0 h304 [] := (Keep.trans K308 K304 (allS (Or.inr b281) all0))
          have F313 := (Exa.keep F301 K304)
          exact endA X304 hx hret rfl rfl (hb hby d18_117) (lvW X304 hlk hZ (own_EW hw) hs0 hS hk H309 e304 (fun h => by rw [hret] at h; cases h) (Or.inr ⟨a281, b304, _, (3 : Int32), _, rfl, N304a, K312, b281, c3_220, F313, Fv304, Fc304, V304, by decide, by decide⟩) (by decide) (by decide))
set_option maxRecDepth 65536 in
set_option maxHeartbeats 40000000 in
theorem rm_law {l : Launch} {Z : State} {a0 : Array Value} (hw : ∀ d ∈ tables_1, d.before a0 Z = true) (i0 i1 i2 i3 : Int32) (h0 : Heap) (O0 : Ext Z.heap h0) (cz : Int32) (SCS : Sta Z Z.heap "java/lang/String" "COMPACT_STRINGS" "Z" (.int cz)) (hcz : ¬ cz = (0 : Int32)) :
    ConW l x code maxLocals ret room_1 Z own_EL #[(.int i0), (.int i1), (.int i2), (.int i3)] h0 (fun v h L => v = some (.int 1) ∧ Fr Z.heap.size L) := by
  refine ConW.of (plainFor_of_name pn_21) (Ls := #[iv i0, iv i1, iv i2, iv i3, .unset, .unset, .unset, .unset, .unset]) (fun m => efOf rfl) ?_
  intro p e s m below meth c T0 X0 hx hZ hby hml hown hnm hret hlk e0 hs0 hS hk H0
  have hml : c.maxLocals = 9 := hml
  refine go (fun _ => XS.iloadN X0.here hx rfl (hb hby at_0) rfl) ?_
  refine go (fun _ => XS.iloadN X0.here hx rfl (hb hby at_1) rfl) ?_
  show Ends p e below _ T0 (mkF m 2 #[iv i0, iv i1, iv i2, iv i3, .unset, .unset, .unset, .unset, .unset] [(.int i1), (.int i0)])
  refine cStatW X0 hx hZ hown (by rw [hml]; rfl) e0 (own_EW hw) hS hk H0.1 (hwi hw 0 rfl) (hwi hw 1 rfl) (hwi hw 2 rfl) (hwi hw 3 rfl) [(.int i0), (.int i1)] [] rfl (rm_make hw i0 i1 _ O0 cz SCS hcz) (hb hby at_2) rfl (lenOf pd_24 rfl) (by decide) (by decide) (Nat.le_of_ble_eq_true rfl) (by decide) (by decide) ?_
  rintro v314 T314 h314 L314 k314w X314 e314 hS hk hZ hown C314w (⟨rfl, N314, K314, c314⟩ | ⟨a314, b314, k314, lz314, vs314, rfl, N314, K314, g314, c314, E314, Fv314, Fc314, V314, u0314, u4314⟩)
  · have N314a := Fr.app (Fr.nil _) N314
    have H315 := H0.trans C314w
    have O316 : Ext Z.heap h314 := xk O0 K314 all0
    show Ends p e below _ T314 (mkF m 5 #[iv i0, iv i1, iv i2, iv i3, .unset, .unset, .unset, .unset, .unset] [.null])
    refine go (fun _ => XS.astore X314.here hx rfl (hb hby at_5) rfl rfl (l' := #[iv i0, iv i1, iv i2, iv i3, .val .null, .unset, .unset, .unset, .unset]) rfl) ?_
    refine go (fun _ => XS.iloadN X314.here hx rfl (hb hby at_7) rfl) ?_
    refine go (fun _ => XT.iconstV X314.here hx rfl (3 : Int32) (hb hby at_8) (by decide)) ?_
    refine go (fun _ => XT.iushr X314.here hx rfl (hb hby at_9) rfl) ?_
    refine go (fun _ => XS.iloadN X314.here hx rfl (hb hby at_10) rfl) ?_
    show Ends p e below _ T314 (mkF m 11 #[iv i0, iv i1, iv i2, iv i3, .val .null, .unset, .unset, .unset, .unset] [(.int i2), (.int (XT.ushr i0 (3 : Int32)))])
    refine cStatW X314 hx hZ hown (by rw [hml]; rfl) e314 (own_EW hw) hS hk H315.1 (hwi hw 0 rfl) (hwi hw 1 rfl) (hwi hw 2 rfl) (hwi hw 3 rfl) [(.int (XT.ushr i0 (3 : Int32))), (.int i2)] [] rfl (rm_make hw (XT.ushr i0 (3 : Int32)) i2 _ O316 cz SCS hcz) (hb hby at_11) rfl (lenOf pd_24 rfl) (by decide) (by decide) (Nat.le_of_ble_eq_true rfl) (by decide) (by decide) ?_
    rintro v317 T317 h317 L317 k317w X317 e317 hS hk hZ hown C317w (⟨rfl, N317, K317, c317⟩ | ⟨a317, b317, k317, lz317, vs317, rfl, N317, K317, g317, c317, E317, Fv317, Fc317, V317, u0317, u4317⟩)
    · have N317a := Fr.app N314a N317
      have H318 := H315.trans C317w
      have O319 : Ext Z.heap h317 := xk O316 K317 all0
      have cb317 : (i0 &&& (8 : Int32)) = (0 : Int32) := (own_bit i0).1.mp c317
      show Ends p e below _ T317 (mkF m 14 #[iv i0, iv i1, iv i2, iv i3, .val .null, .unset, .unset, .unset, .unset] [.null])
      refine go (fun _ => XS.astore X317.here hx rfl (hb hby at_14) rfl rfl (l' := #[iv i0, iv i1, iv i2, iv i3, .val .null, .val .null, .unset, .unset, .unset]) rfl) ?_
      refine go (fun _ => XS.iloadN X317.here hx rfl (hb hby at_16) rfl) ?_
      refine go (fun _ => XT.bipushV X317.here hx rfl (6 : Int32) (hb hby at_17) (by decide)) ?_
      refine go (fun _ => XT.iushr X317.here hx rfl (hb hby at_19) rfl) ?_
      refine go (fun _ => XS.iloadN X317.here hx rfl (hb hby at_20) rfl) ?_
      show Ends p e below _ T317 (mkF m 21 #[iv i0, iv i1, iv i2, iv i3, .val .null, .val .null, .unset, .unset, .unset] [(.int i3), (.int (XT.ushr i0 (6 : Int32)))])
      refine cStatW X317 hx hZ hown (by rw [hml]; rfl) e317 (own_EW hw) hS hk H318.1 (hwi hw 0 rfl) (hwi hw 1 rfl) (hwi hw 2 rfl) (hwi hw 3 rfl) [(.int (XT.ushr i0 (6 : Int32))), (.int i3)] [] rfl (rm_make hw (XT.ushr i0 (6 : Int32)) i3 _ O319 cz SCS hcz) (hb hby at_21) rfl (lenOf pd_24 rfl) (by decide) (by decide) (Nat.le_of_ble_eq_true rfl) (by decide) (by decide) ?_
      rintro v320 T320 h320 L320 k320w X320 e320 hS hk hZ hown C320w (⟨rfl, N320, K320, c320⟩ | ⟨a320, b320, k320, lz320, vs320, rfl, N320, K320, g320, c320, E320, Fv320, Fc320, V320, u0320, u4320⟩)
      · have N320a := Fr.app N317a N320
        have H321 := H318.trans C320w
        have O322 : Ext Z.heap h320 := xk O319 K320 all0
        have cb320 : (i0 &&& (64 : Int32)) = (0 : Int32) := (own_bit i0).2.mp c320
        show Ends p e below _ T320 (mkF m 24 #[iv i0, iv i1, iv i2, iv i3, .val .null, .val .null, .unset, .unset, .unset] [.null])
        refine go (fun _ => XS.astore X320.here hx rfl (hb hby at_24) rfl rfl (l' := #[iv i0, iv i1, iv i2, iv i3, .val .null, .val .null, .val .null, .unset, .unset]) rfl) ?_
        show Ends p e below _ T320 (mkF m 26 #[iv i0, iv i1, iv i2, iv i3, .val .null, .val .null, .val .null, .unset, .unset] [])
        obtain ⟨T323, h323, X323, e323, E323, A323, D323, U323, s323⟩ := newO X320 hx hZ hown (hwi hw 4 rfl) (hwi hw 5 rfl) (hwi hw 6 rfl) e320 (g := (mkF m 26 #[iv i0, iv i1, iv i2, iv i3, .val .null, .val .null, .val .null, .unset, .unset] [])) rfl (hb hby at_26) (by decide) (by decide)
        obtain ⟨a323, g323⟩ : ∃ z : Addr, z = h320.size := ⟨_, rfl⟩
        have f323 : Z.heap.size ≤ a323 := by rw [g323]; exact (O322).1
        rw [← g323] at A323 D323 U323 s323
        have C324 : CHr Z own_EL T320.vm h320 T320.vm h323 := CHr.ext E323 H321.1
        have hk := Nat.le_trans hk C324.2.1
        have H324 := H321.trans C324
        have O325 : Ext Z.heap h323 := xx O322 E323
        have SF323 : Safe Z own_EL T320.vm h323 a323 := Safe.ext E323 H321.1 (Safe.new (by rw [g323]; exact Nat.le_refl _))
        refine go s323 ?_
        show Ends p e below _ T323 (mkF m 29 #[iv i0, iv i1, iv i2, iv i3, .val .null, .val .null, .val .null, .unset, .unset] [(.ref a323)])
        refine go (fun _ => XS.dup X323.here hx rfl (hb hby at_29) rfl rfl) ?_
        refine go (fun _ => XS.aload X323.here hx rfl (hb hby at_30) rfl rfl) ?_
        refine go (fun _ => XS.aload X323.here hx rfl (hb hby at_32) rfl rfl) ?_
        refine go (fun _ => XS.aload X323.here hx rfl (hb hby at_34) rfl rfl) ?_
        show Ends p e below _ T323 (mkF m 36 #[iv i0, iv i1, iv i2, iv i3, .val .null, .val .null, .val .null, .unset, .unset] [.null, .null, .null, (.ref a323), (.ref a323)])
        have F326 := (D323 (Or.inr (hwi hw 19 rfl)) (ty := (.object "java/lang/String")) (by decide))
        have F327 := (D323 (Or.inr (hwi hw 21 rfl)) (ty := (.object "java/lang/String")) (by decide))
        have F328 := (D323 (Or.inr (hwi hw 23 rfl)) (ty := (.object "java/lang/String")) (by decide))
        refine cInit X323 hx hZ hown (by rw [hml]; rfl) e323 (hwi hw 7 rfl) (hwi hw 8 rfl) (hwi hw 6 rfl) (hwi hw 9 rfl) a323 [.null, .null, .null] [(.ref a323)] rfl (rm_atN hw a323 .null .null _ O325 f323 A323 F326 F327 F328 rfl rfl ) (hb hby at_36) rfl (lenOf pd_25 rfl) rfl (by decide) (by decide) (Nat.le_of_ble_eq_true rfl) (by decide) (by decide) ?_
        rintro v329 T329 h329 L329 X329 e329 ⟨rfl, N329, K329, F329_0, F329_1, F329_2⟩
        have N329a := Fr.app N320a N329
        have sf330 : ∀ x ∈ [a323], Safe Z own_EL T320.vm h323 x := (sfS SF323 sf0)
        have C330 : CHr Z own_EL T320.vm h323 T320.vm h329 := CHr.keep K329 sf330 H324.1
        have hk := Nat.le_trans hk C330.2.1
        have H330 := H324.trans C330
        have O331 : Ext Z.heap h329 := xk O325 K329 (allS f323 all0)
        show Ends p e below _ T329 (mkF m 39 #[iv i0, iv i1, iv i2, iv i3, .val .null, .val .null, .val .null, .unset, .unset] [(.ref a323)])
        refine go (fun _ => XS.astore X329.here hx rfl (hb hby at_39) rfl rfl (l' := #[iv i0, iv i1, iv i2, iv i3, .val .null, .val .null, .val .null, rv a323, .unset]) rfl) ?_
        refine go (fun _ => XS.iloadN X329.here hx rfl (hb hby at_41) rfl) ?_
        refine go (fun _ => XT.iconstV X329.here hx rfl (1 : Int32) (hb hby at_42) (by decide)) ?_
        refine go (fun _ => XS.iand X329.here hx rfl (hb hby at_43) rfl) ?_
        show Ends p e below _ T329 (mkF m 44 #[iv i0, iv i1, iv i2, iv i3, .val .null, .val .null, .val .null, rv a323, .unset] [(.int (i0 &&& (1 : Int32)))])
        refine go (fun _ => XS.ifNo X329.here hx rfl (hb hby at_44) rfl (XT.i0_ne_f c314)) ?_
        show Ends p e below _ T329 (mkF m 47 #[iv i0, iv i1, iv i2, iv i3, .val .null, .val .null, .val .null, rv a323, .unset] [])
        refine go (fun _ => XS.iloadN X329.here hx rfl (hb hby at_47) rfl) ?_
        refine go (fun _ => XT.bipushV X329.here hx rfl (8 : Int32) (hb hby at_48) (by decide)) ?_
        refine go (fun _ => XS.iand X329.here hx rfl (hb hby at_50) rfl) ?_
        show Ends p e below _ T329 (mkF m 51 #[iv i0, iv i1, iv i2, iv i3, .val .null, .val .null, .val .null, rv a323, .unset] [(.int (i0 &&& (8 : Int32)))])
        refine go (fun _ => XS.ifNo X329.here hx rfl (hb hby at_51) rfl (XT.i0_ne_f cb317)) ?_
        show Ends p e below _ T329 (mkF m 54 #[iv i0, iv i1, iv i2, iv i3, .val .null, .val .null, .val .null, rv a323, .unset] [])
        refine go (fun _ => XS.iloadN X329.here hx rfl (hb hby at_54) rfl) ?_
        refine go (fun _ => XT.bipushV X329.here hx rfl (64 : Int32) (hb hby at_55) (by decide)) ?_
        refine go (fun _ => XS.iand X329.here hx rfl (hb hby at_57) rfl) ?_
        show Ends p e below _ T329 (mkF m 58 #[iv i0, iv i1, iv i2, iv i3, .val .null, .val .null, .val .null, rv a323, .unset] [(.int (i0 &&& (64 : Int32)))])
        refine go (fun _ => XS.ifNo X329.here hx rfl (hb hby at_58) rfl (XT.i0_ne_f cb320)) ?_
        show Ends p e below _ T329 (mkF m 61 #[iv i0, iv i1, iv i2, iv i3, .val .null, .val .null, .val .null, rv a323, .unset] [])
        refine go (fun _ => XT.iconstV X329.here hx rfl (1 : Int32) (hb hby at_61) (by decide)) ?_
        refine go (fun _ => XS.goto X329.here hx rfl (pc0 := 62) (pc' := 66) rfl (hb hby at_62) (by decide) (by decide)) ?_
        refine go (fun _ => XS.istore X329.here hx rfl (hb hby at_66) rfl (l' := #[iv i0, iv i1, iv i2, iv i3, .val .null, .val .null, .val .null, rv a323, iv (1 : Int32)]) rfl) ?_
        refine go (fun _ => XS.aload X329.here hx rfl (hb hby at_68) rfl rfl) ?_
        show Ends p e below _ T329 (mkF m 70 #[iv i0, iv i1, iv i2, iv i3, .val .null, .val .null, .val .null, rv a323, iv (1 : Int32)] [(.ref a323)])
        have F333 := (Exa.keep A323 K329)
        refine cVirt X329 hx hZ hown (by rw [hml]; rfl) e329 (hwi hw 24 rfl) (hwi hw 25 rfl) (hwi hw 27 rfl) (hwi hw 26 rfl) (hwi hw 6 rfl) (hwi hw 28 rfl) (notFace_of_selects (args := #[]) (mvT hZ (hwi hw 27 rfl))) a323 F333 [] [] rfl (rm_ie0 hw a323  _ F329_0 F329_1 F329_2) (hb hby at_70) rfl (lenOf pd_16 rfl) (by decide) (by decide) (Nat.le_of_ble_eq_true rfl) (by decide) (by decide) ?_
        rintro v332 T332 h332 L332 X332 e332 ⟨rfl, N332, rfl⟩
        have N332a := Fr.app N329a N332
        show Ends p e below _ T332 (mkF m 73 #[iv i0, iv i1, iv i2, iv i3, .val .null, .val .null, .val .null, rv a323, iv (1 : Int32)] [(.int (1 : Int32))])
        refine go (fun _ => XS.iload X332.here hx rfl (hb hby at_73) rfl) ?_
        show Ends p e below _ T332 (mkF m 75 #[iv i0, iv i1, iv i2, iv i3, .val .null, .val .null, .val .null, rv a323, iv (1 : Int32)] [(.int (1 : Int32)), (.int (1 : Int32))])
        refine go (fun _ => XS.icmpNo X332.here hx rfl (hb hby at_75) rfl (XT.ii_ne_f ((by decide) : (1 : Int32) = (1 : Int32)))) ?_
        show Ends p e below _ T332 (mkF m 78 #[iv i0, iv i1, iv i2, iv i3, .val .null, .val .null, .val .null, rv a323, iv (1 : Int32)] [])
        refine go (fun _ => XT.iconstV X332.here hx rfl (1 : Int32) (hb hby at_78) (by decide)) ?_
        refine go (fun _ => XS.goto X332.here hx rfl (pc0 := 79) (pc' := 83) rfl (hb hby at_79) (by decide) (by decide)) ?_
        show Ends p e below _ T332 (mkF m 83 #[iv i0, iv i1, iv i2, iv i3, .val .null, .val .null, .val .null, rv a323, iv (1 : Int32)] [(.int (1 : Int32))])
        exact endN X332 hx hret (by simp) (hb hby at_83) (lvW X332 hlk hZ (own_EW hw) hs0 hS hk H330 e332 (fun h => by rw [hret] at h; cases h) ⟨rfl, N332a⟩ (by decide) (by decide))
      · have N320a := Fr.app N317a N320
        have f334 : Z.heap.size ≤ a320 := Nat.le_trans (O319).1 g320
        have H335 := H318.trans C320w
        have O336 : Ext Z.heap h320 := xk O319 K320 all0
        have cb320 : ¬ (i0 &&& (64 : Int32)) = (0 : Int32) := fun q => c320 ((own_bit i0).2.mpr q)
        show Ends p e below _ T320 (mkF m 24 #[iv i0, iv i1, iv i2, iv i3, .val .null, .val .null, .unset, .unset, .unset] [(.ref a320)])
        refine go (fun _ => XS.astore X320.here hx rfl (hb hby at_24) rfl rfl (l' := #[iv i0, iv i1, iv i2, iv i3, .val .null, .val .null, rv a320, .unset, .unset]) rfl) ?_
        show Ends p e below _ T320 (mkF m 26 #[iv i0, iv i1, iv i2, iv i3, .val .null, .val .null, rv a320, .unset, .unset] [])
        obtain ⟨T337, h337, X337, e337, E337, A337, D337, U337, s337⟩ := newO X320 hx hZ hown (hwi hw 4 rfl) (hwi hw 5 rfl) (hwi hw 6 rfl) e320 (g := (mkF m 26 #[iv i0, iv i1, iv i2, iv i3, .val .null, .val .null, rv a320, .unset, .unset] [])) rfl (hb hby at_26) (by decide) (by decide)
        obtain ⟨a337, g337⟩ : ∃ z : Addr, z = h320.size := ⟨_, rfl⟩
        have n338 : a320 ≠ a337 := fun q => absurd (E320.lt) (by rw [q, g337]; exact Nat.lt_irrefl _)
        have n339 : b320 ≠ a337 := fun q => absurd (V320.lt) (by rw [q, g337]; exact Nat.lt_irrefl _)
        have f337 : Z.heap.size ≤ a337 := by rw [g337]; exact (O336).1
        rw [← g337] at A337 D337 U337 s337
        have C340 : CHr Z own_EL T320.vm h320 T320.vm h337 := CHr.ext E337 H335.1
        have hk := Nat.le_trans hk C340.2.1
        have H340 := H335.trans C340
        have O341 : Ext Z.heap h337 := xx O336 E337
        have SF337 : Safe Z own_EL T320.vm h337 a337 := Safe.ext E337 H335.1 (Safe.new (by rw [g337]; exact Nat.le_refl _))
        refine go s337 ?_
        show Ends p e below _ T337 (mkF m 29 #[iv i0, iv i1, iv i2, iv i3, .val .null, .val .null, rv a320, .unset, .unset] [(.ref a337)])
        refine go (fun _ => XS.dup X337.here hx rfl (hb hby at_29) rfl rfl) ?_
        refine go (fun _ => XS.aload X337.here hx rfl (hb hby at_30) rfl rfl) ?_
        refine go (fun _ => XS.aload X337.here hx rfl (hb hby at_32) rfl rfl) ?_
        refine go (fun _ => XS.aload X337.here hx rfl (hb hby at_34) rfl rfl) ?_
        show Ends p e below _ T337 (mkF m 36 #[iv i0, iv i1, iv i2, iv i3, .val .null, .val .null, rv a320, .unset, .unset] [(.ref a320), .null, .null, (.ref a337), (.ref a337)])
        have F342 := (D337 (Or.inr (hwi hw 19 rfl)) (ty := (.object "java/lang/String")) (by decide))
        have F343 := (D337 (Or.inr (hwi hw 21 rfl)) (ty := (.object "java/lang/String")) (by decide))
        have F344 := (D337 (Or.inr (hwi hw 23 rfl)) (ty := (.object "java/lang/String")) (by decide))
        refine cInit X337 hx hZ hown (by rw [hml]; rfl) e337 (hwi hw 7 rfl) (hwi hw 8 rfl) (hwi hw 6 rfl) (hwi hw 9 rfl) a337 [.null, .null, (.ref a320)] [(.ref a337)] rfl (rm_atN hw a337 .null (.ref a320) _ O341 f337 A337 F342 F343 F344 rfl rfl ) (hb hby at_36) rfl (lenOf pd_25 rfl) rfl (by decide) (by decide) (Nat.le_of_ble_eq_true rfl) (by decide) (by decide) ?_
        rintro v345 T345 h345 L345 X345 e345 ⟨rfl, N345, K345, F345_0, F345_1, F345_2⟩
        have N345a := Fr.app N320a N345
        have sf346 : ∀ x ∈ [a337], Safe Z own_EL T320.vm h337 x := (sfS SF337 sf0)
        have C346 : CHr Z own_EL T320.vm h337 T320.vm h345 := CHr.keep K345 sf346 H340.1
        have hk := Nat.le_trans hk C346.2.1
        have H346 := H340.trans C346
        have O347 : Ext Z.heap h345 := xk O341 K345 (allS f337 all0)
        show Ends p e below _ T345 (mkF m 39 #[iv i0, iv i1, iv i2, iv i3, .val .null, .val .null, rv a320, .unset, .unset] [(.ref a337)])
        refine go (fun _ => XS.astore X345.here hx rfl (hb hby at_39) rfl rfl (l' := #[iv i0, iv i1, iv i2, iv i3, .val .null, .val .null, rv a320, rv a337, .unset]) rfl) ?_
        refine go (fun _ => XS.iloadN X345.here hx rfl (hb hby at_41) rfl) ?_
        refine go (fun _ => XT.iconstV X345.here hx rfl (1 : Int32) (hb hby at_42) (by decide)) ?_
        refine go (fun _ => XS.iand X345.here hx rfl (hb hby at_43) rfl) ?_
        show Ends p e below _ T345 (mkF m 44 #[iv i0, iv i1, iv i2, iv i3, .val .null, .val .null, rv a320, rv a337, .unset] [(.int (i0 &&& (1 : Int32)))])
        refine go (fun _ => XS.ifNo X345.here hx rfl (hb hby at_44) rfl (XT.i0_ne_f c314)) ?_
        show Ends p e below _ T345 (mkF m 47 #[iv i0, iv i1, iv i2, iv i3, .val .null, .val .null, rv a320, rv a337, .unset] [])
        refine go (fun _ => XS.iloadN X345.here hx rfl (hb hby at_47) rfl) ?_
        refine go (fun _ => XT.bipushV X345.here hx rfl (8 : Int32) (hb hby at_48) (by decide)) ?_
        refine go (fun _ => XS.iand X345.here hx rfl (hb hby at_50) rfl) ?_
        show Ends p e below _ T345 (mkF m 51 #[iv i0, iv i1, iv i2, iv i3, .val .null, .val .null, rv a320, rv a337, .unset] [(.int (i0 &&& (8 : Int32)))])
        refine go (fun _ => XS.ifNo X345.here hx rfl (hb hby at_51) rfl (XT.i0_ne_f cb317)) ?_
        show Ends p e below _ T345 (mkF m 54 #[iv i0, iv i1, iv i2, iv i3, .val .null, .val .null, rv a320, rv a337, .unset] [])
        refine go (fun _ => XS.iloadN X345.here hx rfl (hb hby at_54) rfl) ?_
        refine go (fun _ => XT.bipushV X345.here hx rfl (64 : Int32) (hb hby at_55) (by decide)) ?_
        refine go (fun _ => XS.iand X345.here hx rfl (hb hby at_57) rfl) ?_
        show Ends p e below _ T345 (mkF m 58 #[iv i0, iv i1, iv i2, iv i3, .val .null, .val .null, rv a320, rv a337, .unset] [(.int (i0 &&& (64 : Int32)))])
        refine go (fun _ => XS.ifYes X345.here hx rfl (pc0 := 58) (pc' := 65) rfl (hb hby at_58) rfl (XT.i0_ne_t cb320) (by decide) (by decide)) ?_
        show Ends p e below _ T345 (mkF m 65 #[iv i0, iv i1, iv i2, iv i3, .val .null, .val .null, rv a320, rv a337, .unset] [])
        refine go (fun _ => XT.iconstV X345.here hx rfl (0 : Int32) (hb hby at_65) (by decide)) ?_
        refine go (fun _ => XS.istore X345.here hx rfl (hb hby at_66) rfl (l' := #[iv i0, iv i1, iv i2, iv i3, .val .null, .val .null, rv a320, rv a337, iv (0 : Int32)]) rfl) ?_
        refine go (fun _ => XS.aload X345.here hx rfl (hb hby at_68) rfl rfl) ?_
        show Ends p e below _ T345 (mkF m 70 #[iv i0, iv i1, iv i2, iv i3, .val .null, .val .null, rv a320, rv a337, iv (0 : Int32)] [(.ref a337)])
        have F349 := (Exa.keep A337 K345)
        refine cVirt X345 hx hZ hown (by rw [hml]; rfl) e345 (hwi hw 24 rfl) (hwi hw 25 rfl) (hwi hw 27 rfl) (hwi hw 26 rfl) (hwi hw 6 rfl) (hwi hw 28 rfl) (notFace_of_selects (args := #[]) (mvT hZ (hwi hw 27 rfl))) a337 F349 [] [] rfl (rm_ie4 hw a337 a320 _ F345_0 F345_1 F345_2) (hb hby at_70) rfl (lenOf pd_16 rfl) (by decide) (by decide) (Nat.le_of_ble_eq_true rfl) (by decide) (by decide) ?_
        rintro v348 T348 h348 L348 X348 e348 ⟨rfl, N348, rfl⟩
        have N348a := Fr.app N345a N348
        show Ends p e below _ T348 (mkF m 73 #[iv i0, iv i1, iv i2, iv i3, .val .null, .val .null, rv a320, rv a337, iv (0 : Int32)] [(.int (0 : Int32))])
        refine go (fun _ => XS.iload X348.here hx rfl (hb hby at_73) rfl) ?_
        show Ends p e below _ T348 (mkF m 75 #[iv i0, iv i1, iv i2, iv i3, .val .null, .val .null, rv a320, rv a337, iv (0 : Int32)] [(.int (0 : Int32)), (.int (0 : Int32))])
        refine go (fun _ => XS.icmpNo X348.here hx rfl (hb hby at_75) rfl (XT.ii_ne_f ((by decide) : (0 : Int32) = (0 : Int32)))) ?_
        show Ends p e below _ T348 (mkF m 78 #[iv i0, iv i1, iv i2, iv i3, .val .null, .val .null, rv a320, rv a337, iv (0 : Int32)] [])
        refine go (fun _ => XT.iconstV X348.here hx rfl (1 : Int32) (hb hby at_78) (by decide)) ?_
        refine go (fun _ => XS.goto X348.here hx rfl (pc0 := 79) (pc' := 83) rfl (hb hby at_79) (by decide) (by decide)) ?_
        show Ends p e below _ T348 (mkF m 83 #[iv i0, iv i1, iv i2, iv i3, .val .null, .val .null, rv a320, rv a337, iv (0 : Int32)] [(.int (1 : Int32))])
        exact endN X348 hx hret (by simp) (hb hby at_83) (lvW X348 hlk hZ (own_EW hw) hs0 hS hk H346 e348 (fun h => by rw [hret] at h; cases h) ⟨rfl, N348a⟩ (by decide) (by decide))
    · have N317a := Fr.app N314a N317
      have f350 : Z.heap.size ≤ a317 := Nat.le_trans (O316).1 g317
      have H351 := H315.trans C317w
      have O352 : Ext Z.heap h317 := xk O316 K317 all0
      have cb317 : ¬ (i0 &&& (8 : Int32)) = (0 : Int32) := fun q => c317 ((own_bit i0).1.mpr q)
      show Ends p e below _ T317 (mkF m 14 #[iv i0, iv i1, iv i2, iv i3, .val .null, .unset, .unset, .unset, .unset] [(.ref a317)])
      refine go (fun _ => XS.astore X317.here hx rfl (hb hby at_14) rfl rfl (l' := #[iv i0, iv i1, iv i2, iv i3, .val .null, rv a317, .unset, .unset, .unset]) rfl) ?_
      refine go (fun _ => XS.iloadN X317.here hx rfl (hb hby at_16) rfl) ?_
      refine go (fun _ => XT.bipushV X317.here hx rfl (6 : Int32) (hb hby at_17) (by decide)) ?_
      refine go (fun _ => XT.iushr X317.here hx rfl (hb hby at_19) rfl) ?_
      refine go (fun _ => XS.iloadN X317.here hx rfl (hb hby at_20) rfl) ?_
      show Ends p e below _ T317 (mkF m 21 #[iv i0, iv i1, iv i2, iv i3, .val .null, rv a317, .unset, .unset, .unset] [(.int i3), (.int (XT.ushr i0 (6 : Int32)))])
      refine cStatW X317 hx hZ hown (by rw [hml]; rfl) e317 (own_EW hw) hS hk H351.1 (hwi hw 0 rfl) (hwi hw 1 rfl) (hwi hw 2 rfl) (hwi hw 3 rfl) [(.int (XT.ushr i0 (6 : Int32))), (.int i3)] [] rfl (rm_make hw (XT.ushr i0 (6 : Int32)) i3 _ O352 cz SCS hcz) (hb hby at_21) rfl (lenOf pd_24 rfl) (by decide) (by decide) (Nat.le_of_ble_eq_true rfl) (by decide) (by decide) ?_
      rintro v353 T353 h353 L353 k353w X353 e353 hS hk hZ hown C353w (⟨rfl, N353, K353, c353⟩ | ⟨a353, b353, k353, lz353, vs353, rfl, N353, K353, g353, c353, E353, Fv353, Fc353, V353, u0353, u4353⟩)
      · have N353a := Fr.app N317a N353
        have H354 := H351.trans C353w
        have O355 : Ext Z.heap h353 := xk O352 K353 all0
        have cb353 : (i0 &&& (64 : Int32)) = (0 : Int32) := (own_bit i0).2.mp c353
        show Ends p e below _ T353 (mkF m 24 #[iv i0, iv i1, iv i2, iv i3, .val .null, rv a317, .unset, .unset, .unset] [.null])
        refine go (fun _ => XS.astore X353.here hx rfl (hb hby at_24) rfl rfl (l' := #[iv i0, iv i1, iv i2, iv i3, .val .null, rv a317, .val .null, .unset, .unset]) rfl) ?_
        show Ends p e below _ T353 (mkF m 26 #[iv i0, iv i1, iv i2, iv i3, .val .null, rv a317, .val .null, .unset, .unset] [])
        obtain ⟨T356, h356, X356, e356, E356, A356, D356, U356, s356⟩ := newO X353 hx hZ hown (hwi hw 4 rfl) (hwi hw 5 rfl) (hwi hw 6 rfl) e353 (g := (mkF m 26 #[iv i0, iv i1, iv i2, iv i3, .val .null, rv a317, .val .null, .unset, .unset] [])) rfl (hb hby at_26) (by decide) (by decide)
        have F357 := (Exa.keep E317 K353)
        have F358 := (Arv.keep V317 K353 nin0)
        obtain ⟨a356, g356⟩ : ∃ z : Addr, z = h353.size := ⟨_, rfl⟩
        have n359 : a317 ≠ a356 := fun q => absurd (F357.lt) (by rw [q, g356]; exact Nat.lt_irrefl _)
        have n360 : b317 ≠ a356 := fun q => absurd (F358.lt) (by rw [q, g356]; exact Nat.lt_irrefl _)
        have f356 : Z.heap.size ≤ a356 := by rw [g356]; exact (O355).1
        rw [← g356] at A356 D356 U356 s356
        have C361 : CHr Z own_EL T353.vm h353 T353.vm h356 := CHr.ext E356 H354.1
        have hk := Nat.le_trans hk C361.2.1
        have H361 := H354.trans C361
        have O362 : Ext Z.heap h356 := xx O355 E356
        have SF356 : Safe Z own_EL T353.vm h356 a356 := Safe.ext E356 H354.1 (Safe.new (by rw [g356]; exact Nat.le_refl _))
        refine go s356 ?_
        show Ends p e below _ T356 (mkF m 29 #[iv i0, iv i1, iv i2, iv i3, .val .null, rv a317, .val .null, .unset, .unset] [(.ref a356)])
        refine go (fun _ => XS.dup X356.here hx rfl (hb hby at_29) rfl rfl) ?_
        refine go (fun _ => XS.aload X356.here hx rfl (hb hby at_30) rfl rfl) ?_
        refine go (fun _ => XS.aload X356.here hx rfl (hb hby at_32) rfl rfl) ?_
        refine go (fun _ => XS.aload X356.here hx rfl (hb hby at_34) rfl rfl) ?_
        show Ends p e below _ T356 (mkF m 36 #[iv i0, iv i1, iv i2, iv i3, .val .null, rv a317, .val .null, .unset, .unset] [.null, (.ref a317), .null, (.ref a356), (.ref a356)])
        have F363 := (D356 (Or.inr (hwi hw 19 rfl)) (ty := (.object "java/lang/String")) (by decide))
        have F364 := (D356 (Or.inr (hwi hw 21 rfl)) (ty := (.object "java/lang/String")) (by decide))
        have F365 := (D356 (Or.inr (hwi hw 23 rfl)) (ty := (.object "java/lang/String")) (by decide))
        refine cInit X356 hx hZ hown (by rw [hml]; rfl) e356 (hwi hw 7 rfl) (hwi hw 8 rfl) (hwi hw 6 rfl) (hwi hw 9 rfl) a356 [.null, (.ref a317), .null] [(.ref a356)] rfl (rm_atN hw a356 (.ref a317) .null _ O362 f356 A356 F363 F364 F365 rfl rfl ) (hb hby at_36) rfl (lenOf pd_25 rfl) rfl (by decide) (by decide) (Nat.le_of_ble_eq_true rfl) (by decide) (by decide) ?_
        rintro v366 T366 h366 L366 X366 e366 ⟨rfl, N366, K366, F366_0, F366_1, F366_2⟩
        have N366a := Fr.app N353a N366
        have sf367 : ∀ x ∈ [a356], Safe Z own_EL T353.vm h356 x := (sfS SF356 sf0)
        have C367 : CHr Z own_EL T353.vm h356 T353.vm h366 := CHr.keep K366 sf367 H361.1
        have hk := Nat.le_trans hk C367.2.1
        have H367 := H361.trans C367
        have O368 : Ext Z.heap h366 := xk O362 K366 (allS f356 all0)
        show Ends p e below _ T366 (mkF m 39 #[iv i0, iv i1, iv i2, iv i3, .val .null, rv a317, .val .null, .unset, .unset] [(.ref a356)])
        refine go (fun _ => XS.astore X366.here hx rfl (hb hby at_39) rfl rfl (l' := #[iv i0, iv i1, iv i2, iv i3, .val .null, rv a317, .val .null, rv a356, .unset]) rfl) ?_
        refine go (fun _ => XS.iloadN X366.here hx rfl (hb hby at_41) rfl) ?_
        refine go (fun _ => XT.iconstV X366.here hx rfl (1 : Int32) (hb hby at_42) (by decide)) ?_
        refine go (fun _ => XS.iand X366.here hx rfl (hb hby at_43) rfl) ?_
        show Ends p e below _ T366 (mkF m 44 #[iv i0, iv i1, iv i2, iv i3, .val .null, rv a317, .val .null, rv a356, .unset] [(.int (i0 &&& (1 : Int32)))])
        refine go (fun _ => XS.ifNo X366.here hx rfl (hb hby at_44) rfl (XT.i0_ne_f c314)) ?_
        show Ends p e below _ T366 (mkF m 47 #[iv i0, iv i1, iv i2, iv i3, .val .null, rv a317, .val .null, rv a356, .unset] [])
        refine go (fun _ => XS.iloadN X366.here hx rfl (hb hby at_47) rfl) ?_
        refine go (fun _ => XT.bipushV X366.here hx rfl (8 : Int32) (hb hby at_48) (by decide)) ?_
        refine go (fun _ => XS.iand X366.here hx rfl (hb hby at_50) rfl) ?_
        show Ends p e below _ T366 (mkF m 51 #[iv i0, iv i1, iv i2, iv i3, .val .null, rv a317, .val .null, rv a356, .unset] [(.int (i0 &&& (8 : Int32)))])
        refine go (fun _ => XS.ifYes X366.here hx rfl (pc0 := 51) (pc' := 65) rfl (hb hby at_51) rfl (XT.i0_ne_t cb317) (by decide) (by decide)) ?_
        show Ends p e below _ T366 (mkF m 65 #[iv i0, iv i1, iv i2, iv i3, .val .null, rv a317, .val .null, rv a356, .unset] [])
        refine go (fun _ => XT.iconstV X366.here hx rfl (0 : Int32) (hb hby at_65) (by decide)) ?_
        refine go (fun _ => XS.istore X366.here hx rfl (hb hby at_66) rfl (l' := #[iv i0, iv i1, iv i2, iv i3, .val .null, rv a317, .val .null, rv a356, iv (0 : Int32)]) rfl) ?_
        refine go (fun _ => XS.aload X366.here hx rfl (hb hby at_68) rfl rfl) ?_
        show Ends p e below _ T366 (mkF m 70 #[iv i0, iv i1, iv i2, iv i3, .val .null, rv a317, .val .null, rv a356, iv (0 : Int32)] [(.ref a356)])
        have F370 := (Exa.keep A356 K366)
        refine cVirt X366 hx hZ hown (by rw [hml]; rfl) e366 (hwi hw 24 rfl) (hwi hw 25 rfl) (hwi hw 27 rfl) (hwi hw 26 rfl) (hwi hw 6 rfl) (hwi hw 28 rfl) (notFace_of_selects (args := #[]) (mvT hZ (hwi hw 27 rfl))) a356 F370 [] [] rfl (rm_ie2 hw a356 a317 _ F366_0 F366_1 F366_2) (hb hby at_70) rfl (lenOf pd_16 rfl) (by decide) (by decide) (Nat.le_of_ble_eq_true rfl) (by decide) (by decide) ?_
        rintro v369 T369 h369 L369 X369 e369 ⟨rfl, N369, rfl⟩
        have N369a := Fr.app N366a N369
        show Ends p e below _ T369 (mkF m 73 #[iv i0, iv i1, iv i2, iv i3, .val .null, rv a317, .val .null, rv a356, iv (0 : Int32)] [(.int (0 : Int32))])
        refine go (fun _ => XS.iload X369.here hx rfl (hb hby at_73) rfl) ?_
        show Ends p e below _ T369 (mkF m 75 #[iv i0, iv i1, iv i2, iv i3, .val .null, rv a317, .val .null, rv a356, iv (0 : Int32)] [(.int (0 : Int32)), (.int (0 : Int32))])
        refine go (fun _ => XS.icmpNo X369.here hx rfl (hb hby at_75) rfl (XT.ii_ne_f ((by decide) : (0 : Int32) = (0 : Int32)))) ?_
        show Ends p e below _ T369 (mkF m 78 #[iv i0, iv i1, iv i2, iv i3, .val .null, rv a317, .val .null, rv a356, iv (0 : Int32)] [])
        refine go (fun _ => XT.iconstV X369.here hx rfl (1 : Int32) (hb hby at_78) (by decide)) ?_
        refine go (fun _ => XS.goto X369.here hx rfl (pc0 := 79) (pc' := 83) rfl (hb hby at_79) (by decide) (by decide)) ?_
        show Ends p e below _ T369 (mkF m 83 #[iv i0, iv i1, iv i2, iv i3, .val .null, rv a317, .val .null, rv a356, iv (0 : Int32)] [(.int (1 : Int32))])
        exact endN X369 hx hret (by simp) (hb hby at_83) (lvW X369 hlk hZ (own_EW hw) hs0 hS hk H367 e369 (fun h => by rw [hret] at h; cases h) ⟨rfl, N369a⟩ (by decide) (by decide))
      · have N353a := Fr.app N317a N353
        have n371 : a317 ≠ a353 := Nat.ne_of_lt (Nat.lt_of_lt_of_le (E317.lt) g353)
        have n372 : b317 ≠ a353 := Nat.ne_of_lt (Nat.lt_of_lt_of_le (V317.lt) g353)
        have f373 : Z.heap.size ≤ a353 := Nat.le_trans (O352).1 g353
        have H374 := H351.trans C353w
        have O375 : Ext Z.heap h353 := xk O352 K353 all0
        have cb353 : ¬ (i0 &&& (64 : Int32)) = (0 : Int32) := fun q => c353 ((own_bit i0).2.mpr q)
        show Ends p e below _ T353 (mkF m 24 #[iv i0, iv i1, iv i2, iv i3, .val .null, rv a317, .unset, .unset, .unset] [(.ref a353)])
        refine go (fun _ => XS.astore X353.here hx rfl (hb hby at_24) rfl rfl (l' := #[iv i0, iv i1, iv i2, iv i3, .val .null, rv a317, rv a353, .unset, .unset]) rfl) ?_
        show Ends p e below _ T353 (mkF m 26 #[iv i0, iv i1, iv i2, iv i3, .val .null, rv a317, rv a353, .unset, .unset] [])
        obtain ⟨T376, h376, X376, e376, E376, A376, D376, U376, s376⟩ := newO X353 hx hZ hown (hwi hw 4 rfl) (hwi hw 5 rfl) (hwi hw 6 rfl) e353 (g := (mkF m 26 #[iv i0, iv i1, iv i2, iv i3, .val .null, rv a317, rv a353, .unset, .unset] [])) rfl (hb hby at_26) (by decide) (by decide)
        have F377 := (Exa.keep E317 K353)
        have F378 := (Arv.keep V317 K353 nin0)
        obtain ⟨a376, g376⟩ : ∃ z : Addr, z = h353.size := ⟨_, rfl⟩
        have n379 : a317 ≠ a376 := fun q => absurd (F377.lt) (by rw [q, g376]; exact Nat.lt_irrefl _)
        have n380 : a353 ≠ a376 := fun q => absurd (E353.lt) (by rw [q, g376]; exact Nat.lt_irrefl _)
        have n381 : b317 ≠ a376 := fun q => absurd (F378.lt) (by rw [q, g376]; exact Nat.lt_irrefl _)
        have n382 : b353 ≠ a376 := fun q => absurd (V353.lt) (by rw [q, g376]; exact Nat.lt_irrefl _)
        have f376 : Z.heap.size ≤ a376 := by rw [g376]; exact (O375).1
        rw [← g376] at A376 D376 U376 s376
        have C383 : CHr Z own_EL T353.vm h353 T353.vm h376 := CHr.ext E376 H374.1
        have hk := Nat.le_trans hk C383.2.1
        have H383 := H374.trans C383
        have O384 : Ext Z.heap h376 := xx O375 E376
        have SF376 : Safe Z own_EL T353.vm h376 a376 := Safe.ext E376 H374.1 (Safe.new (by rw [g376]; exact Nat.le_refl _))
        refine go s376 ?_
        show Ends p e below _ T376 (mkF m 29 #[iv i0, iv i1, iv i2, iv i3, .val .null, rv a317, rv a353, .unset, .unset] [(.ref a376)])
        refine go (fun _ => XS.dup X376.here hx rfl (hb hby at_29) rfl rfl) ?_
        refine go (fun _ => XS.aload X376.here hx rfl (hb hby at_30) rfl rfl) ?_
        refine go (fun _ => XS.aload X376.here hx rfl (hb hby at_32) rfl rfl) ?_
        refine go (fun _ => XS.aload X376.here hx rfl (hb hby at_34) rfl rfl) ?_
        show Ends p e below _ T376 (mkF m 36 #[iv i0, iv i1, iv i2, iv i3, .val .null, rv a317, rv a353, .unset, .unset] [(.ref a353), (.ref a317), .null, (.ref a376), (.ref a376)])
        have F385 := (D376 (Or.inr (hwi hw 19 rfl)) (ty := (.object "java/lang/String")) (by decide))
        have F386 := (D376 (Or.inr (hwi hw 21 rfl)) (ty := (.object "java/lang/String")) (by decide))
        have F387 := (D376 (Or.inr (hwi hw 23 rfl)) (ty := (.object "java/lang/String")) (by decide))
        refine cInit X376 hx hZ hown (by rw [hml]; rfl) e376 (hwi hw 7 rfl) (hwi hw 8 rfl) (hwi hw 6 rfl) (hwi hw 9 rfl) a376 [.null, (.ref a317), (.ref a353)] [(.ref a376)] rfl (rm_atN hw a376 (.ref a317) (.ref a353) _ O384 f376 A376 F385 F386 F387 rfl rfl ) (hb hby at_36) rfl (lenOf pd_25 rfl) rfl (by decide) (by decide) (Nat.le_of_ble_eq_true rfl) (by decide) (by decide) ?_
        rintro v388 T388 h388 L388 X388 e388 ⟨rfl, N388, K388, F388_0, F388_1, F388_2⟩
        have N388a := Fr.app N353a N388
        have sf389 : ∀ x ∈ [a376], Safe Z own_EL T353.vm h376 x := (sfS SF376 sf0)
        have C389 : CHr Z own_EL T353.vm h376 T353.vm h388 := CHr.keep K388 sf389 H383.1
        have hk := Nat.le_trans hk C389.2.1
        have H389 := H383.trans C389
        have O390 : Ext Z.heap h388 := xk O384 K388 (allS f376 all0)
        show Ends p e below _ T388 (mkF m 39 #[iv i0, iv i1, iv i2, iv i3, .val .null, rv a317, rv a353, .unset, .unset] [(.ref a376)])
        refine go (fun _ => XS.astore X388.here hx rfl (hb hby at_39) rfl rfl (l' := #[iv i0, iv i1, iv i2, iv i3, .val .null, rv a317, rv a353, rv a376, .unset]) rfl) ?_
        refine go (fun _ => XS.iloadN X388.here hx rfl (hb hby at_41) rfl) ?_
        refine go (fun _ => XT.iconstV X388.here hx rfl (1 : Int32) (hb hby at_42) (by decide)) ?_
        refine go (fun _ => XS.iand X388.here hx rfl (hb hby at_43) rfl) ?_
        show Ends p e below _ T388 (mkF m 44 #[iv i0, iv i1, iv i2, iv i3, .val .null, rv a317, rv a353, rv a376, .unset] [(.int (i0 &&& (1 : Int32)))])
        refine go (fun _ => XS.ifNo X388.here hx rfl (hb hby at_44) rfl (XT.i0_ne_f c314)) ?_
        show Ends p e below _ T388 (mkF m 47 #[iv i0, iv i1, iv i2, iv i3, .val .null, rv a317, rv a353, rv a376, .unset] [])
        refine go (fun _ => XS.iloadN X388.here hx rfl (hb hby at_47) rfl) ?_
        refine go (fun _ => XT.bipushV X388.here hx rfl (8 : Int32) (hb hby at_48) (by decide)) ?_
        refine go (fun _ => XS.iand X388.here hx rfl (hb hby at_50) rfl) ?_
        show Ends p e below _ T388 (mkF m 51 #[iv i0, iv i1, iv i2, iv i3, .val .null, rv a317, rv a353, rv a376, .unset] [(.int (i0 &&& (8 : Int32)))])
        refine go (fun _ => XS.ifYes X388.here hx rfl (pc0 := 51) (pc' := 65) rfl (hb hby at_51) rfl (XT.i0_ne_t cb317) (by decide) (by decide)) ?_
        show Ends p e below _ T388 (mkF m 65 #[iv i0, iv i1, iv i2, iv i3, .val .null, rv a317, rv a353, rv a376, .unset] [])
        refine go (fun _ => XT.iconstV X388.here hx rfl (0 : Int32) (hb hby at_65) (by decide)) ?_
        refine go (fun _ => XS.istore X388.here hx rfl (hb hby at_66) rfl (l' := #[iv i0, iv i1, iv i2, iv i3, .val .null, rv a317, rv a353, rv a376, iv (0 : Int32)]) rfl) ?_
        refine go (fun _ => XS.aload X388.here hx rfl (hb hby at_68) rfl rfl) ?_
        show Ends p e below _ T388 (mkF m 70 #[iv i0, iv i1, iv i2, iv i3, .val .null, rv a317, rv a353, rv a376, iv (0 : Int32)] [(.ref a376)])
        have F392 := (Exa.keep A376 K388)
        refine cVirt X388 hx hZ hown (by rw [hml]; rfl) e388 (hwi hw 24 rfl) (hwi hw 25 rfl) (hwi hw 27 rfl) (hwi hw 26 rfl) (hwi hw 6 rfl) (hwi hw 28 rfl) (notFace_of_selects (args := #[]) (mvT hZ (hwi hw 27 rfl))) a376 F392 [] [] rfl (rm_ie6 hw a376 a317 a353 _ F388_0 F388_1 F388_2) (hb hby at_70) rfl (lenOf pd_16 rfl) (by decide) (by decide) (Nat.le_of_ble_eq_true rfl) (by decide) (by decide) ?_
        rintro v391 T391 h391 L391 X391 e391 ⟨rfl, N391, rfl⟩
        have N391a := Fr.app N388a N391
        show Ends p e below _ T391 (mkF m 73 #[iv i0, iv i1, iv i2, iv i3, .val .null, rv a317, rv a353, rv a376, iv (0 : Int32)] [(.int (0 : Int32))])
        refine go (fun _ => XS.iload X391.here hx rfl (hb hby at_73) rfl) ?_
        show Ends p e below _ T391 (mkF m 75 #[iv i0, iv i1, iv i2, iv i3, .val .null, rv a317, rv a353, rv a376, iv (0 : Int32)] [(.int (0 : Int32)), (.int (0 : Int32))])
        refine go (fun _ => XS.icmpNo X391.here hx rfl (hb hby at_75) rfl (XT.ii_ne_f ((by decide) : (0 : Int32) = (0 : Int32)))) ?_
        show Ends p e below _ T391 (mkF m 78 #[iv i0, iv i1, iv i2, iv i3, .val .null, rv a317, rv a353, rv a376, iv (0 : Int32)] [])
        refine go (fun _ => XT.iconstV X391.here hx rfl (1 : Int32) (hb hby at_78) (by decide)) ?_
        refine go (fun _ => XS.goto X391.here hx rfl (pc0 := 79) (pc' := 83) rfl (hb hby at_79) (by decide) (by decide)) ?_
        show Ends p e below _ T391 (mkF m 83 #[iv i0, iv i1, iv i2, iv i3, .val .null, rv a317, rv a353, rv a376, iv (0 : Int32)] [(.int (1 : Int32))])
        exact endN X391 hx hret (by simp) (hb hby at_83) (lvW X391 hlk hZ (own_EW hw) hs0 hS hk H389 e391 (fun h => by rw [hret] at h; cases h) ⟨rfl, N391a⟩ (by decide) (by decide))
  · have N314a := Fr.app (Fr.nil _) N314
    have f393 : Z.heap.size ≤ a314 := Nat.le_trans (O0).1 g314
    have H394 := H0.trans C314w
    have O395 : Ext Z.heap h314 := xk O0 K314 all0
    show Ends p e below _ T314 (mkF m 5 #[iv i0, iv i1, iv i2, iv i3, .unset, .unset, .unset, .unset, .unset] [(.ref a314)])
    refine go (fun _ => XS.astore X314.here hx rfl (hb hby at_5) rfl rfl (l' := #[iv i0, iv i1, iv i2, iv i3, rv a314, .unset, .unset, .unset, .unset]) rfl) ?_
    refine go (fun _ => XS.iloadN X314.here hx rfl (hb hby at_7) rfl) ?_
    refine go (fun _ => XT.iconstV X314.here hx rfl (3 : Int32) (hb hby at_8) (by decide)) ?_
    refine go (fun _ => XT.iushr X314.here hx rfl (hb hby at_9) rfl) ?_
    refine go (fun _ => XS.iloadN X314.here hx rfl (hb hby at_10) rfl) ?_
    show Ends p e below _ T314 (mkF m 11 #[iv i0, iv i1, iv i2, iv i3, rv a314, .unset, .unset, .unset, .unset] [(.int i2), (.int (XT.ushr i0 (3 : Int32)))])
    refine cStatW X314 hx hZ hown (by rw [hml]; rfl) e314 (own_EW hw) hS hk H394.1 (hwi hw 0 rfl) (hwi hw 1 rfl) (hwi hw 2 rfl) (hwi hw 3 rfl) [(.int (XT.ushr i0 (3 : Int32))), (.int i2)] [] rfl (rm_make hw (XT.ushr i0 (3 : Int32)) i2 _ O395 cz SCS hcz) (hb hby at_11) rfl (lenOf pd_24 rfl) (by decide) (by decide) (Nat.le_of_ble_eq_true rfl) (by decide) (by decide) ?_
    rintro v396 T396 h396 L396 k396w X396 e396 hS hk hZ hown C396w (⟨rfl, N396, K396, c396⟩ | ⟨a396, b396, k396, lz396, vs396, rfl, N396, K396, g396, c396, E396, Fv396, Fc396, V396, u0396, u4396⟩)
    · have N396a := Fr.app N314a N396
      have H397 := H394.trans C396w
      have O398 : Ext Z.heap h396 := xk O395 K396 all0
      have cb396 : (i0 &&& (8 : Int32)) = (0 : Int32) := (own_bit i0).1.mp c396
      show Ends p e below _ T396 (mkF m 14 #[iv i0, iv i1, iv i2, iv i3, rv a314, .unset, .unset, .unset, .unset] [.null])
      refine go (fun _ => XS.astore X396.here hx rfl (hb hby at_14) rfl rfl (l' := #[iv i0, iv i1, iv i2, iv i3, rv a314, .val .null, .unset, .unset, .unset]) rfl) ?_
      refine go (fun _ => XS.iloadN X396.here hx rfl (hb hby at_16) rfl) ?_
      refine go (fun _ => XT.bipushV X396.here hx rfl (6 : Int32) (hb hby at_17) (by decide)) ?_
      refine go (fun _ => XT.iushr X396.here hx rfl (hb hby at_19) rfl) ?_
      refine go (fun _ => XS.iloadN X396.here hx rfl (hb hby at_20) rfl) ?_
      show Ends p e below _ T396 (mkF m 21 #[iv i0, iv i1, iv i2, iv i3, rv a314, .val .null, .unset, .unset, .unset] [(.int i3), (.int (XT.ushr i0 (6 : Int32)))])
      refine cStatW X396 hx hZ hown (by rw [hml]; rfl) e396 (own_EW hw) hS hk H397.1 (hwi hw 0 rfl) (hwi hw 1 rfl) (hwi hw 2 rfl) (hwi hw 3 rfl) [(.int (XT.ushr i0 (6 : Int32))), (.int i3)] [] rfl (rm_make hw (XT.ushr i0 (6 : Int32)) i3 _ O398 cz SCS hcz) (hb hby at_21) rfl (lenOf pd_24 rfl) (by decide) (by decide) (Nat.le_of_ble_eq_true rfl) (by decide) (by decide) ?_
      rintro v399 T399 h399 L399 k399w X399 e399 hS hk hZ hown C399w (⟨rfl, N399, K399, c399⟩ | ⟨a399, b399, k399, lz399, vs399, rfl, N399, K399, g399, c399, E399, Fv399, Fc399, V399, u0399, u4399⟩)
      · have N399a := Fr.app N396a N399
        have H400 := H397.trans C399w
        have O401 : Ext Z.heap h399 := xk O398 K399 all0
        have cb399 : (i0 &&& (64 : Int32)) = (0 : Int32) := (own_bit i0).2.mp c399
        show Ends p e below _ T399 (mkF m 24 #[iv i0, iv i1, iv i2, iv i3, rv a314, .val .null, .unset, .unset, .unset] [.null])
        refine go (fun _ => XS.astore X399.here hx rfl (hb hby at_24) rfl rfl (l' := #[iv i0, iv i1, iv i2, iv i3, rv a314, .val .null, .val .null, .unset, .unset]) rfl) ?_
        show Ends p e below _ T399 (mkF m 26 #[iv i0, iv i1, iv i2, iv i3, rv a314, .val .null, .val .null, .unset, .unset] [])
        obtain ⟨T402, h402, X402, e402, E402, A402, D402, U402, s402⟩ := newO X399 hx hZ hown (hwi hw 4 rfl) (hwi hw 5 rfl) (hwi hw 6 rfl) e399 (g := (mkF m 26 #[iv i0, iv i1, iv i2, iv i3, rv a314, .val .null, .val .null, .unset, .unset] [])) rfl (hb hby at_26) (by decide) (by decide)
        have F403 := (Exa.keep (Exa.keep E314 K396) K399)
        have F404 := (Arv.keep (Arv.keep V314 K396 nin0) K399 nin0)
        obtain ⟨a402, g402⟩ : ∃ z : Addr, z = h399.size := ⟨_, rfl⟩
        have n405 : a314 ≠ a402 := fun q => absurd (F403.lt) (by rw [q, g402]; exact Nat.lt_irrefl _)
        have n406 : b314 ≠ a402 := fun q => absurd (F404.lt) (by rw [q, g402]; exact Nat.lt_irrefl _)
        have f402 : Z.heap.size ≤ a402 := by rw [g402]; exact (O401).1
        rw [← g402] at A402 D402 U402 s402
        have C407 : CHr Z own_EL T399.vm h399 T399.vm h402 := CHr.ext E402 H400.1
        have hk := Nat.le_trans hk C407.2.1
        have H407 := H400.trans C407
        have O408 : Ext Z.heap h402 := xx O401 E402
        have SF402 : Safe Z own_EL T399.vm h402 a402 := Safe.ext E402 H400.1 (Safe.new (by rw [g402]; exact Nat.le_refl _))
        refine go s402 ?_
        show Ends p e below _ T402 (mkF m 29 #[iv i0, iv i1, iv i2, iv i3, rv a314, .val .null, .val .null, .unset, .unset] [(.ref a402)])
        refine go (fun _ => XS.dup X402.here hx rfl (hb hby at_29) rfl rfl) ?_
        refine go (fun _ => XS.aload X402.here hx rfl (hb hby at_30) rfl rfl) ?_
        refine go (fun _ => XS.aload X402.here hx rfl (hb hby at_32) rfl rfl) ?_
        refine go (fun _ => XS.aload X402.here hx rfl (hb hby at_34) rfl rfl) ?_
        show Ends p e below _ T402 (mkF m 36 #[iv i0, iv i1, iv i2, iv i3, rv a314, .val .null, .val .null, .unset, .unset] [.null, .null, (.ref a314), (.ref a402), (.ref a402)])
        have F409 := (D402 (Or.inr (hwi hw 19 rfl)) (ty := (.object "java/lang/String")) (by decide))
        have F410 := (D402 (Or.inr (hwi hw 21 rfl)) (ty := (.object "java/lang/String")) (by decide))
        have F411 := (D402 (Or.inr (hwi hw 23 rfl)) (ty := (.object "java/lang/String")) (by decide))
        have F412 := (Exa.ext E402 F403)
        have F413 := (Fld.ext E402 (Fld.keep (Fld.keep Fc314 K396 nin0) K399 nin0))
        have F414 := (Fld.ext E402 (Fld.keep (Fld.keep Fv314 K396 nin0) K399 nin0))
        have F415 := (Arv.ext F404 E402)
        refine cInit X402 hx hZ hown (by rw [hml]; rfl) e402 (hwi hw 7 rfl) (hwi hw 8 rfl) (hwi hw 6 rfl) (hwi hw 9 rfl) a402 [(.ref a314), .null, .null] [(.ref a402)] rfl (rm_atS hw a402 a314 .null .null b314 k314 lz314 _ _ O408 f402 A402 F409 F410 F411 rfl rfl F412 F413 F414 F415 (Ne.symm n405) (Ne.symm n406) cz SCS hcz u0314 u4314) (hb hby at_36) rfl (lenOf pd_25 rfl) rfl (by decide) (by decide) (Nat.le_of_ble_eq_true rfl) (by decide) (by decide) ?_
        rintro v416 T416 h416 L416 X416 e416 ⟨rfl, N416, K416, F416_0, F416_1, F416_2⟩
        have N416a := Fr.app N399a N416
        have sf417 : ∀ x ∈ [a402], Safe Z own_EL T399.vm h402 x := (sfS SF402 sf0)
        have C417 : CHr Z own_EL T399.vm h402 T399.vm h416 := CHr.keep K416 sf417 H407.1
        have hk := Nat.le_trans hk C417.2.1
        have H417 := H407.trans C417
        have O418 : Ext Z.heap h416 := xk O408 K416 (allS f402 all0)
        show Ends p e below _ T416 (mkF m 39 #[iv i0, iv i1, iv i2, iv i3, rv a314, .val .null, .val .null, .unset, .unset] [(.ref a402)])
        refine go (fun _ => XS.astore X416.here hx rfl (hb hby at_39) rfl rfl (l' := #[iv i0, iv i1, iv i2, iv i3, rv a314, .val .null, .val .null, rv a402, .unset]) rfl) ?_
        refine go (fun _ => XS.iloadN X416.here hx rfl (hb hby at_41) rfl) ?_
        refine go (fun _ => XT.iconstV X416.here hx rfl (1 : Int32) (hb hby at_42) (by decide)) ?_
        refine go (fun _ => XS.iand X416.here hx rfl (hb hby at_43) rfl) ?_
        show Ends p e below _ T416 (mkF m 44 #[iv i0, iv i1, iv i2, iv i3, rv a314, .val .null, .val .null, rv a402, .unset] [(.int (i0 &&& (1 : Int32)))])
        refine go (fun _ => XS.ifYes X416.here hx rfl (pc0 := 44) (pc' := 65) rfl (hb hby at_44) rfl (XT.i0_ne_t c314) (by decide) (by decide)) ?_
        show Ends p e below _ T416 (mkF m 65 #[iv i0, iv i1, iv i2, iv i3, rv a314, .val .null, .val .null, rv a402, .unset] [])
        refine go (fun _ => XT.iconstV X416.here hx rfl (0 : Int32) (hb hby at_65) (by decide)) ?_
        refine go (fun _ => XS.istore X416.here hx rfl (hb hby at_66) rfl (l' := #[iv i0, iv i1, iv i2, iv i3, rv a314, .val .null, .val .null, rv a402, iv (0 : Int32)]) rfl) ?_
        refine go (fun _ => XS.aload X416.here hx rfl (hb hby at_68) rfl rfl) ?_
        show Ends p e below _ T416 (mkF m 70 #[iv i0, iv i1, iv i2, iv i3, rv a314, .val .null, .val .null, rv a402, iv (0 : Int32)] [(.ref a402)])
        have F420 := (Exa.keep A402 K416)
        refine cVirt X416 hx hZ hown (by rw [hml]; rfl) e416 (hwi hw 24 rfl) (hwi hw 25 rfl) (hwi hw 27 rfl) (hwi hw 26 rfl) (hwi hw 6 rfl) (hwi hw 28 rfl) (notFace_of_selects (args := #[]) (mvT hZ (hwi hw 27 rfl))) a402 F420 [] [] rfl (rm_ie1 hw a402 a314 _ F416_0 F416_1 F416_2) (hb hby at_70) rfl (lenOf pd_16 rfl) (by decide) (by decide) (Nat.le_of_ble_eq_true rfl) (by decide) (by decide) ?_
        rintro v419 T419 h419 L419 X419 e419 ⟨rfl, N419, rfl⟩
        have N419a := Fr.app N416a N419
        show Ends p e below _ T419 (mkF m 73 #[iv i0, iv i1, iv i2, iv i3, rv a314, .val .null, .val .null, rv a402, iv (0 : Int32)] [(.int (0 : Int32))])
        refine go (fun _ => XS.iload X419.here hx rfl (hb hby at_73) rfl) ?_
        show Ends p e below _ T419 (mkF m 75 #[iv i0, iv i1, iv i2, iv i3, rv a314, .val .null, .val .null, rv a402, iv (0 : Int32)] [(.int (0 : Int32)), (.int (0 : Int32))])
        refine go (fun _ => XS.icmpNo X419.here hx rfl (hb hby at_75) rfl (XT.ii_ne_f ((by decide) : (0 : Int32) = (0 : Int32)))) ?_
        show Ends p e below _ T419 (mkF m 78 #[iv i0, iv i1, iv i2, iv i3, rv a314, .val .null, .val .null, rv a402, iv (0 : Int32)] [])
        refine go (fun _ => XT.iconstV X419.here hx rfl (1 : Int32) (hb hby at_78) (by decide)) ?_
        refine go (fun _ => XS.goto X419.here hx rfl (pc0 := 79) (pc' := 83) rfl (hb hby at_79) (by decide) (by decide)) ?_
        show Ends p e below _ T419 (mkF m 83 #[iv i0, iv i1, iv i2, iv i3, rv a314, .val .null, .val .null, rv a402, iv (0 : Int32)] [(.int (1 : Int32))])
        exact endN X419 hx hret (by simp) (hb hby at_83) (lvW X419 hlk hZ (own_EW hw) hs0 hS hk H417 e419 (fun h => by rw [hret] at h; cases h) ⟨rfl, N419a⟩ (by decide) (by decide))
      · have N399a := Fr.app N396a N399
        have F421 := (Exa.keep E314 K396)
        have n422 : a314 ≠ a399 := Nat.ne_of_lt (Nat.lt_of_lt_of_le (F421.lt) g399)
        have F423 := (Arv.keep V314 K396 nin0)
        have n424 : b314 ≠ a399 := Nat.ne_of_lt (Nat.lt_of_lt_of_le (F423.lt) g399)
        have f425 : Z.heap.size ≤ a399 := Nat.le_trans (O398).1 g399
        have H426 := H397.trans C399w
        have O427 : Ext Z.heap h399 := xk O398 K399 all0
        have cb399 : ¬ (i0 &&& (64 : Int32)) = (0 : Int32) := fun q => c399 ((own_bit i0).2.mpr q)
        show Ends p e below _ T399 (mkF m 24 #[iv i0, iv i1, iv i2, iv i3, rv a314, .val .null, .unset, .unset, .unset] [(.ref a399)])
        refine go (fun _ => XS.astore X399.here hx rfl (hb hby at_24) rfl rfl (l' := #[iv i0, iv i1, iv i2, iv i3, rv a314, .val .null, rv a399, .unset, .unset]) rfl) ?_
        show Ends p e below _ T399 (mkF m 26 #[iv i0, iv i1, iv i2, iv i3, rv a314, .val .null, rv a399, .unset, .unset] [])
        obtain ⟨T428, h428, X428, e428, E428, A428, D428, U428, s428⟩ := newO X399 hx hZ hown (hwi hw 4 rfl) (hwi hw 5 rfl) (hwi hw 6 rfl) e399 (g := (mkF m 26 #[iv i0, iv i1, iv i2, iv i3, rv a314, .val .null, rv a399, .unset, .unset] [])) rfl (hb hby at_26) (by decide) (by decide)
        have F429 := (Exa.keep F421 K399)
        have F430 := (Arv.keep F423 K399 nin0)
        obtain ⟨a428, g428⟩ : ∃ z : Addr, z = h399.size := ⟨_, rfl⟩
        have n431 : a314 ≠ a428 := fun q => absurd (F429.lt) (by rw [q, g428]; exact Nat.lt_irrefl _)
        have n432 : a399 ≠ a428 := fun q => absurd (E399.lt) (by rw [q, g428]; exact Nat.lt_irrefl _)
        have n433 : b314 ≠ a428 := fun q => absurd (F430.lt) (by rw [q, g428]; exact Nat.lt_irrefl _)
        have n434 : b399 ≠ a428 := fun q => absurd (V399.lt) (by rw [q, g428]; exact Nat.lt_irrefl _)
        have f428 : Z.heap.size ≤ a428 := by rw [g428]; exact (O427).1
        rw [← g428] at A428 D428 U428 s428
        have C435 : CHr Z own_EL T399.vm h399 T399.vm h428 := CHr.ext E428 H426.1
        have hk := Nat.le_trans hk C435.2.1
        have H435 := H426.trans C435
        have O436 : Ext Z.heap h428 := xx O427 E428
        have SF428 : Safe Z own_EL T399.vm h428 a428 := Safe.ext E428 H426.1 (Safe.new (by rw [g428]; exact Nat.le_refl _))
        refine go s428 ?_
        show Ends p e below _ T428 (mkF m 29 #[iv i0, iv i1, iv i2, iv i3, rv a314, .val .null, rv a399, .unset, .unset] [(.ref a428)])
        refine go (fun _ => XS.dup X428.here hx rfl (hb hby at_29) rfl rfl) ?_
        refine go (fun _ => XS.aload X428.here hx rfl (hb hby at_30) rfl rfl) ?_
        refine go (fun _ => XS.aload X428.here hx rfl (hb hby at_32) rfl rfl) ?_
        refine go (fun _ => XS.aload X428.here hx rfl (hb hby at_34) rfl rfl) ?_
        show Ends p e below _ T428 (mkF m 36 #[iv i0, iv i1, iv i2, iv i3, rv a314, .val .null, rv a399, .unset, .unset] [(.ref a399), .null, (.ref a314), (.ref a428), (.ref a428)])
        have F437 := (D428 (Or.inr (hwi hw 19 rfl)) (ty := (.object "java/lang/String")) (by decide))
        have F438 := (D428 (Or.inr (hwi hw 21 rfl)) (ty := (.object "java/lang/String")) (by decide))
        have F439 := (D428 (Or.inr (hwi hw 23 rfl)) (ty := (.object "java/lang/String")) (by decide))
        have F440 := (Exa.ext E428 F429)
        have F441 := (Fld.ext E428 (Fld.keep (Fld.keep Fc314 K396 nin0) K399 nin0))
        have F442 := (Fld.ext E428 (Fld.keep (Fld.keep Fv314 K396 nin0) K399 nin0))
        have F443 := (Arv.ext F430 E428)
        refine cInit X428 hx hZ hown (by rw [hml]; rfl) e428 (hwi hw 7 rfl) (hwi hw 8 rfl) (hwi hw 6 rfl) (hwi hw 9 rfl) a428 [(.ref a314), .null, (.ref a399)] [(.ref a428)] rfl (rm_atS hw a428 a314 .null (.ref a399) b314 k314 lz314 _ _ O436 f428 A428 F437 F438 F439 rfl rfl F440 F441 F442 F443 (Ne.symm n431) (Ne.symm n433) cz SCS hcz u0314 u4314) (hb hby at_36) rfl (lenOf pd_25 rfl) rfl (by decide) (by decide) (Nat.le_of_ble_eq_true rfl) (by decide) (by decide) ?_
        rintro v444 T444 h444 L444 X444 e444 ⟨rfl, N444, K444, F444_0, F444_1, F444_2⟩
        have N444a := Fr.app N399a N444
        have sf445 : ∀ x ∈ [a428], Safe Z own_EL T399.vm h428 x := (sfS SF428 sf0)
        have C445 : CHr Z own_EL T399.vm h428 T399.vm h444 := CHr.keep K444 sf445 H435.1
        have hk := Nat.le_trans hk C445.2.1
        have H445 := H435.trans C445
        have O446 : Ext Z.heap h444 := xk O436 K444 (allS f428 all0)
        show Ends p e below _ T444 (mkF m 39 #[iv i0, iv i1, iv i2, iv i3, rv a314, .val .null, rv a399, .unset, .unset] [(.ref a428)])
        refine go (fun _ => XS.astore X444.here hx rfl (hb hby at_39) rfl rfl (l' := #[iv i0, iv i1, iv i2, iv i3, rv a314, .val .null, rv a399, rv a428, .unset]) rfl) ?_
        refine go (fun _ => XS.iloadN X444.here hx rfl (hb hby at_41) rfl) ?_
        refine go (fun _ => XT.iconstV X444.here hx rfl (1 : Int32) (hb hby at_42) (by decide)) ?_
        refine go (fun _ => XS.iand X444.here hx rfl (hb hby at_43) rfl) ?_
        show Ends p e below _ T444 (mkF m 44 #[iv i0, iv i1, iv i2, iv i3, rv a314, .val .null, rv a399, rv a428, .unset] [(.int (i0 &&& (1 : Int32)))])
        refine go (fun _ => XS.ifYes X444.here hx rfl (pc0 := 44) (pc' := 65) rfl (hb hby at_44) rfl (XT.i0_ne_t c314) (by decide) (by decide)) ?_
        show Ends p e below _ T444 (mkF m 65 #[iv i0, iv i1, iv i2, iv i3, rv a314, .val .null, rv a399, rv a428, .unset] [])
        refine go (fun _ => XT.iconstV X444.here hx rfl (0 : Int32) (hb hby at_65) (by decide)) ?_
        refine go (fun _ => XS.istore X444.here hx rfl (hb hby at_66) rfl (l' := #[iv i0, iv i1, iv i2, iv i3, rv a314, .val .null, rv a399, rv a428, iv (0 : Int32)]) rfl) ?_
        refine go (fun _ => XS.aload X444.here hx rfl (hb hby at_68) rfl rfl) ?_
        show Ends p e below _ T444 (mkF m 70 #[iv i0, iv i1, iv i2, iv i3, rv a314, .val .null, rv a399, rv a428, iv (0 : Int32)] [(.ref a428)])
        have F448 := (Exa.keep A428 K444)
        refine cVirt X444 hx hZ hown (by rw [hml]; rfl) e444 (hwi hw 24 rfl) (hwi hw 25 rfl) (hwi hw 27 rfl) (hwi hw 26 rfl) (hwi hw 6 rfl) (hwi hw 28 rfl) (notFace_of_selects (args := #[]) (mvT hZ (hwi hw 27 rfl))) a428 F448 [] [] rfl (rm_ie5 hw a428 a314 a399 _ F444_0 F444_1 F444_2) (hb hby at_70) rfl (lenOf pd_16 rfl) (by decide) (by decide) (Nat.le_of_ble_eq_true rfl) (by decide) (by decide) ?_
        rintro v447 T447 h447 L447 X447 e447 ⟨rfl, N447, rfl⟩
        have N447a := Fr.app N444a N447
        show Ends p e below _ T447 (mkF m 73 #[iv i0, iv i1, iv i2, iv i3, rv a314, .val .null, rv a399, rv a428, iv (0 : Int32)] [(.int (0 : Int32))])
        refine go (fun _ => XS.iload X447.here hx rfl (hb hby at_73) rfl) ?_
        show Ends p e below _ T447 (mkF m 75 #[iv i0, iv i1, iv i2, iv i3, rv a314, .val .null, rv a399, rv a428, iv (0 : Int32)] [(.int (0 : Int32)), (.int (0 : Int32))])
        refine go (fun _ => XS.icmpNo X447.here hx rfl (hb hby at_75) rfl (XT.ii_ne_f ((by decide) : (0 : Int32) = (0 : Int32)))) ?_
        show Ends p e below _ T447 (mkF m 78 #[iv i0, iv i1, iv i2, iv i3, rv a314, .val .null, rv a399, rv a428, iv (0 : Int32)] [])
        refine go (fun _ => XT.iconstV X447.here hx rfl (1 : Int32) (hb hby at_78) (by decide)) ?_
        refine go (fun _ => XS.goto X447.here hx rfl (pc0 := 79) (pc' := 83) rfl (hb hby at_79) (by decide) (by decide)) ?_
        show Ends p e below _ T447 (mkF m 83 #[iv i0, iv i1, iv i2, iv i3, rv a314, .val .null, rv a399, rv a428, iv (0 : Int32)] [(.int (1 : Int32))])
        exact endN X447 hx hret (by simp) (hb hby at_83) (lvW X447 hlk hZ (own_EW hw) hs0 hS hk H445 e447 (fun h => by rw [hret] at h; cases h) ⟨rfl, N447a⟩ (by decide) (by decide))
    · have N396a := Fr.app N314a N396
      have n449 : a314 ≠ a396 := Nat.ne_of_lt (Nat.lt_of_lt_of_le (E314.lt) g396)
      have n450 : b314 ≠ a396 := Nat.ne_of_lt (Nat.lt_of_lt_of_le (V314.lt) g396)
      have f451 : Z.heap.size ≤ a396 := Nat.le_trans (O395).1 g396
      have H452 := H394.trans C396w
      have O453 : Ext Z.heap h396 := xk O395 K396 all0
      have cb396 : ¬ (i0 &&& (8 : Int32)) = (0 : Int32) := fun q => c396 ((own_bit i0).1.mpr q)
      show Ends p e below _ T396 (mkF m 14 #[iv i0, iv i1, iv i2, iv i3, rv a314, .unset, .unset, .unset, .unset] [(.ref a396)])
      refine go (fun _ => XS.astore X396.here hx rfl (hb hby at_14) rfl rfl (l' := #[iv i0, iv i1, iv i2, iv i3, rv a314, rv a396, .unset, .unset, .unset]) rfl) ?_
      refine go (fun _ => XS.iloadN X396.here hx rfl (hb hby at_16) rfl) ?_
      refine go (fun _ => XT.bipushV X396.here hx rfl (6 : Int32) (hb hby at_17) (by decide)) ?_
      refine go (fun _ => XT.iushr X396.here hx rfl (hb hby at_19) rfl) ?_
      refine go (fun _ => XS.iloadN X396.here hx rfl (hb hby at_20) rfl) ?_
      show Ends p e below _ T396 (mkF m 21 #[iv i0, iv i1, iv i2, iv i3, rv a314, rv a396, .unset, .unset, .unset] [(.int i3), (.int (XT.ushr i0 (6 : Int32)))])
      refine cStatW X396 hx hZ hown (by rw [hml]; rfl) e396 (own_EW hw) hS hk H452.1 (hwi hw 0 rfl) (hwi hw 1 rfl) (hwi hw 2 rfl) (hwi hw 3 rfl) [(.int (XT.ushr i0 (6 : Int32))), (.int i3)] [] rfl (rm_make hw (XT.ushr i0 (6 : Int32)) i3 _ O453 cz SCS hcz) (hb hby at_21) rfl (lenOf pd_24 rfl) (by decide) (by decide) (Nat.le_of_ble_eq_true rfl) (by decide) (by decide) ?_
      rintro v454 T454 h454 L454 k454w X454 e454 hS hk hZ hown C454w (⟨rfl, N454, K454, c454⟩ | ⟨a454, b454, k454, lz454, vs454, rfl, N454, K454, g454, c454, E454, Fv454, Fc454, V454, u0454, u4454⟩)
      · have N454a := Fr.app N396a N454
        have H455 := H452.trans C454w
        have O456 : Ext Z.heap h454 := xk O453 K454 all0
        have cb454 : (i0 &&& (64 : Int32)) = (0 : Int32) := (own_bit i0).2.mp c454
        show Ends p e below _ T454 (mkF m 24 #[iv i0, iv i1, iv i2, iv i3, rv a314, rv a396, .unset, .unset, .unset] [.null])
        refine go (fun _ => XS.astore X454.here hx rfl (hb hby at_24) rfl rfl (l' := #[iv i0, iv i1, iv i2, iv i3, rv a314, rv a396, .val .null, .unset, .unset]) rfl) ?_
        show Ends p e below _ T454 (mkF m 26 #[iv i0, iv i1, iv i2, iv i3, rv a314, rv a396, .val .null, .unset, .unset] [])
        obtain ⟨T457, h457, X457, e457, E457, A457, D457, U457, s457⟩ := newO X454 hx hZ hown (hwi hw 4 rfl) (hwi hw 5 rfl) (hwi hw 6 rfl) e454 (g := (mkF m 26 #[iv i0, iv i1, iv i2, iv i3, rv a314, rv a396, .val .null, .unset, .unset] [])) rfl (hb hby at_26) (by decide) (by decide)
        have F458 := (Exa.keep (Exa.keep E314 K396) K454)
        have F459 := (Exa.keep E396 K454)
        have F460 := (Arv.keep (Arv.keep V314 K396 nin0) K454 nin0)
        have F461 := (Arv.keep V396 K454 nin0)
        obtain ⟨a457, g457⟩ : ∃ z : Addr, z = h454.size := ⟨_, rfl⟩
        have n462 : a314 ≠ a457 := fun q => absurd (F458.lt) (by rw [q, g457]; exact Nat.lt_irrefl _)
        have n463 : a396 ≠ a457 := fun q => absurd (F459.lt) (by rw [q, g457]; exact Nat.lt_irrefl _)
        have n464 : b314 ≠ a457 := fun q => absurd (F460.lt) (by rw [q, g457]; exact Nat.lt_irrefl _)
        have n465 : b396 ≠ a457 := fun q => absurd (F461.lt) (by rw [q, g457]; exact Nat.lt_irrefl _)
        have f457 : Z.heap.size ≤ a457 := by rw [g457]; exact (O456).1
        rw [← g457] at A457 D457 U457 s457
        have C466 : CHr Z own_EL T454.vm h454 T454.vm h457 := CHr.ext E457 H455.1
        have hk := Nat.le_trans hk C466.2.1
        have H466 := H455.trans C466
        have O467 : Ext Z.heap h457 := xx O456 E457
        have SF457 : Safe Z own_EL T454.vm h457 a457 := Safe.ext E457 H455.1 (Safe.new (by rw [g457]; exact Nat.le_refl _))
        refine go s457 ?_
        show Ends p e below _ T457 (mkF m 29 #[iv i0, iv i1, iv i2, iv i3, rv a314, rv a396, .val .null, .unset, .unset] [(.ref a457)])
        refine go (fun _ => XS.dup X457.here hx rfl (hb hby at_29) rfl rfl) ?_
        refine go (fun _ => XS.aload X457.here hx rfl (hb hby at_30) rfl rfl) ?_
        refine go (fun _ => XS.aload X457.here hx rfl (hb hby at_32) rfl rfl) ?_
        refine go (fun _ => XS.aload X457.here hx rfl (hb hby at_34) rfl rfl) ?_
        show Ends p e below _ T457 (mkF m 36 #[iv i0, iv i1, iv i2, iv i3, rv a314, rv a396, .val .null, .unset, .unset] [.null, (.ref a396), (.ref a314), (.ref a457), (.ref a457)])
        have F468 := (D457 (Or.inr (hwi hw 19 rfl)) (ty := (.object "java/lang/String")) (by decide))
        have F469 := (D457 (Or.inr (hwi hw 21 rfl)) (ty := (.object "java/lang/String")) (by decide))
        have F470 := (D457 (Or.inr (hwi hw 23 rfl)) (ty := (.object "java/lang/String")) (by decide))
        have F471 := (Exa.ext E457 F458)
        have F472 := (Fld.ext E457 (Fld.keep (Fld.keep Fc314 K396 nin0) K454 nin0))
        have F473 := (Fld.ext E457 (Fld.keep (Fld.keep Fv314 K396 nin0) K454 nin0))
        have F474 := (Arv.ext F460 E457)
        refine cInit X457 hx hZ hown (by rw [hml]; rfl) e457 (hwi hw 7 rfl) (hwi hw 8 rfl) (hwi hw 6 rfl) (hwi hw 9 rfl) a457 [(.ref a314), (.ref a396), .null] [(.ref a457)] rfl (rm_atS hw a457 a314 (.ref a396) .null b314 k314 lz314 _ _ O467 f457 A457 F468 F469 F470 rfl rfl F471 F472 F473 F474 (Ne.symm n462) (Ne.symm n464) cz SCS hcz u0314 u4314) (hb hby at_36) rfl (lenOf pd_25 rfl) rfl (by decide) (by decide) (Nat.le_of_ble_eq_true rfl) (by decide) (by decide) ?_
        rintro v475 T475 h475 L475 X475 e475 ⟨rfl, N475, K475, F475_0, F475_1, F475_2⟩
        have N475a := Fr.app N454a N475
        have sf476 : ∀ x ∈ [a457], Safe Z own_EL T454.vm h457 x := (sfS SF457 sf0)
        have C476 : CHr Z own_EL T454.vm h457 T454.vm h475 := CHr.keep K475 sf476 H466.1
        have hk := Nat.le_trans hk C476.2.1
        have H476 := H466.trans C476
        have O477 : Ext Z.heap h475 := xk O467 K475 (allS f457 all0)
        show Ends p e below _ T475 (mkF m 39 #[iv i0, iv i1, iv i2, iv i3, rv a314, rv a396, .val .null, .unset, .unset] [(.ref a457)])
        refine go (fun _ => XS.astore X475.here hx rfl (hb hby at_39) rfl rfl (l' := #[iv i0, iv i1, iv i2, iv i3, rv a314, rv a396, .val .null, rv a457, .unset]) rfl) ?_
        refine go (fun _ => XS.iloadN X475.here hx rfl (hb hby at_41) rfl) ?_
        refine go (fun _ => XT.iconstV X475.here hx rfl (1 : Int32) (hb hby at_42) (by decide)) ?_
        refine go (fun _ => XS.iand X475.here hx rfl (hb hby at_43) rfl) ?_
        show Ends p e below _ T475 (mkF m 44 #[iv i0, iv i1, iv i2, iv i3, rv a314, rv a396, .val .null, rv a457, .unset] [(.int (i0 &&& (1 : Int32)))])
        refine go (fun _ => XS.ifYes X475.here hx rfl (pc0 := 44) (pc' := 65) rfl (hb hby at_44) rfl (XT.i0_ne_t c314) (by decide) (by decide)) ?_
        show Ends p e below _ T475 (mkF m 65 #[iv i0, iv i1, iv i2, iv i3, rv a314, rv a396, .val .null, rv a457, .unset] [])
        refine go (fun _ => XT.iconstV X475.here hx rfl (0 : Int32) (hb hby at_65) (by decide)) ?_
        refine go (fun _ => XS.istore X475.here hx rfl (hb hby at_66) rfl (l' := #[iv i0, iv i1, iv i2, iv i3, rv a314, rv a396, .val .null, rv a457, iv (0 : Int32)]) rfl) ?_
        refine go (fun _ => XS.aload X475.here hx rfl (hb hby at_68) rfl rfl) ?_
        show Ends p e below _ T475 (mkF m 70 #[iv i0, iv i1, iv i2, iv i3, rv a314, rv a396, .val .null, rv a457, iv (0 : Int32)] [(.ref a457)])
        have F479 := (Exa.keep A457 K475)
        refine cVirt X475 hx hZ hown (by rw [hml]; rfl) e475 (hwi hw 24 rfl) (hwi hw 25 rfl) (hwi hw 27 rfl) (hwi hw 26 rfl) (hwi hw 6 rfl) (hwi hw 28 rfl) (notFace_of_selects (args := #[]) (mvT hZ (hwi hw 27 rfl))) a457 F479 [] [] rfl (rm_ie3 hw a457 a314 a396 _ F475_0 F475_1 F475_2) (hb hby at_70) rfl (lenOf pd_16 rfl) (by decide) (by decide) (Nat.le_of_ble_eq_true rfl) (by decide) (by decide) ?_
        rintro v478 T478 h478 L478 X478 e478 ⟨rfl, N478, rfl⟩
        have N478a := Fr.app N475a N478
        show Ends p e below _ T478 (mkF m 73 #[iv i0, iv i1, iv i2, iv i3, rv a314, rv a396, .val .null, rv a457, iv (0 : Int32)] [(.int (0 : Int32))])
        refine go (fun _ => XS.iload X478.here hx rfl (hb hby at_73) rfl) ?_
        show Ends p e below _ T478 (mkF m 75 #[iv i0, iv i1, iv i2, iv i3, rv a314, rv a396, .val .null, rv a457, iv (0 : Int32)] [(.int (0 : Int32)), (.int (0 : Int32))])
        refine go (fun _ => XS.icmpNo X478.here hx rfl (hb hby at_75) rfl (XT.ii_ne_f ((by decide) : (0 : Int32) = (0 : Int32)))) ?_
        show Ends p e below _ T478 (mkF m 78 #[iv i0, iv i1, iv i2, iv i3, rv a314, rv a396, .val .null, rv a457, iv (0 : Int32)] [])
        refine go (fun _ => XT.iconstV X478.here hx rfl (1 : Int32) (hb hby at_78) (by decide)) ?_
        refine go (fun _ => XS.goto X478.here hx rfl (pc0 := 79) (pc' := 83) rfl (hb hby at_79) (by decide) (by decide)) ?_
        show Ends p e below _ T478 (mkF m 83 #[iv i0, iv i1, iv i2, iv i3, rv a314, rv a396, .val .null, rv a457, iv (0 : Int32)] [(.int (1 : Int32))])
        exact endN X478 hx hret (by simp) (hb hby at_83) (lvW X478 hlk hZ (own_EW hw) hs0 hS hk H476 e478 (fun h => by rw [hret] at h; cases h) ⟨rfl, N478a⟩ (by decide) (by decide))
      · have N454a := Fr.app N396a N454
        have F480 := (Exa.keep E314 K396)
        have n481 : a314 ≠ a454 := Nat.ne_of_lt (Nat.lt_of_lt_of_le (F480.lt) g454)
        have n482 : a396 ≠ a454 := Nat.ne_of_lt (Nat.lt_of_lt_of_le (E396.lt) g454)
        have F483 := (Arv.keep V314 K396 nin0)
        have n484 : b314 ≠ a454 := Nat.ne_of_lt (Nat.lt_of_lt_of_le (F483.lt) g454)
        have n485 : b396 ≠ a454 := Nat.ne_of_lt (Nat.lt_of_lt_of_le (V396.lt) g454)
        have f486 : Z.heap.size ≤ a454 := Nat.le_trans (O453).1 g454
        have H487 := H452.trans C454w
        have O488 : Ext Z.heap h454 := xk O453 K454 all0
        have cb454 : ¬ (i0 &&& (64 : Int32)) = (0 : Int32) := fun q => c454 ((own_bit i0).2.mpr q)
        show Ends p e below _ T454 (mkF m 24 #[iv i0, iv i1, iv i2, iv i3, rv a314, rv a396, .unset, .unset, .unset] [(.ref a454)])
        refine go (fun _ => XS.astore X454.here hx rfl (hb hby at_24) rfl rfl (l' := #[iv i0, iv i1, iv i2, iv i3, rv a314, rv a396, rv a454, .unset, .unset]) rfl) ?_
        show Ends p e below _ T454 (mkF m 26 #[iv i0, iv i1, iv i2, iv i3, rv a314, rv a396, rv a454, .unset, .unset] [])
        obtain ⟨T489, h489, X489, e489, E489, A489, D489, U489, s489⟩ := newO X454 hx hZ hown (hwi hw 4 rfl) (hwi hw 5 rfl) (hwi hw 6 rfl) e454 (g := (mkF m 26 #[iv i0, iv i1, iv i2, iv i3, rv a314, rv a396, rv a454, .unset, .unset] [])) rfl (hb hby at_26) (by decide) (by decide)
        have F490 := (Exa.keep F480 K454)
        have F491 := (Exa.keep E396 K454)
        have F492 := (Arv.keep F483 K454 nin0)
        have F493 := (Arv.keep V396 K454 nin0)
        obtain ⟨a489, g489⟩ : ∃ z : Addr, z = h454.size := ⟨_, rfl⟩
        have n494 : a314 ≠ a489 := fun q => absurd (F490.lt) (by rw [q, g489]; exact Nat.lt_irrefl _)
        have n495 : a396 ≠ a489 := fun q => absurd (F491.lt) (by rw [q, g489]; exact Nat.lt_irrefl _)
        have n496 : a454 ≠ a489 := fun q => absurd (E454.lt) (by rw [q, g489]; exact Nat.lt_irrefl _)
        have n497 : b314 ≠ a489 := fun q => absurd (F492.lt) (by rw [q, g489]; exact Nat.lt_irrefl _)
        have n498 : b396 ≠ a489 := fun q => absurd (F493.lt) (by rw [q, g489]; exact Nat.lt_irrefl _)
        have n499 : b454 ≠ a489 := fun q => absurd (V454.lt) (by rw [q, g489]; exact Nat.lt_irrefl _)
        have f489 : Z.heap.size ≤ a489 := by rw [g489]; exact (O488).1
        rw [← g489] at A489 D489 U489 s489
        have C500 : CHr Z own_EL T454.vm h454 T454.vm h489 := CHr.ext E489 H487.1
        have hk := Nat.le_trans hk C500.2.1
        have H500 := H487.trans C500
        have O501 : Ext Z.heap h489 := xx O488 E489
        have SF489 : Safe Z own_EL T454.vm h489 a489 := Safe.ext E489 H487.1 (Safe.new (by rw [g489]; exact Nat.le_refl _))
        refine go s489 ?_
        show Ends p e below _ T489 (mkF m 29 #[iv i0, iv i1, iv i2, iv i3, rv a314, rv a396, rv a454, .unset, .unset] [(.ref a489)])
        refine go (fun _ => XS.dup X489.here hx rfl (hb hby at_29) rfl rfl) ?_
        refine go (fun _ => XS.aload X489.here hx rfl (hb hby at_30) rfl rfl) ?_
        refine go (fun _ => XS.aload X489.here hx rfl (hb hby at_32) rfl rfl) ?_
        refine go (fun _ => XS.aload X489.here hx rfl (hb hby at_34) rfl rfl) ?_
        show Ends p e below _ T489 (mkF m 36 #[iv i0, iv i1, iv i2, iv i3, rv a314, rv a396, rv a454, .unset, .unset] [(.ref a454), (.ref a396), (.ref a314), (.ref a489), (.ref a489)])
        have F502 := (D489 (Or.inr (hwi hw 19 rfl)) (ty := (.object "java/lang/String")) (by decide))
        have F503 := (D489 (Or.inr (hwi hw 21 rfl)) (ty := (.object "java/lang/String")) (by decide))
        have F504 := (D489 (Or.inr (hwi hw 23 rfl)) (ty := (.object "java/lang/String")) (by decide))
        have F505 := (Exa.ext E489 F490)
        have F506 := (Fld.ext E489 (Fld.keep (Fld.keep Fc314 K396 nin0) K454 nin0))
        have F507 := (Fld.ext E489 (Fld.keep (Fld.keep Fv314 K396 nin0) K454 nin0))
        have F508 := (Arv.ext F492 E489)
        refine cInit X489 hx hZ hown (by rw [hml]; rfl) e489 (hwi hw 7 rfl) (hwi hw 8 rfl) (hwi hw 6 rfl) (hwi hw 9 rfl) a489 [(.ref a314), (.ref a396), (.ref a454)] [(.ref a489)] rfl (rm_atS hw a489 a314 (.ref a396) (.ref a454) b314 k314 lz314 _ _ O501 f489 A489 F502 F503 F504 rfl rfl F505 F506 F507 F508 (Ne.symm n494) (Ne.symm n497) cz SCS hcz u0314 u4314) (hb hby at_36) rfl (lenOf pd_25 rfl) rfl (by decide) (by decide) (Nat.le_of_ble_eq_true rfl) (by decide) (by decide) ?_
        rintro v509 T509 h509 L509 X509 e509 ⟨rfl, N509, K509, F509_0, F509_1, F509_2⟩
        have N509a := Fr.app N454a N509
        have sf510 : ∀ x ∈ [a489], Safe Z own_EL T454.vm h489 x := (sfS SF489 sf0)
        have C510 : CHr Z own_EL T454.vm h489 T454.vm h509 := CHr.keep K509 sf510 H500.1
        have hk := Nat.le_trans hk C510.2.1
        have H510 := H500.trans C510
        have O511 : Ext Z.heap h509 := xk O501 K509 (allS f489 all0)
        show Ends p e below _ T509 (mkF m 39 #[iv i0, iv i1, iv i2, iv i3, rv a314, rv a396, rv a454, .unset, .unset] [(.ref a489)])
        refine go (fun _ => XS.astore X509.here hx rfl (hb hby at_39) rfl rfl (l' := #[iv i0, iv i1, iv i2, iv i3, rv a314, rv a396, rv a454, rv a489, .unset]) rfl) ?_
        refine go (fun _ => XS.iloadN X509.here hx rfl (hb hby at_41) rfl) ?_
        refine go (fun _ => XT.iconstV X509.here hx rfl (1 : Int32) (hb hby at_42) (by decide)) ?_
        refine go (fun _ => XS.iand X509.here hx rfl (hb hby at_43) rfl) ?_
        show Ends p e below _ T509 (mkF m 44 #[iv i0, iv i1, iv i2, iv i3, rv a314, rv a396, rv a454, rv a489, .unset] [(.int (i0 &&& (1 : Int32)))])
        refine go (fun _ => XS.ifYes X509.here hx rfl (pc0 := 44) (pc' := 65) rfl (hb hby at_44) rfl (XT.i0_ne_t c314) (by decide) (by decide)) ?_
        show Ends p e below _ T509 (mkF m 65 #[iv i0, iv i1, iv i2, iv i3, rv a314, rv a396, rv a454, rv a489, .unset] [])
        refine go (fun _ => XT.iconstV X509.here hx rfl (0 : Int32) (hb hby at_65) (by decide)) ?_
        refine go (fun _ => XS.istore X509.here hx rfl (hb hby at_66) rfl (l' := #[iv i0, iv i1, iv i2, iv i3, rv a314, rv a396, rv a454, rv a489, iv (0 : Int32)]) rfl) ?_
        refine go (fun _ => XS.aload X509.here hx rfl (hb hby at_68) rfl rfl) ?_
        show Ends p e below _ T509 (mkF m 70 #[iv i0, iv i1, iv i2, iv i3, rv a314, rv a396, rv a454, rv a489, iv (0 : Int32)] [(.ref a489)])
        have F513 := (Exa.keep A489 K509)
        refine cVirt X509 hx hZ hown (by rw [hml]; rfl) e509 (hwi hw 24 rfl) (hwi hw 25 rfl) (hwi hw 27 rfl) (hwi hw 26 rfl) (hwi hw 6 rfl) (hwi hw 28 rfl) (notFace_of_selects (args := #[]) (mvT hZ (hwi hw 27 rfl))) a489 F513 [] [] rfl (rm_ie7 hw a489 a314 a396 a454 _ F509_0 F509_1 F509_2) (hb hby at_70) rfl (lenOf pd_16 rfl) (by decide) (by decide) (Nat.le_of_ble_eq_true rfl) (by decide) (by decide) ?_
        rintro v512 T512 h512 L512 X512 e512 ⟨rfl, N512, rfl⟩
        have N512a := Fr.app N509a N512
        show Ends p e below _ T512 (mkF m 73 #[iv i0, iv i1, iv i2, iv i3, rv a314, rv a396, rv a454, rv a489, iv (0 : Int32)] [(.int (0 : Int32))])
        refine go (fun _ => XS.iload X512.here hx rfl (hb hby at_73) rfl) ?_
        show Ends p e below _ T512 (mkF m 75 #[iv i0, iv i1, iv i2, iv i3, rv a314, rv a396, rv a454, rv a489, iv (0 : Int32)] [(.int (0 : Int32)), (.int (0 : Int32))])
        refine go (fun _ => XS.icmpNo X512.here hx rfl (hb hby at_75) rfl (XT.ii_ne_f ((by decide) : (0 : Int32) = (0 : Int32)))) ?_
        show Ends p e below _ T512 (mkF m 78 #[iv i0, iv i1, iv i2, iv i3, rv a314, rv a396, rv a454, rv a489, iv (0 : Int32)] [])
        refine go (fun _ => XT.iconstV X512.here hx rfl (1 : Int32) (hb hby at_78) (by decide)) ?_
        refine go (fun _ => XS.goto X512.here hx rfl (pc0 := 79) (pc' := 83) rfl (hb hby at_79) (by decide) (by decide)) ?_
        show Ends p e below _ T512 (mkF m 83 #[iv i0, iv i1, iv i2, iv i3, rv a314, rv a396, rv a454, rv a489, iv (0 : Int32)] [(.int (1 : Int32))])
        exact endN X512 hx hret (by simp) (hb hby at_83) (lvW X512 hlk hZ (own_EW hw) hs0 hS hk H510 e512 (fun h => by rw [hret] at h; cases h) ⟨rfl, N512a⟩ (by decide) (by decide))
set_option maxRecDepth 65536 in
set_option maxHeartbeats 40000000 in
theorem comes_1 {Post : Tables → Env → Array Value → State → Outcome → State → Prop} (hpost : ∀ tb e args s v u, (limb_1_1.after args s (.returned v) u = true ∧ limb_1_2.after args s (.returned v) u = true ∧ True) → ReturnedEndW s (.returned v) u (Jvm.fieldLocs frame_1_writes args s ++ Jvm.arrayLocs frame_1_arrays args s ++ Jvm.staticLocs frame_1_statics s) 32 1216 → Post tb e args s (.returned v) u) :
    ArmFor flags0 classFile x code maxLocals ret World_1 tables_1 room_1 Calls_1 rest_1 Pre_1 Post := by
  intro l hfl _ _ p e ha hc hk s m args below hf hA hF happ hP
  obtain ⟨hcalls, hrest, hpre⟩ := hP
  obtain ⟨-, -, -, hnamed, -, -, -, hat⟩ := (Spec.applies_iff hf).mp happ
  obtain ⟨hg, hn⟩ := and_e (Cond.before_iff.mp (show (Jvm.Cond.and given_1 narrow_1).before args s = true from hpre))
  obtain ⟨gv0, gvtr⟩ := and_e hg
  obtain ⟨gv1, gvtrr⟩ := and_e gvtr
  obtain ⟨gv2, gvtrrr⟩ := and_e gvtrr
  obtain ⟨gv3, gv4⟩ := and_e gvtrrr
  obtain ⟨w0, w1, w2, w3, rfl⟩ : ∃ w0 w1 w2 w3 : Value, args = #[w0, w1, w2, w3] := by
    have hs : args.size = 4 := by simpa [Cond.value, given_1] using gv0
    obtain ⟨L⟩ := args
    match L, hs with
    | [w0, w1, w2, w3], _ => exact ⟨w0, w1, w2, w3, rfl⟩
  have hw := fun d (hd : d ∈ tables_1) => atoms_spec (ws := Jvm.Cond.code x code maxLocals ret :: tables_1) hat d (List.mem_cons_of_mem _ hd)
  have hfit : Fit s := fun {y c} hc i hi => by
    obtain ⟨ha, rfl⟩ := Array.getElem?_eq_some_iff.mp hc
    have q := List.all_eq_true.mp ((Array.all_eq_true_iff_forall_mem.mp hF) _ (Array.getElem_mem ha)) i (List.mem_range.mpr hi)
    simpa [Array.getElem?_eq_getElem hi] using q
  obtain ⟨hsets, hown0⟩ := atoms_of _ (rest_1_c_eq ▸ (show rest_1_c.before _ s = true from hrest))
  obtain ⟨i0, ei0⟩ := is_v gv1
  obtain rfl : w0 = (.int i0) := Option.some.inj ei0
  obtain ⟨i1, ei1⟩ := is_v gv2
  obtain rfl : w1 = (.int i1) := Option.some.inj ei1
  obtain ⟨i2, ei2⟩ := is_v gv3
  obtain rfl : w2 = (.int i2) := Option.some.inj ei2
  obtain ⟨i3, ei3⟩ := is_v gv4
  obtain rfl : w3 = (.int i3) := Option.some.inj ei3
  obtain ⟨cz, evz⟩ := is_v (Cond.before_iff.mp (hsets _ (List.mem_of_getElem? (i := 1) rfl)))
  have SCS := Sta.start evz (Or.inl (hsets _ (List.mem_of_getElem? (i := 0) rfl)))
  have hcz : ¬ cz = (0 : Int32) := gotF (Cond.eq_ints evz (Term.int_eval (0 : Int32))) (not_v (Cond.before_iff.mp (hsets _ (List.mem_of_getElem? (i := 2) rfl))))
  have hcw : Jvm.Lit.compactW.before _ s = true := hsets _ (List.mem_of_getElem? (i := 2) rfl)
  have hCH : CHv s own_EL s.vm s.heap := CHv.start (own_EW hw) (fun q hq => hcalls.1 q hq) hcw (hwi hw 42 rfl) (hwi hw 30 rfl)
  obtain ⟨n, o, h1, h2, h3, _, L, rfl, ⟨rfl, N⟩, -, hq⟩ := (rm_law (l := l) hw i0 i1 i2 i3 s.heap ⟨Nat.le_refl _, fun _ _ q => q⟩ cz SCS hcz) tables_1 p e ha hc hk s m _ below hf ((Spec.applies_iff_loose hf).mp happ).1 ⟨rfl, State.Warmed39.refl s, rfl, hCH⟩ trivial
  refine ⟨n, _, h1, h2, h3, hpost _ _ _ _ _ _ ⟨Cond.after_iff.mpr rfl, Cond.after_iff.mpr (eq_i res_at (Term.int_eval (1)) rfl), trivial⟩ ⟨hq.1, hq.2.1, hq.2.2.1, (hq.2.2.2.sift fun y hy => Or.inr (N y hy)).mono (by decide) (by decide)⟩⟩
theorem main_1_1 : Claimed_1_1 := comes_1 fun _ _ _ _ _ _ h hF => ⟨h.1, hF⟩
theorem main_1_2 : Claimed_1_2 := comes_1 fun _ _ _ _ _ _ h hF => ⟨h.2.1, hF⟩
end Jvm.Pilot.@@N@@
namespace Jvm.Pilot.@@N@@
open Jvm Jvm.ClassFile Sem Op Lib Jvm.Free Jvm.Stand Jvm.Pilot.@@N@@.Jvm.D
/-! MADE BY PROGRAM (witnessworld.py) out of the Statement's table words and the real class files: 22 classes; the members and pool entries that the words name. The judged class is class 1, her method 2. -/
namespace start1
open Jvm.ClassFile
def u (s : String) : CpInfo := .utf8 (stringToUtf16 s)
/-- a pool by its gaps: so many unusable entries, then the entry; so many at the end -/
def gap : Nat → List CpInfo → List CpInfo
  | 0, r => r
  | n + 1, r => .unusable :: gap n r
def poolList (es : List (Nat × CpInfo)) (last : Nat) : List CpInfo := es.foldr (fun e r => gap e.1 (e.2 :: r)) (gap last [])
def pool (es : List (Nat × CpInfo)) (last : Nat) : Array CpInfo := ⟨poolList es last⟩
def fileOf (pool : Array CpInfo) (this : Nat) (attrs : Array Attribute := #[]) (ms : Array MethodInfo := #[]) (fl : Nat := 33) (sup : Nat := 0) (ifs : Array Nat := #[]) (fds : Array FieldInfo := #[]) : ClassFile where
  minorVersion := 0
  majorVersion := 65
  constantPool := pool
  accessFlags := fl
  thisClass := this
  superClass := sup
  interfaces := ifs
  fields := fds
  methods := ms
  attributes := attrs
def plain (name : String) (sup : Option ClassId) : Class where
  name := name
  kind := .ordinary
  loader := none
  accessFlags := 33
  super := sup
  interfaces := #[]
  cf := none
  fields := #[]
  methods := #[]
  instanceTypes := #[]
  staticTypes := #[]
  resolved := #[]
  callSites := []
  init := .initialized
  statics := none
  mirror := none

def pool0 : Array CpInfo := pool [(5, u "<init>"), (0, u "()V"), (1, .class_ 10), (1, u "java/lang/Object")] 113

def k0c0 : Code := { maxStack := 0, maxLocals := 1, code := object_method_1_code, exceptionTable := #[], attributes := #[] }
def k0m0 : Method := { name := "<init>", desc := "()V", sig := { parameters := [], returnType := none }, accessFlags := 1, code := some k0c0 }
/-- java/lang/Object -/
def k0 : Class := { plain "java/lang/Object" none with
  accessFlags := 33
  interfaces := #[]
  cf := some (fileOf pool0 8 #[] #[{ accessFlags := 1, nameIndex := 5, descriptorIndex := 6, attributes := #[] }] 33 0 #[] #[])
  fields := #[]
  methods := #[k0m0]
  instanceTypes := #[]
  staticTypes := #[]
  resolved := Array.replicate 124 none
  statics := none }

def pool1 : Array CpInfo := pool [(2, .class_ 4), (1, u "java/lang/Object"), (0, u "<init>"), (0, u "()V"), (0, .class_ 8), (0, u "java/lang/String"), (0, .methodref 7 10), (0, .nameAndType 5 11), (0, u "([C)V"), (0, .methodref 7 13), (0, .nameAndType 14 15), (0, u "valueOf"), (0, u "(C)Ljava/lang/String;"), (0, .methodref 17 18), (0, .class_ 19), (0, .nameAndType 20 21), (0, u "com/example/scopa/scopa/audit/AttributionIsEmptyPinLaw"), (0, u "make"), (0, u "(II)Ljava/lang/String;"), (0, .class_ 23), (0, u "com/example/scopa/scopa/audit/Attribution"), (0, .methodref 22 25), (0, .nameAndType 5 26), (0, u "(Ljava/lang/String;Ljava/lang/String;Ljava/lang/String;)V"), (0, .methodref 22 28), (0, .nameAndType 29 30), (0, u "isEmpty"), (0, u "()Z"), (3, u "law"), (0, u "(IIII)Z")] 2

def k1m0 : Method := { name := "<init>", desc := "()V", sig := { parameters := [], returnType := none }, accessFlags := 1, code := none }
def k1c1 : Code := { maxStack := 6, maxLocals := 6, code := method_2_code, exceptionTable := #[], attributes := #[] }
def k1m1 : Method := { name := "make", desc := "(II)Ljava/lang/String;", sig := { parameters := [.int, .int], returnType := some (.object "java/lang/String") }, accessFlags := 10, code := some k1c1 }
def k1c2 : Code := { maxStack := 5, maxLocals := 9, code := code, exceptionTable := #[], attributes := #[] }
def k1m2 : Method := { name := "law", desc := "(IIII)Z", sig := { parameters := [.int, .int, .int, .int], returnType := some .boolean }, accessFlags := 9, code := some k1c2 }
/-- com/example/scopa/scopa/audit/AttributionIsEmptyPinLaw -/
def k1 : Class := { plain "com/example/scopa/scopa/audit/AttributionIsEmptyPinLaw" (some 0) with
  accessFlags := 49
  interfaces := #[]
  cf := some (fileOf pool1 17 #[] #[{ accessFlags := 1, nameIndex := 5, descriptorIndex := 6, attributes := #[] }, { accessFlags := 10, nameIndex := 20, descriptorIndex := 21, attributes := #[] }, { accessFlags := 9, nameIndex := 34, descriptorIndex := 35, attributes := #[] }] 49 2 #[] #[])
  fields := #[]
  methods := #[k1m0, k1m1, k1m2]
  instanceTypes := #[]
  staticTypes := #[]
  resolved := Array.replicate 38 none
  statics := none }

def pool2 : Array CpInfo := pool [(1, .methodref 2 3), (0, .class_ 4), (0, .nameAndType 5 6), (0, u "java/lang/Object"), (0, u "<init>"), (0, u "()V"), (0, .class_ 8), (0, u "java/lang/Record")] 13

def k2c0 : Code := { maxStack := 1, maxLocals := 1, code := jdk_30_method_1_code, exceptionTable := #[], attributes := #[] }
def k2m0 : Method := { name := "<init>", desc := "()V", sig := { parameters := [], returnType := none }, accessFlags := 4, code := some k2c0 }
/-- java/lang/Record -/
def k2 : Class := { plain "java/lang/Record" (some 0) with
  accessFlags := 1057
  interfaces := #[]
  cf := some (fileOf pool2 7 #[] #[{ accessFlags := 4, nameIndex := 5, descriptorIndex := 6, attributes := #[] }] 1057 2 #[] #[])
  fields := #[]
  methods := #[k2m0]
  instanceTypes := #[]
  staticTypes := #[]
  resolved := Array.replicate 22 none
  statics := none }

def pool3 : Array CpInfo := pool [(1, .methodref 2 3), (0, .class_ 4), (0, .nameAndType 5 6), (0, u "java/lang/Record"), (0, u "<init>"), (0, u "()V"), (0, .methodref 8 9), (0, .class_ 10), (0, .nameAndType 11 12), (0, u "java/lang/String"), (0, u "length"), (0, u "()I"), (0, .methodref 8 14), (0, .nameAndType 15 16), (0, u "codePointCount"), (0, u "(II)I"), (0, .class_ 18), (0, u "com/example/scopa/scopa/audit/Attribution"), (19, .fieldref 17 39), (0, .nameAndType 40 41), (0, u "reason"), (0, u "Ljava/lang/String;"), (0, .fieldref 17 43), (0, .nameAndType 44 41), (0, u "subject"), (0, .fieldref 17 46), (0, .nameAndType 47 41), (0, u "actor"), (14, u "(Ljava/lang/String;Ljava/lang/String;Ljava/lang/String;)V"), (2, u "NONE"), (0, u "Lcom/example/scopa/scopa/audit/Attribution;"), (0, u "MAX_REASON_LENGTH"), (0, u "I"), (6, u "isEmpty"), (0, u "()Z")] 25

def k3c0 : Code := { maxStack := 7, maxLocals := 5, code := prog_1_method_1_code, exceptionTable := #[], attributes := #[] }
def k3m0 : Method := { name := "<init>", desc := "(Ljava/lang/String;Ljava/lang/String;Ljava/lang/String;)V", sig := { parameters := [(.object "java/lang/String"), (.object "java/lang/String"), (.object "java/lang/String")], returnType := none }, accessFlags := 1, code := some k3c0 }
def k3c1 : Code := { maxStack := 1, maxLocals := 1, code := prog_1_method_2_code, exceptionTable := #[], attributes := #[] }
def k3m1 : Method := { name := "isEmpty", desc := "()Z", sig := { parameters := [], returnType := some .boolean }, accessFlags := 1, code := some k3c1 }
/-- com/example/scopa/scopa/audit/Attribution -/
def k3 : Class := { plain "com/example/scopa/scopa/audit/Attribution" (some 2) with
  accessFlags := 49
  interfaces := #[]
  cf := some (fileOf pool3 17 #[] #[{ accessFlags := 1, nameIndex := 5, descriptorIndex := 62, attributes := #[] }, { accessFlags := 1, nameIndex := 75, descriptorIndex := 76, attributes := #[] }] 49 2 #[] #[{ accessFlags := 18, nameIndex := 40, descriptorIndex := 41, attributes := #[] }, { accessFlags := 18, nameIndex := 44, descriptorIndex := 41, attributes := #[] }, { accessFlags := 18, nameIndex := 47, descriptorIndex := 41, attributes := #[] }, { accessFlags := 25, nameIndex := 67, descriptorIndex := 68, attributes := #[] }, { accessFlags := 25, nameIndex := 65, descriptorIndex := 66, attributes := #[] }])
  fields := #[{ name := "reason", type := (.object "java/lang/String"), accessFlags := 18, slot := 0, constantValue := 0 }, { name := "subject", type := (.object "java/lang/String"), accessFlags := 18, slot := 1, constantValue := 0 }, { name := "actor", type := (.object "java/lang/String"), accessFlags := 18, slot := 2, constantValue := 0 }, { name := "MAX_REASON_LENGTH", type := .int, accessFlags := 25, slot := 0, constantValue := 0 }, { name := "NONE", type := (.object "com/example/scopa/scopa/audit/Attribution"), accessFlags := 25, slot := 1, constantValue := 0 }]
  methods := #[k3m0, k3m1]
  instanceTypes := #[(.object "java/lang/String"), (.object "java/lang/String"), (.object "java/lang/String")]
  staticTypes := #[.int, (.object "com/example/scopa/scopa/audit/Attribution")]
  resolved := Array.replicate 102 none
  statics := none }

def pool4 : Array CpInfo := pool [(1, .class_ 2), (0, u "java/io/Serializable"), (0, .class_ 4), (0, u "java/lang/Object")] 2

/-- java/io/Serializable -/
def k4 : Class := { plain "java/io/Serializable" (some 0) with
  accessFlags := 1537
  interfaces := #[]
  cf := some (fileOf pool4 1 #[] #[] 1537 3 #[] #[])
  fields := #[]
  methods := #[]
  instanceTypes := #[]
  staticTypes := #[]
  resolved := Array.replicate 7 none
  statics := none }

def pool5 : Array CpInfo := pool [(1, .class_ 2), (0, u "java/lang/Comparable"), (0, .class_ 4), (0, u "java/lang/Object")] 7

/-- java/lang/Comparable -/
def k5 : Class := { plain "java/lang/Comparable" (some 0) with
  accessFlags := 1537
  interfaces := #[]
  cf := some (fileOf pool5 1 #[] #[] 1537 3 #[] #[])
  fields := #[]
  methods := #[]
  instanceTypes := #[]
  staticTypes := #[]
  resolved := Array.replicate 12 none
  statics := none }

def pool6 : Array CpInfo := pool [(2, .class_ 4), (1, u "java/lang/CharSequence"), (42, .class_ 48), (0, u "java/lang/CharSequence$1CodePointIterator"), (10, .class_ 60), (0, u "java/lang/CharSequence$1CharIterator"), (5, .class_ 67), (0, u "java/lang/Object")] 63

/-- java/lang/CharSequence -/
def k6 : Class := { plain "java/lang/CharSequence" (some 0) with
  accessFlags := 1537
  interfaces := #[]
  cf := some (fileOf pool6 2 #[.nestMembers #[47, 59]] #[] 1537 66 #[] #[])
  fields := #[]
  methods := #[]
  instanceTypes := #[]
  staticTypes := #[]
  resolved := Array.replicate 131 none
  statics := none }

def pool7 : Array CpInfo := pool [(1, .class_ 2), (0, u "java/lang/constant/Constable"), (0, .class_ 4), (0, u "java/lang/Object")] 6

/-- java/lang/constant/Constable -/
def k7 : Class := { plain "java/lang/constant/Constable" (some 0) with
  accessFlags := 1537
  interfaces := #[]
  cf := some (fileOf pool7 1 #[] #[] 1537 3 #[] #[])
  fields := #[]
  methods := #[]
  instanceTypes := #[]
  staticTypes := #[]
  resolved := Array.replicate 11 none
  statics := none }

def pool8 : Array CpInfo := pool [(1, .class_ 2), (0, u "java/lang/constant/ConstantDesc"), (0, .class_ 4), (0, u "java/lang/Object")] 32

/-- java/lang/constant/ConstantDesc -/
def k8 : Class := { plain "java/lang/constant/ConstantDesc" (some 0) with
  accessFlags := 1537
  interfaces := #[]
  cf := some (fileOf pool8 1 #[] #[] 1537 3 #[] #[])
  fields := #[]
  methods := #[]
  instanceTypes := #[]
  staticTypes := #[]
  resolved := Array.replicate 37 none
  statics := none }

def pool9 : Array CpInfo := pool [(1, .methodref 2 3), (0, .class_ 4), (0, .nameAndType 5 6), (0, u "java/lang/Object"), (0, u "<init>"), (0, u "()V"), (0, .string 8), (0, u ""), (0, .fieldref 10 11), (0, .class_ 12), (0, .nameAndType 13 14), (0, u "java/lang/String"), (0, u "value"), (0, u "[B"), (0, .fieldref 10 16), (0, .nameAndType 17 18), (0, u "coder"), (0, u "B"), (2, u "hash"), (0, u "I"), (2, u "hashIsZero"), (0, u "Z"), (0, .methodref 10 28), (0, .nameAndType 5 29), (0, u "([CIILjava/lang/Void;)V"), (7, u "(III)I"), (0, .fieldref 10 39), (0, .nameAndType 40 26), (0, u "COMPACT_STRINGS"), (1, .class_ 44), (1, u "java/lang/StringUTF16"), (0, u "compress"), (1, .methodref 42 48), (0, .nameAndType 49 50), (0, u "coderFromArrayLen"), (0, u "([BI)B"), (2, u "toBytes"), (25, .class_ 81), (1, u "java/util/Objects"), (25, .class_ 109), (1, u "java/lang/StringLatin1"), (32, u "()Z"), (34, .methodref 42 178), (0, .nameAndType 45 179), (0, u "([CII)[B"), (29, .methodref 10 210), (0, .nameAndType 5 211), (0, u "([BB)V"), (122, u "()I"), (0, .methodref 10 336), (0, .nameAndType 17 337), (0, u "()B"), (31, u "(C)Z"), (122, .methodref 10 493), (0, .nameAndType 494 142), (0, u "isLatin1"), (10, .methodref 10 506), (0, .nameAndType 507 334), (0, u "length"), (3, .methodref 79 512), (0, .nameAndType 513 37), (0, u "checkFromToIndex"), (2, u "codePointCount"), (58, .class_ 576), (0, u "java/lang/CharSequence"), (22, u "CASE_INSENSITIVE_ORDER"), (0, u "Ljava/util/Comparator;"), (35, u "(II)I"), (145, u "valueOf"), (0, u "(C)Ljava/lang/String;"), (226, u "([C)V"), (4, .methodref 107 1016), (0, .nameAndType 1017 369), (0, u "canEncode"), (0, .methodref 107 1019), (0, .nameAndType 53 1020), (0, u "(C)[B"), (80, u "serialPersistentFields"), (0, u "[Ljava/io/ObjectStreamField;"), (0, .class_ 1104), (0, u "java/lang/String$CaseInsensitiveComparator"), (1, .class_ 1107), (0, u "java/io/Serializable"), (0, .class_ 1109), (0, u "java/lang/Comparable"), (0, .class_ 1111), (0, u "java/lang/constant/Constable"), (0, .class_ 1113), (0, u "java/lang/constant/ConstantDesc"), (2, u "serialVersionUID"), (0, u "J"), (3, u "REPL"), (0, u "C"), (2, u "LATIN1"), (1, u "UTF16")] 323

def k9m0 : Method := { name := "<init>", desc := "()V", sig := { parameters := [], returnType := none }, accessFlags := 1, code := none }
def k9c1 : Code := { maxStack := 5, maxLocals := 2, code := jdk_42_method_3_code, exceptionTable := #[], attributes := #[] }
def k9m1 : Method := { name := "<init>", desc := "([C)V", sig := { parameters := [(.array .char)], returnType := none }, accessFlags := 1, code := some k9c1 }
def k9c2 : Code := { maxStack := 2, maxLocals := 1, code := jdk_42_method_54_code, exceptionTable := #[], attributes := #[] }
def k9m2 : Method := { name := "length", desc := "()I", sig := { parameters := [], returnType := some .int }, accessFlags := 1, code := some k9c2 }
def k9c3 : Code := { maxStack := 3, maxLocals := 3, code := jdk_42_method_59_code, exceptionTable := #[], attributes := #[] }
def k9m3 : Method := { name := "codePointCount", desc := "(II)I", sig := { parameters := [.int, .int], returnType := some .int }, accessFlags := 1, code := some k9c3 }
def k9c4 : Code := { maxStack := 4, maxLocals := 1, code := jdk_42_method_139_code, exceptionTable := #[], attributes := #[] }
def k9m4 : Method := { name := "valueOf", desc := "(C)Ljava/lang/String;", sig := { parameters := [.char], returnType := some (.object "java/lang/String") }, accessFlags := 9, code := some k9c4 }
def k9c5 : Code := { maxStack := 4, maxLocals := 6, code := jdk_42_method_149_code, exceptionTable := #[], attributes := #[] }
def k9m5 : Method := { name := "<init>", desc := "([CIILjava/lang/Void;)V", sig := { parameters := [(.array .char), .int, .int, (.object "java/lang/Void")], returnType := none }, accessFlags := 2, code := some k9c5 }
def k9c6 : Code := { maxStack := 2, maxLocals := 3, code := jdk_42_method_151_code, exceptionTable := #[], attributes := #[] }
def k9m6 : Method := { name := "<init>", desc := "([BB)V", sig := { parameters := [(.array .byte), .byte], returnType := none }, accessFlags := 0, code := some k9c6 }
def k9c7 : Code := { maxStack := 1, maxLocals := 1, code := jdk_42_method_152_code, exceptionTable := #[], attributes := #[] }
def k9m7 : Method := { name := "coder", desc := "()B", sig := { parameters := [], returnType := some .byte }, accessFlags := 0, code := some k9c7 }
def k9c8 : Code := { maxStack := 1, maxLocals := 1, code := jdk_42_method_154_code, exceptionTable := #[], attributes := #[] }
def k9m8 : Method := { name := "isLatin1", desc := "()Z", sig := { parameters := [], returnType := some .boolean }, accessFlags := 0, code := some k9c8 }
/-- java/lang/String -/
def k9 : Class := { plain "java/lang/String" (some 0) with
  accessFlags := 49
  interfaces := #[4, 5, 6, 7, 8]
  cf := some (fileOf pool9 10 #[.nestMembers #[1103]] #[{ accessFlags := 1, nameIndex := 5, descriptorIndex := 6, attributes := #[] }, { accessFlags := 1, nameIndex := 5, descriptorIndex := 1010, attributes := #[] }, { accessFlags := 1, nameIndex := 507, descriptorIndex := 334, attributes := #[] }, { accessFlags := 1, nameIndex := 516, descriptorIndex := 636, attributes := #[] }, { accessFlags := 9, nameIndex := 782, descriptorIndex := 783, attributes := #[] }, { accessFlags := 2, nameIndex := 5, descriptorIndex := 29, attributes := #[] }, { accessFlags := 0, nameIndex := 5, descriptorIndex := 211, attributes := #[] }, { accessFlags := 0, nameIndex := 17, descriptorIndex := 337, attributes := #[] }, { accessFlags := 0, nameIndex := 494, descriptorIndex := 142, attributes := #[] }] 49 2 #[1106, 1108, 575, 1110, 1112] #[{ accessFlags := 18, nameIndex := 13, descriptorIndex := 14, attributes := #[] }, { accessFlags := 18, nameIndex := 17, descriptorIndex := 18, attributes := #[] }, { accessFlags := 2, nameIndex := 21, descriptorIndex := 22, attributes := #[] }, { accessFlags := 2, nameIndex := 25, descriptorIndex := 26, attributes := #[] }, { accessFlags := 26, nameIndex := 1116, descriptorIndex := 1117, attributes := #[] }, { accessFlags := 24, nameIndex := 40, descriptorIndex := 26, attributes := #[] }, { accessFlags := 26, nameIndex := 1101, descriptorIndex := 1102, attributes := #[] }, { accessFlags := 26, nameIndex := 1121, descriptorIndex := 1122, attributes := #[] }, { accessFlags := 25, nameIndex := 599, descriptorIndex := 600, attributes := #[] }, { accessFlags := 24, nameIndex := 1125, descriptorIndex := 18, attributes := #[] }, { accessFlags := 24, nameIndex := 1127, descriptorIndex := 18, attributes := #[] }])
  fields := #[{ name := "value", type := (.array .byte), accessFlags := 18, slot := 0, constantValue := 0 }, { name := "coder", type := .byte, accessFlags := 18, slot := 1, constantValue := 0 }, { name := "hash", type := .int, accessFlags := 2, slot := 2, constantValue := 0 }, { name := "hashIsZero", type := .boolean, accessFlags := 2, slot := 3, constantValue := 0 }, { name := "serialVersionUID", type := .long, accessFlags := 26, slot := 0, constantValue := 0 }, { name := "COMPACT_STRINGS", type := .boolean, accessFlags := 24, slot := 1, constantValue := 0 }, { name := "serialPersistentFields", type := (.array (.object "java/io/ObjectStreamField")), accessFlags := 26, slot := 2, constantValue := 0 }, { name := "REPL", type := .char, accessFlags := 26, slot := 3, constantValue := 0 }, { name := "CASE_INSENSITIVE_ORDER", type := (.object "java/util/Comparator"), accessFlags := 25, slot := 4, constantValue := 0 }, { name := "LATIN1", type := .byte, accessFlags := 24, slot := 5, constantValue := 0 }, { name := "UTF16", type := .byte, accessFlags := 24, slot := 6, constantValue := 0 }]
  methods := #[k9m0, k9m1, k9m2, k9m3, k9m4, k9m5, k9m6, k9m7, k9m8]
  instanceTypes := #[(.array .byte), .byte, .int, .boolean]
  staticTypes := #[.long, .boolean, (.array (.object "java/io/ObjectStreamField")), .char, (.object "java/util/Comparator"), .byte, .byte]
  resolved := Array.replicate 1451 none
  statics := some 0 }

def pool10 : Array CpInfo := pool [(6, .class_ 8), (1, u "java/lang/Object"), (0, u "<init>"), (0, u "()V"), (1, .class_ 14), (1, u "java/lang/StringUTF16"), (31, u "$assertionsDisabled"), (0, u "Z"), (13, u "HI_BYTE_SHIFT"), (0, u "I"), (2, u "LO_BYTE_SHIFT"), (49, .methodref 12 116), (0, .nameAndType 117 118), (0, u "compress"), (0, u "([CI[BII)I"), (3, u "([CII)[B"), (138, u "coderFromArrayLen"), (0, u "([BI)B"), (106, .class_ 371), (1, u "java/lang/StringUTF16$LinesSpliterator"), (58, u "MAX_LENGTH"), (196, .class_ 628), (0, u "java/lang/StringUTF16$CodePointsSpliterator"), (0, .class_ 630), (0, u "java/lang/StringUTF16$CharsSpliterator")] 4

def k10m0 : Method := { name := "<init>", desc := "()V", sig := { parameters := [], returnType := none }, accessFlags := 0, code := none }
def k10c1 : Code := { maxStack := 2, maxLocals := 2, code := jdk_52_method_15_code, exceptionTable := #[], attributes := #[] }
def k10m1 : Method := { name := "coderFromArrayLen", desc := "([BI)B", sig := { parameters := [(.array .byte), .int], returnType := some .byte }, accessFlags := 8, code := some k10c1 }
def k10c2 : Code := { maxStack := 5, maxLocals := 6, code := jdk_52_method_16_code, exceptionTable := #[], attributes := #[] }
def k10m2 : Method := { name := "compress", desc := "([CII)[B", sig := { parameters := [(.array .char), .int, .int], returnType := some (.array .byte) }, accessFlags := 9, code := some k10c2 }
def k10c3 : Code := { maxStack := 3, maxLocals := 7, code := jdk_52_method_21_code, exceptionTable := #[], attributes := #[] }
def k10m3 : Method := { name := "compress", desc := "([CI[BII)I", sig := { parameters := [(.array .char), .int, (.array .byte), .int, .int], returnType := some .int }, accessFlags := 9, code := some k10c3 }
/-- java/lang/StringUTF16 -/
def k10 : Class := { plain "java/lang/StringUTF16" (some 0) with
  accessFlags := 48
  interfaces := #[]
  cf := some (fileOf pool10 12 #[.nestMembers #[627, 629, 369]] #[{ accessFlags := 0, nameIndex := 9, descriptorIndex := 10, attributes := #[] }, { accessFlags := 8, nameIndex := 261, descriptorIndex := 262, attributes := #[] }, { accessFlags := 9, nameIndex := 117, descriptorIndex := 122, attributes := #[] }, { accessFlags := 9, nameIndex := 117, descriptorIndex := 118, attributes := #[] }] 48 6 #[] #[{ accessFlags := 26, nameIndex := 61, descriptorIndex := 62, attributes := #[] }, { accessFlags := 26, nameIndex := 65, descriptorIndex := 62, attributes := #[] }, { accessFlags := 24, nameIndex := 430, descriptorIndex := 62, attributes := #[] }, { accessFlags := 4120, nameIndex := 46, descriptorIndex := 47, attributes := #[] }])
  fields := #[{ name := "HI_BYTE_SHIFT", type := .int, accessFlags := 26, slot := 0, constantValue := 0 }, { name := "LO_BYTE_SHIFT", type := .int, accessFlags := 26, slot := 1, constantValue := 0 }, { name := "MAX_LENGTH", type := .int, accessFlags := 24, slot := 2, constantValue := 0 }, { name := "$assertionsDisabled", type := .boolean, accessFlags := 4120, slot := 3, constantValue := 0 }]
  methods := #[k10m0, k10m1, k10m2, k10m3]
  instanceTypes := #[]
  staticTypes := #[.int, .int, .int, .boolean]
  resolved := Array.replicate 635 none
  statics := none }

def pool11 : Array CpInfo := pool [(2, .class_ 4), (1, u "java/lang/Object"), (0, u "<init>"), (0, u "()V"), (35, .class_ 44), (1, u "java/util/Objects"), (61, .class_ 108), (1, u "jdk/internal/util/Preconditions"), (2, .methodref 106 112), (0, .nameAndType 113 114), (0, u "checkFromToIndex"), (0, u "(IIILjava/util/function/BiFunction;)I"), (60, u "(III)I")] 8

def k11m0 : Method := { name := "<init>", desc := "()V", sig := { parameters := [], returnType := none }, accessFlags := 2, code := none }
def k11c1 : Code := { maxStack := 4, maxLocals := 3, code := jdk_31_method_18_code, exceptionTable := #[], attributes := #[] }
def k11m1 : Method := { name := "checkFromToIndex", desc := "(III)I", sig := { parameters := [.int, .int, .int], returnType := some .int }, accessFlags := 9, code := some k11c1 }
/-- java/util/Objects -/
def k11 : Class := { plain "java/util/Objects" (some 0) with
  accessFlags := 49
  interfaces := #[]
  cf := some (fileOf pool11 42 #[] #[{ accessFlags := 2, nameIndex := 5, descriptorIndex := 6, attributes := #[] }, { accessFlags := 9, nameIndex := 113, descriptorIndex := 175, attributes := #[] }] 49 2 #[] #[])
  fields := #[]
  methods := #[k11m0, k11m1]
  instanceTypes := #[]
  staticTypes := #[]
  resolved := Array.replicate 184 none
  statics := none }

def pool12 : Array CpInfo := pool [(2, .class_ 4), (1, u "java/lang/Object"), (0, u "<init>"), (0, u "()V"), (17, .class_ 26), (1, u "jdk/internal/util/Preconditions"), (20, u "checkFromToIndex"), (7, .class_ 56), (0, u "jdk/internal/util/Preconditions$4"), (57, .class_ 115), (0, u "jdk/internal/util/Preconditions$1"), (7, u "SIOOBE_FORMATTER"), (0, u "Ljava/util/function/BiFunction;"), (0, .class_ 126), (0, u "jdk/internal/util/Preconditions$2"), (3, u "AIOOBE_FORMATTER"), (0, .class_ 132), (0, u "jdk/internal/util/Preconditions$3"), (3, u "IOOBE_FORMATTER"), (46, u "(IIILjava/util/function/BiFunction;)I")] 10

def k12m0 : Method := { name := "<init>", desc := "()V", sig := { parameters := [], returnType := none }, accessFlags := 1, code := none }
def k12c1 : Code := { maxStack := 4, maxLocals := 4, code := jdk_41_method_12_code, exceptionTable := #[], attributes := #[] }
def k12m1 : Method := { name := "checkFromToIndex", desc := "(IIILjava/util/function/BiFunction;)I", sig := { parameters := [.int, .int, .int, (.object "java/util/function/BiFunction")], returnType := some .int }, accessFlags := 9, code := some k12c1 }
/-- jdk/internal/util/Preconditions -/
def k12 : Class := { plain "jdk/internal/util/Preconditions" (some 0) with
  accessFlags := 33
  interfaces := #[]
  cf := some (fileOf pool12 24 #[.nestMembers #[55, 131, 125, 114]] #[{ accessFlags := 1, nameIndex := 5, descriptorIndex := 6, attributes := #[] }, { accessFlags := 9, nameIndex := 47, descriptorIndex := 183, attributes := #[] }] 33 2 #[] #[{ accessFlags := 25, nameIndex := 123, descriptorIndex := 124, attributes := #[] }, { accessFlags := 25, nameIndex := 130, descriptorIndex := 124, attributes := #[] }, { accessFlags := 25, nameIndex := 136, descriptorIndex := 124, attributes := #[] }])
  fields := #[{ name := "SIOOBE_FORMATTER", type := (.object "java/util/function/BiFunction"), accessFlags := 25, slot := 0, constantValue := 0 }, { name := "AIOOBE_FORMATTER", type := (.object "java/util/function/BiFunction"), accessFlags := 25, slot := 1, constantValue := 0 }, { name := "IOOBE_FORMATTER", type := (.object "java/util/function/BiFunction"), accessFlags := 25, slot := 2, constantValue := 0 }]
  methods := #[k12m0, k12m1]
  instanceTypes := #[]
  staticTypes := #[(.object "java/util/function/BiFunction"), (.object "java/util/function/BiFunction"), (.object "java/util/function/BiFunction")]
  resolved := Array.replicate 194 none
  statics := some 1 }

def pool13 : Array CpInfo := pool [(4, .class_ 6), (1, u "java/lang/Object"), (0, u "<init>"), (0, u "()V"), (5, .class_ 16), (1, u "java/lang/StringLatin1"), (73, u "canEncode"), (14, u "(C)Z"), (15, u "$assertionsDisabled"), (0, u "Z"), (98, .class_ 223), (1, u "java/lang/StringLatin1$LinesSpliterator"), (156, u "toBytes"), (1, u "(C)[B"), (7, .class_ 391), (0, u "java/lang/StringLatin1$CharsSpliterator")] 3

def k13m0 : Method := { name := "<init>", desc := "()V", sig := { parameters := [], returnType := none }, accessFlags := 0, code := none }
def k13c1 : Code := { maxStack := 2, maxLocals := 1, code := jdk_43_method_3_code, exceptionTable := #[], attributes := #[] }
def k13m1 : Method := { name := "canEncode", desc := "(C)Z", sig := { parameters := [.char], returnType := some .boolean }, accessFlags := 9, code := some k13c1 }
def k13c2 : Code := { maxStack := 4, maxLocals := 1, code := jdk_43_method_46_code, exceptionTable := #[], attributes := #[] }
def k13m2 : Method := { name := "toBytes", desc := "(C)[B", sig := { parameters := [.char], returnType := some (.array .byte) }, accessFlags := 9, code := some k13c2 }
/-- java/lang/StringLatin1 -/
def k13 : Class := { plain "java/lang/StringLatin1" (some 0) with
  accessFlags := 48
  interfaces := #[]
  cf := some (fileOf pool13 14 #[.nestMembers #[390, 221]] #[{ accessFlags := 0, nameIndex := 7, descriptorIndex := 8, attributes := #[] }, { accessFlags := 9, nameIndex := 90, descriptorIndex := 105, attributes := #[] }, { accessFlags := 9, nameIndex := 380, descriptorIndex := 382, attributes := #[] }] 48 4 #[] #[{ accessFlags := 4120, nameIndex := 121, descriptorIndex := 122, attributes := #[] }])
  fields := #[{ name := "$assertionsDisabled", type := .boolean, accessFlags := 4120, slot := 0, constantValue := 0 }]
  methods := #[k13m0, k13m1, k13m2]
  instanceTypes := #[]
  staticTypes := #[.boolean]
  resolved := Array.replicate 395 none
  statics := none }

def pool14 : Array CpInfo := pool [(9, u "<init>"), (6, .class_ 18), (1, u "java/lang/Object"), (0, u "()V"), (1, .class_ 23), (1, u "jdk/internal/util/ArraysSupport"), (0, u "LOG2_ARRAY_LONG_INDEX_SCALE"), (0, u "I"), (2, u "U"), (0, u "Ljdk/internal/misc/Unsafe;"), (8, u "BIG_ENDIAN"), (0, u "Z"), (8, u "LOG2_BYTE_BIT_SIZE"), (4, u "LOG2_ARRAY_INT_INDEX_SCALE"), (54, u "JLA"), (0, u "Ljdk/internal/access/JavaLangAccess;"), (11, u "LOG2_ARRAY_BOOLEAN_INDEX_SCALE"), (9, u "LOG2_ARRAY_BYTE_INDEX_SCALE"), (5, u "LOG2_ARRAY_CHAR_INDEX_SCALE"), (5, u "LOG2_ARRAY_SHORT_INDEX_SCALE"), (18, u "LOG2_ARRAY_FLOAT_INDEX_SCALE"), (24, u "LOG2_ARRAY_DOUBLE_INDEX_SCALE"), (89, u "T_BOOLEAN"), (2, u "T_CHAR"), (1, u "T_FLOAT"), (1, u "T_DOUBLE"), (1, u "T_BYTE"), (1, u "T_SHORT"), (1, u "T_INT"), (1, u "T_LONG"), (1, u "SOFT_MAX_ARRAY_LENGTH")] 83

def k14m0 : Method := { name := "<init>", desc := "()V", sig := { parameters := [], returnType := none }, accessFlags := 2, code := none }
/-- jdk/internal/util/ArraysSupport -/
def k14 : Class := { plain "jdk/internal/util/ArraysSupport" (some 0) with
  accessFlags := 33
  interfaces := #[]
  cf := some (fileOf pool14 21 #[] #[{ accessFlags := 2, nameIndex := 9, descriptorIndex := 19, attributes := #[] }] 33 16 #[] #[{ accessFlags := 24, nameIndex := 28, descriptorIndex := 29, attributes := #[] }, { accessFlags := 26, nameIndex := 38, descriptorIndex := 39, attributes := #[] }, { accessFlags := 25, nameIndex := 121, descriptorIndex := 25, attributes := #[] }, { accessFlags := 25, nameIndex := 131, descriptorIndex := 25, attributes := #[] }, { accessFlags := 25, nameIndex := 137, descriptorIndex := 25, attributes := #[] }, { accessFlags := 25, nameIndex := 143, descriptorIndex := 25, attributes := #[] }, { accessFlags := 25, nameIndex := 53, descriptorIndex := 25, attributes := #[] }, { accessFlags := 25, nameIndex := 24, descriptorIndex := 25, attributes := #[] }, { accessFlags := 25, nameIndex := 162, descriptorIndex := 25, attributes := #[] }, { accessFlags := 25, nameIndex := 187, descriptorIndex := 25, attributes := #[] }, { accessFlags := 26, nameIndex := 48, descriptorIndex := 25, attributes := #[] }, { accessFlags := 25, nameIndex := 277, descriptorIndex := 25, attributes := #[] }, { accessFlags := 25, nameIndex := 280, descriptorIndex := 25, attributes := #[] }, { accessFlags := 25, nameIndex := 282, descriptorIndex := 25, attributes := #[] }, { accessFlags := 25, nameIndex := 284, descriptorIndex := 25, attributes := #[] }, { accessFlags := 25, nameIndex := 286, descriptorIndex := 25, attributes := #[] }, { accessFlags := 25, nameIndex := 288, descriptorIndex := 25, attributes := #[] }, { accessFlags := 25, nameIndex := 290, descriptorIndex := 25, attributes := #[] }, { accessFlags := 25, nameIndex := 292, descriptorIndex := 25, attributes := #[] }, { accessFlags := 26, nameIndex := 108, descriptorIndex := 109, attributes := #[] }, { accessFlags := 25, nameIndex := 294, descriptorIndex := 25, attributes := #[] }])
  fields := #[{ name := "U", type := (.object "jdk/internal/misc/Unsafe"), accessFlags := 24, slot := 0, constantValue := 0 }, { name := "BIG_ENDIAN", type := .boolean, accessFlags := 26, slot := 1, constantValue := 0 }, { name := "LOG2_ARRAY_BOOLEAN_INDEX_SCALE", type := .int, accessFlags := 25, slot := 2, constantValue := 0 }, { name := "LOG2_ARRAY_BYTE_INDEX_SCALE", type := .int, accessFlags := 25, slot := 3, constantValue := 0 }, { name := "LOG2_ARRAY_CHAR_INDEX_SCALE", type := .int, accessFlags := 25, slot := 4, constantValue := 0 }, { name := "LOG2_ARRAY_SHORT_INDEX_SCALE", type := .int, accessFlags := 25, slot := 5, constantValue := 0 }, { name := "LOG2_ARRAY_INT_INDEX_SCALE", type := .int, accessFlags := 25, slot := 6, constantValue := 0 }, { name := "LOG2_ARRAY_LONG_INDEX_SCALE", type := .int, accessFlags := 25, slot := 7, constantValue := 0 }, { name := "LOG2_ARRAY_FLOAT_INDEX_SCALE", type := .int, accessFlags := 25, slot := 8, constantValue := 0 }, { name := "LOG2_ARRAY_DOUBLE_INDEX_SCALE", type := .int, accessFlags := 25, slot := 9, constantValue := 0 }, { name := "LOG2_BYTE_BIT_SIZE", type := .int, accessFlags := 26, slot := 10, constantValue := 0 }, { name := "T_BOOLEAN", type := .int, accessFlags := 25, slot := 11, constantValue := 0 }, { name := "T_CHAR", type := .int, accessFlags := 25, slot := 12, constantValue := 0 }, { name := "T_FLOAT", type := .int, accessFlags := 25, slot := 13, constantValue := 0 }, { name := "T_DOUBLE", type := .int, accessFlags := 25, slot := 14, constantValue := 0 }, { name := "T_BYTE", type := .int, accessFlags := 25, slot := 15, constantValue := 0 }, { name := "T_SHORT", type := .int, accessFlags := 25, slot := 16, constantValue := 0 }, { name := "T_INT", type := .int, accessFlags := 25, slot := 17, constantValue := 0 }, { name := "T_LONG", type := .int, accessFlags := 25, slot := 18, constantValue := 0 }, { name := "JLA", type := (.object "jdk/internal/access/JavaLangAccess"), accessFlags := 26, slot := 19, constantValue := 0 }, { name := "SOFT_MAX_ARRAY_LENGTH", type := .int, accessFlags := 25, slot := 20, constantValue := 0 }]
  methods := #[k14m0]
  instanceTypes := #[]
  staticTypes := #[(.object "jdk/internal/misc/Unsafe"), .boolean, .int, .int, .int, .int, .int, .int, .int, .int, .int, .int, .int, .int, .int, .int, .int, .int, .int, (.object "jdk/internal/access/JavaLangAccess"), .int]
  resolved := Array.replicate 378 none
  statics := none }

def pool15 : Array CpInfo := pool [(1, u "java/lang/Cloneable"), (0, .class_ 1), (0, u "java/lang/Object"), (0, .class_ 3)] 3

/-- java/lang/Cloneable -/
def k15 : Class := { plain "java/lang/Cloneable" (some 0) with
  accessFlags := 1537
  interfaces := #[]
  cf := some (fileOf pool15 2 #[] #[] 1537 4 #[] #[])
  fields := #[]
  methods := #[]
  instanceTypes := #[]
  staticTypes := #[]
  resolved := Array.replicate 8 none
  statics := none }

/-- the primitive byte -/
def k16 : Class := { plain "byte" none with kind := .primitive 'B', accessFlags := 0x411 }
/-- [B -/
def k17 : Class := { plain "[B" (some 0) with kind := .array 16 .byte, interfaces := #[15, 4], accessFlags := 1041 }

/-- the primitive char -/
def k18 : Class := { plain "char" none with kind := .primitive 'C', accessFlags := 0x411 }
/-- [C -/
def k19 : Class := { plain "[C" (some 0) with kind := .array 18 .char, interfaces := #[15, 4], accessFlags := 1041 }

/-- the primitive int -/
def k20 : Class := { plain "int" none with kind := .primitive 'I', accessFlags := 0x411 }
/-- [I -/
def k21 : Class := { plain "[I" (some 0) with kind := .array 20 .int, interfaces := #[15, 4], accessFlags := 1041 }

def heap : Heap := #[{ cls := 9, slots := #[.long 0, .int 1, .null, .int 0, .null, .int 0, .int 0], vm := .statics 9 },
  { cls := 12, slots := #[.null, .null, .null], vm := .statics 12 }]
def classes : Array Class := #[k0, k1, k2, k3, k4, k5, k6, k7, k8, k9, k10, k11, k12, k13, k14, k15, k16, k17, k18, k19, k20, k21]
def interned : List (Array UInt16 × Addr) := []
def slotsUsed : Nat := 10
def theMethod : MethodId := ⟨1, 2⟩
def args0 : Array Value := #[.int 1, .int 2, .int 3, .int 4]
def aboutOver (below : List Frame) : State where
  vm := { classes := classes, interned := interned.toArray }
  heap := heap
  slotsUsed := slotsUsed
  threads := #[{ frames := .invoking theMethod args0 :: below }]
def below0 : List Frame := [.native { method := ⟨0, 0⟩, args := #[] }]
def about1 : State := aboutOver below0
def p0 : Program := .bare "" "" ""
def e0 : Env := launch0.env 0 0 0
theorem w_frames : about1.frames = Frame.invoking theMethod args0 :: below0 := rfl
set_option maxRecDepth 65536 in
theorem w_args : argsFit about1.vm theMethod args0 = true := by decide +kernel
set_option maxRecDepth 65536 in
theorem w_heap : heapFits about1 = true := by decide +kernel
set_option maxRecDepth 65536 in
theorem w_runnable : about1.curStatus? = some .runnable := by decide +kernel
set_option maxRecDepth 65536 in
theorem w_alone : about1.alone = true := by decide +kernel
set_option maxRecDepth 65536 in
theorem w_named : about1.methodNamed? x = some theMethod := by decide +kernel
set_option maxRecDepth 65536 in
theorem w_hears : about1.hears theMethod below0 = true := by decide +kernel
set_option maxRecDepth 65536 in
theorem w_ripe : about1.ripe theMethod args0 below0 = true := by decide +kernel
theorem w_running : about1.status = .running := rfl
set_option maxRecDepth 65536 in
theorem w_room : about1.hasRoom e0.platform room_1 = true :=
  launch0.hasRoom_least _ room_1 (by decide +kernel) (by decide +kernel) (by decide +kernel) (by decide +kernel) (by decide +kernel) (by decide +kernel)
theorem allAtoms_all (ts : List Jvm.Cond) (a : Array Jvm.Value) (st : Jvm.State) : (allAtoms ts).before a st = ts.all (fun c => c.before a st) := by
  induction ts with
  | nil => rfl
  | cons c t ih =>
    show (Jvm.Cond.and c (allAtoms t)).before a st = _
    rw [Jvm.Cond.before_and, ih, List.all_cons]
def words1 : List Jvm.Cond := Jvm.Cond.code x code maxLocals ret :: tables_1
/-- a 'code' word, met by the world's own term for the bytes: nothing is compared byte by byte -/
theorem code_word {y : MethodName} {bytes : ByteArray} {mx : Nat} {rt : Option FieldType} {a : Array Value} {s : State} {m : MethodId} {meth : Method} {c : Code} (h1 : s.methodNamed? y = some m) (h2 : s.vm.method? m = some meth) (h3 : meth.code = some c) (h4 : c.code = bytes)
    (h5 : (c.maxLocals == mx && c.exceptionTable.isEmpty && decide (c.maxStack ≤ mostOperands) && decide (meth.sig.returnType = rt) && !meth.locks && decide (parseMethodDescriptor y.desc = some meth.sig)) = true) : (Jvm.Cond.code y bytes mx rt).before a s = true := by
  simp only [Bool.and_eq_true, beq_iff_eq, Bool.not_eq_true', decide_eq_true_eq] at h5
  obtain ⟨⟨⟨⟨⟨g1, g2⟩, g3⟩, g4⟩, g5⟩, g6⟩ := h5
  simp [Cond.before, Cond.holds, Cond.value, h1, h2, h3, h4, g1, g2, g3, g4, g5, g6]
def isCode : Jvm.Cond → Bool
  | .code _ _ _ _ => true
  | _ => false
theorem all_split {L : List Jvm.Cond} {P : Jvm.Cond → Bool} (h1 : L.all (fun c => isCode c || P c) = true) (h2 : ∀ c ∈ L.filter isCode, P c = true) : L.all P = true := by
  refine List.all_eq_true.mpr fun c hc => ?_
  have h := List.all_eq_true.mp h1 c hc
  rcases Bool.eq_false_or_eq_true (isCode c) with hi | hi
  · exact h2 c (List.mem_filter.mpr ⟨hc, hi⟩)
  · simpa [hi] using h
set_option maxRecDepth 65536 in
theorem w_c0 : (Jvm.Cond.code x code maxLocals ret).before args0 about1 = true := code_word (m := ⟨1, 2⟩) (meth := k1m2) (c := k1c2) (by decide +kernel) rfl rfl rfl (by decide +kernel)
set_option maxRecDepth 65536 in
theorem w_c1 : (Jvm.Cond.code ({ cls := "com/example/scopa/scopa/audit/AttributionIsEmptyPinLaw", name := "make", desc := "(II)Ljava/lang/String;" } : Jvm.MethodName) method_2_code (6 : Nat) (Option.some (Jvm.ClassFile.FieldType.object "java/lang/String"))).before args0 about1 = true := code_word (m := ⟨1, 1⟩) (meth := k1m1) (c := k1c1) (by decide +kernel) rfl rfl rfl (by decide +kernel)
set_option maxRecDepth 65536 in
theorem w_c2 : (Jvm.Cond.code ({ cls := "com/example/scopa/scopa/audit/Attribution", name := "<init>", desc := "(Ljava/lang/String;Ljava/lang/String;Ljava/lang/String;)V" } : Jvm.MethodName) prog_1_method_1_code (5 : Nat) (Option.none : Option Jvm.ClassFile.FieldType)).before args0 about1 = true := code_word (m := ⟨3, 0⟩) (meth := k3m0) (c := k3c0) (by decide +kernel) rfl rfl rfl (by decide +kernel)
set_option maxRecDepth 65536 in
theorem w_c3 : (Jvm.Cond.code ({ cls := "java/lang/Record", name := "<init>", desc := "()V" } : Jvm.MethodName) jdk_30_method_1_code (1 : Nat) (Option.none : Option Jvm.ClassFile.FieldType)).before args0 about1 = true := code_word (m := ⟨2, 0⟩) (meth := k2m0) (c := k2c0) (by decide +kernel) rfl rfl rfl (by decide +kernel)
set_option maxRecDepth 65536 in
theorem w_c4 : (Jvm.Cond.code ({ cls := "java/lang/Object", name := "<init>", desc := "()V" } : Jvm.MethodName) object_method_1_code (1 : Nat) (Option.none : Option Jvm.ClassFile.FieldType)).before args0 about1 = true := code_word (m := ⟨0, 0⟩) (meth := k0m0) (c := k0c0) (by decide +kernel) rfl rfl rfl (by decide +kernel)
set_option maxRecDepth 65536 in
theorem w_c5 : (Jvm.Cond.code ({ cls := "com/example/scopa/scopa/audit/Attribution", name := "isEmpty", desc := "()Z" } : Jvm.MethodName) prog_1_method_2_code (1 : Nat) (Option.some Jvm.ClassFile.FieldType.boolean)).before args0 about1 = true := code_word (m := ⟨3, 1⟩) (meth := k3m1) (c := k3c1) (by decide +kernel) rfl rfl rfl (by decide +kernel)
set_option maxRecDepth 65536 in
theorem w_c6 : (Jvm.Cond.code ({ cls := "java/lang/String", name := "<init>", desc := "([C)V" } : Jvm.MethodName) jdk_42_method_3_code (2 : Nat) (Option.none : Option Jvm.ClassFile.FieldType)).before args0 about1 = true := code_word (m := ⟨9, 1⟩) (meth := k9m1) (c := k9c1) (by decide +kernel) rfl rfl rfl (by decide +kernel)
set_option maxRecDepth 65536 in
theorem w_c7 : (Jvm.Cond.code ({ cls := "java/lang/String", name := "<init>", desc := "([CIILjava/lang/Void;)V" } : Jvm.MethodName) jdk_42_method_149_code (6 : Nat) (Option.none : Option Jvm.ClassFile.FieldType)).before args0 about1 = true := code_word (m := ⟨9, 5⟩) (meth := k9m5) (c := k9c5) (by decide +kernel) rfl rfl rfl (by decide +kernel)
set_option maxRecDepth 65536 in
theorem w_c8 : (Jvm.Cond.code ({ cls := "java/lang/StringUTF16", name := "compress", desc := "([CII)[B" } : Jvm.MethodName) jdk_52_method_16_code (6 : Nat) (Option.some (Jvm.ClassFile.FieldType.array Jvm.ClassFile.FieldType.byte))).before args0 about1 = true := code_word (m := ⟨10, 2⟩) (meth := k10m2) (c := k10c2) (by decide +kernel) rfl rfl rfl (by decide +kernel)
set_option maxRecDepth 65536 in
theorem w_c9 : (Jvm.Cond.code ({ cls := "java/lang/StringUTF16", name := "compress", desc := "([CI[BII)I" } : Jvm.MethodName) jdk_52_method_21_code (7 : Nat) (Option.some Jvm.ClassFile.FieldType.int)).before args0 about1 = true := code_word (m := ⟨10, 3⟩) (meth := k10m3) (c := k10c3) (by decide +kernel) rfl rfl rfl (by decide +kernel)
set_option maxRecDepth 65536 in
theorem w_c10 : (Jvm.Cond.code ({ cls := "java/lang/StringUTF16", name := "coderFromArrayLen", desc := "([BI)B" } : Jvm.MethodName) jdk_52_method_15_code (2 : Nat) (Option.some Jvm.ClassFile.FieldType.byte)).before args0 about1 = true := code_word (m := ⟨10, 1⟩) (meth := k10m1) (c := k10c1) (by decide +kernel) rfl rfl rfl (by decide +kernel)
set_option maxRecDepth 65536 in
theorem w_c11 : (Jvm.Cond.code ({ cls := "java/lang/String", name := "length", desc := "()I" } : Jvm.MethodName) jdk_42_method_54_code (1 : Nat) (Option.some Jvm.ClassFile.FieldType.int)).before args0 about1 = true := code_word (m := ⟨9, 2⟩) (meth := k9m2) (c := k9c2) (by decide +kernel) rfl rfl rfl (by decide +kernel)
set_option maxRecDepth 65536 in
theorem w_c12 : (Jvm.Cond.code ({ cls := "java/lang/String", name := "coder", desc := "()B" } : Jvm.MethodName) jdk_42_method_152_code (1 : Nat) (Option.some Jvm.ClassFile.FieldType.byte)).before args0 about1 = true := code_word (m := ⟨9, 7⟩) (meth := k9m7) (c := k9c7) (by decide +kernel) rfl rfl rfl (by decide +kernel)
set_option maxRecDepth 65536 in
theorem w_c13 : (Jvm.Cond.code ({ cls := "java/lang/String", name := "codePointCount", desc := "(II)I" } : Jvm.MethodName) jdk_42_method_59_code (3 : Nat) (Option.some Jvm.ClassFile.FieldType.int)).before args0 about1 = true := code_word (m := ⟨9, 3⟩) (meth := k9m3) (c := k9c3) (by decide +kernel) rfl rfl rfl (by decide +kernel)
set_option maxRecDepth 65536 in
theorem w_c14 : (Jvm.Cond.code ({ cls := "java/util/Objects", name := "checkFromToIndex", desc := "(III)I" } : Jvm.MethodName) jdk_31_method_18_code (3 : Nat) (Option.some Jvm.ClassFile.FieldType.int)).before args0 about1 = true := code_word (m := ⟨11, 1⟩) (meth := k11m1) (c := k11c1) (by decide +kernel) rfl rfl rfl (by decide +kernel)
set_option maxRecDepth 65536 in
theorem w_c15 : (Jvm.Cond.code ({ cls := "jdk/internal/util/Preconditions", name := "checkFromToIndex", desc := "(IIILjava/util/function/BiFunction;)I" } : Jvm.MethodName) jdk_41_method_12_code (4 : Nat) (Option.some Jvm.ClassFile.FieldType.int)).before args0 about1 = true := code_word (m := ⟨12, 1⟩) (meth := k12m1) (c := k12c1) (by decide +kernel) rfl rfl rfl (by decide +kernel)
set_option maxRecDepth 65536 in
theorem w_c16 : (Jvm.Cond.code ({ cls := "java/lang/String", name := "isLatin1", desc := "()Z" } : Jvm.MethodName) jdk_42_method_154_code (1 : Nat) (Option.some Jvm.ClassFile.FieldType.boolean)).before args0 about1 = true := code_word (m := ⟨9, 8⟩) (meth := k9m8) (c := k9c8) (by decide +kernel) rfl rfl rfl (by decide +kernel)
set_option maxRecDepth 65536 in
theorem w_c17 : (Jvm.Cond.code ({ cls := "java/lang/String", name := "valueOf", desc := "(C)Ljava/lang/String;" } : Jvm.MethodName) jdk_42_method_139_code (1 : Nat) (Option.some (Jvm.ClassFile.FieldType.object "java/lang/String"))).before args0 about1 = true := code_word (m := ⟨9, 4⟩) (meth := k9m4) (c := k9c4) (by decide +kernel) rfl rfl rfl (by decide +kernel)
set_option maxRecDepth 65536 in
theorem w_c18 : (Jvm.Cond.code ({ cls := "java/lang/StringLatin1", name := "canEncode", desc := "(C)Z" } : Jvm.MethodName) jdk_43_method_3_code (1 : Nat) (Option.some Jvm.ClassFile.FieldType.boolean)).before args0 about1 = true := code_word (m := ⟨13, 1⟩) (meth := k13m1) (c := k13c1) (by decide +kernel) rfl rfl rfl (by decide +kernel)
set_option maxRecDepth 65536 in
theorem w_c19 : (Jvm.Cond.code ({ cls := "java/lang/StringLatin1", name := "toBytes", desc := "(C)[B" } : Jvm.MethodName) jdk_43_method_46_code (1 : Nat) (Option.some (Jvm.ClassFile.FieldType.array Jvm.ClassFile.FieldType.byte))).before args0 about1 = true := code_word (m := ⟨13, 2⟩) (meth := k13m2) (c := k13c2) (by decide +kernel) rfl rfl rfl (by decide +kernel)
set_option maxRecDepth 65536 in
theorem w_c20 : (Jvm.Cond.code ({ cls := "java/lang/String", name := "<init>", desc := "([BB)V" } : Jvm.MethodName) jdk_42_method_151_code (3 : Nat) (Option.none : Option Jvm.ClassFile.FieldType)).before args0 about1 = true := code_word (m := ⟨9, 6⟩) (meth := k9m6) (c := k9c6) (by decide +kernel) rfl rfl rfl (by decide +kernel)
def codes1 : List Jvm.Cond := [Jvm.Cond.code x code maxLocals ret, Jvm.Cond.code ({ cls := "com/example/scopa/scopa/audit/AttributionIsEmptyPinLaw", name := "make", desc := "(II)Ljava/lang/String;" } : Jvm.MethodName) method_2_code (6 : Nat) (Option.some (Jvm.ClassFile.FieldType.object "java/lang/String")), Jvm.Cond.code ({ cls := "com/example/scopa/scopa/audit/Attribution", name := "<init>", desc := "(Ljava/lang/String;Ljava/lang/String;Ljava/lang/String;)V" } : Jvm.MethodName) prog_1_method_1_code (5 : Nat) (Option.none : Option Jvm.ClassFile.FieldType), Jvm.Cond.code ({ cls := "java/lang/Record", name := "<init>", desc := "()V" } : Jvm.MethodName) jdk_30_method_1_code (1 : Nat) (Option.none : Option Jvm.ClassFile.FieldType), Jvm.Cond.code ({ cls := "java/lang/Object", name := "<init>", desc := "()V" } : Jvm.MethodName) object_method_1_code (1 : Nat) (Option.none : Option Jvm.ClassFile.FieldType), Jvm.Cond.code ({ cls := "com/example/scopa/scopa/audit/Attribution", name := "isEmpty", desc := "()Z" } : Jvm.MethodName) prog_1_method_2_code (1 : Nat) (Option.some Jvm.ClassFile.FieldType.boolean), Jvm.Cond.code ({ cls := "java/lang/String", name := "<init>", desc := "([C)V" } : Jvm.MethodName) jdk_42_method_3_code (2 : Nat) (Option.none : Option Jvm.ClassFile.FieldType), Jvm.Cond.code ({ cls := "java/lang/String", name := "<init>", desc := "([CIILjava/lang/Void;)V" } : Jvm.MethodName) jdk_42_method_149_code (6 : Nat) (Option.none : Option Jvm.ClassFile.FieldType), Jvm.Cond.code ({ cls := "java/lang/StringUTF16", name := "compress", desc := "([CII)[B" } : Jvm.MethodName) jdk_52_method_16_code (6 : Nat) (Option.some (Jvm.ClassFile.FieldType.array Jvm.ClassFile.FieldType.byte)), Jvm.Cond.code ({ cls := "java/lang/StringUTF16", name := "compress", desc := "([CI[BII)I" } : Jvm.MethodName) jdk_52_method_21_code (7 : Nat) (Option.some Jvm.ClassFile.FieldType.int), Jvm.Cond.code ({ cls := "java/lang/StringUTF16", name := "coderFromArrayLen", desc := "([BI)B" } : Jvm.MethodName) jdk_52_method_15_code (2 : Nat) (Option.some Jvm.ClassFile.FieldType.byte), Jvm.Cond.code ({ cls := "java/lang/String", name := "length", desc := "()I" } : Jvm.MethodName) jdk_42_method_54_code (1 : Nat) (Option.some Jvm.ClassFile.FieldType.int), Jvm.Cond.code ({ cls := "java/lang/String", name := "coder", desc := "()B" } : Jvm.MethodName) jdk_42_method_152_code (1 : Nat) (Option.some Jvm.ClassFile.FieldType.byte), Jvm.Cond.code ({ cls := "java/lang/String", name := "codePointCount", desc := "(II)I" } : Jvm.MethodName) jdk_42_method_59_code (3 : Nat) (Option.some Jvm.ClassFile.FieldType.int), Jvm.Cond.code ({ cls := "java/util/Objects", name := "checkFromToIndex", desc := "(III)I" } : Jvm.MethodName) jdk_31_method_18_code (3 : Nat) (Option.some Jvm.ClassFile.FieldType.int), Jvm.Cond.code ({ cls := "jdk/internal/util/Preconditions", name := "checkFromToIndex", desc := "(IIILjava/util/function/BiFunction;)I" } : Jvm.MethodName) jdk_41_method_12_code (4 : Nat) (Option.some Jvm.ClassFile.FieldType.int), Jvm.Cond.code ({ cls := "java/lang/String", name := "isLatin1", desc := "()Z" } : Jvm.MethodName) jdk_42_method_154_code (1 : Nat) (Option.some Jvm.ClassFile.FieldType.boolean), Jvm.Cond.code ({ cls := "java/lang/String", name := "valueOf", desc := "(C)Ljava/lang/String;" } : Jvm.MethodName) jdk_42_method_139_code (1 : Nat) (Option.some (Jvm.ClassFile.FieldType.object "java/lang/String")), Jvm.Cond.code ({ cls := "java/lang/StringLatin1", name := "canEncode", desc := "(C)Z" } : Jvm.MethodName) jdk_43_method_3_code (1 : Nat) (Option.some Jvm.ClassFile.FieldType.boolean), Jvm.Cond.code ({ cls := "java/lang/StringLatin1", name := "toBytes", desc := "(C)[B" } : Jvm.MethodName) jdk_43_method_46_code (1 : Nat) (Option.some (Jvm.ClassFile.FieldType.array Jvm.ClassFile.FieldType.byte)), Jvm.Cond.code ({ cls := "java/lang/String", name := "<init>", desc := "([BB)V" } : Jvm.MethodName) jdk_42_method_151_code (3 : Nat) (Option.none : Option Jvm.ClassFile.FieldType)]
set_option maxRecDepth 65536 in
theorem codes_eq : words1.filter isCode = codes1 := rfl
theorem w_codes : ∀ c ∈ words1.filter isCode, c.before args0 about1 = true := by
  rw [codes_eq]
  intro c hc
  simp only [codes1, List.mem_cons, List.not_mem_nil, or_false] at hc
  rcases hc with rfl | rfl | rfl | rfl | rfl | rfl | rfl | rfl | rfl | rfl | rfl | rfl | rfl | rfl | rfl | rfl | rfl | rfl | rfl | rfl | rfl
  · exact w_c0
  · exact w_c1
  · exact w_c2
  · exact w_c3
  · exact w_c4
  · exact w_c5
  · exact w_c6
  · exact w_c7
  · exact w_c8
  · exact w_c9
  · exact w_c10
  · exact w_c11
  · exact w_c12
  · exact w_c13
  · exact w_c14
  · exact w_c15
  · exact w_c16
  · exact w_c17
  · exact w_c18
  · exact w_c19
  · exact w_c20
set_option maxRecDepth 65536 in
theorem w_t1 : (words1.take 24).all (fun c => isCode c || c.before args0 about1) = true := by decide +kernel
set_option maxRecDepth 65536 in
theorem w_t2 : ((words1.drop 24).take 24).all (fun c => isCode c || c.before args0 about1) = true := by decide +kernel
set_option maxRecDepth 65536 in
theorem w_t3 : (((words1.drop 24).drop 24).take 24).all (fun c => isCode c || c.before args0 about1) = true := by decide +kernel
set_option maxRecDepth 65536 in
theorem w_t4 : ((((words1.drop 24).drop 24).drop 24).take 24).all (fun c => isCode c || c.before args0 about1) = true := by decide +kernel
set_option maxRecDepth 65536 in
theorem w_t5 : ((((words1.drop 24).drop 24).drop 24).drop 24).all (fun c => isCode c || c.before args0 about1) = true := by decide +kernel
theorem w_tables : (allAtoms (Jvm.Cond.code x code maxLocals ret :: tables_1)).before args0 about1 = true := by
  rw [allAtoms_all]
  show words1.all (fun c => c.before args0 about1) = true
  refine all_split ?_ w_codes
  rw [← List.take_append_drop 24 words1, List.all_append, w_t1, ← List.take_append_drop 24 (words1.drop 24), List.all_append, w_t2, ← List.take_append_drop 24 ((words1.drop 24).drop 24), List.all_append, w_t3, ← List.take_append_drop 24 (((words1.drop 24).drop 24).drop 24), List.all_append, w_t4, w_t5]
  rfl
set_option maxRecDepth 65536 in
theorem w_rest : rest_1_c.before args0 about1 = true := by decide +kernel
set_option maxRecDepth 65536 in
theorem w_case : (Jvm.Cond.and given_1 narrow_1).before args0 about1 = true := by decide +kernel
set_option maxRecDepth 65536 in
theorem w_consts : constsHeld consts_1 about1 := Jvm.Lit.constsHeldB_iff.mp (by decide +kernel)
theorem w_applies : (headSpec (Jvm.Cond.code x code maxLocals ret :: tables_1) room_1).applies x e0.platform about1 = true :=
  (Spec.applies_iff w_frames).mpr ⟨w_running, w_runnable, w_alone, w_named, w_hears, w_ripe, w_room, w_tables⟩
theorem atStart : AtStart classFile x code maxLocals ret World_1 tables_1 room_1 Calls_1 rest_1 Pre_1 launch0 p0 e0 about1 theMethod args0 below0 :=
  ⟨lists_1, trivial, launch0.admits_env _ _ _, launch0.least_env, fairChoices_fair.cas, fairChoices_fair.clock, w_frames, w_args, w_heap, w_applies, ⟨w_consts, trivial⟩, w_rest, w_case⟩
end start1
theorem witness_1 : WitnessClaimed_1 := ⟨start1.p0, start1.e0, start1.about1, start1.theMethod, start1.args0, start1.below0, start1.atStart⟩
end Jvm.Pilot.@@N@@
