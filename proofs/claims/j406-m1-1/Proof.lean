import JvmDerived
import JvmDerived.Pilot.@@N@@Statement
import JvmDerived.Pilot.@@N@@Code
set_option linter.unusedVariables false
set_option linter.unusedSimpArgs false
namespace Jvm.Pilot.@@N@@
open Jvm Jvm.ClassFile Sem Op Lib Jvm.Free Jvm.Stand Jvm.LawKit Jvm.RoadKit Bundle Jvm.Pilot.@@N@@.Jvm.D
theorem hwi {Z : State} {a0 : Array Value} (hw : ∀ d ∈ tables_1, d.before a0 Z = true) (i : Nat) {d : Jvm.Cond} (h : tables_1[i]? = some d) : d.before a0 Z = true := hw _ (List.mem_of_getElem? h)
section Own
variable {p : Program} {l : Launch} {e : Env} {R : Room} {s : State} {m : MethodId} {args : Array Value} {below : List Frame} {meth : Method} {c : Code} {T : State} {locs : List Loc} {cells slots : Nat} {Z : State} {a0 : Array Value} {h h' : Heap} {Q : Option Value → Heap → List Loc → Prop} {rc rs : Nat} {P : State → Outcome → Prop}
/-- from here the run comes to its end, and what it leaves is P -/
def Ends (p : Program) (e : Env) (below : List Frame) (P : State → Outcome → Prop) (T : State) (g : JFrame) : Prop :=
  ∃ s₂ o, Steps p.tables e below (T.setTop g) s₂ ∧ s₂.status = .running ∧ Ended s₂ below o ∧ P s₂ o
/-- the narrow end -/
def NP (s : State) (Q : Option Value → Heap → List Loc → Prop) (rc rs : Nat) : State → Outcome → Prop := fun s₂ o => ∃ v L, o = .returned v ∧ Q v s₂.heap L ∧ FrameEnd s o s₂ L rc rs
theorem go {T' : State} {g g' : JFrame} (f : ∀ t, Steps p.tables e below (T'.setTop g') t → Steps p.tables e below (T.setTop g) t) (k : Ends p e below P T' g') : Ends p e below P T g := by
  obtain ⟨s₂, o, h1, r⟩ := k
  exact ⟨s₂, o, f _ h1, r⟩
theorem goS {T' : State} {g g' : JFrame} (f : Steps p.tables e below (T.setTop g) (T'.setTop g')) (k : Ends p e below P T' g') : Ends p e below P T g := by
  obtain ⟨s₂, o, h1, r⟩ := k
  exact ⟨s₂, o, f.trans h1, r⟩
/-- the frame is left with v, and what stands then is P -/
def Lv (e : Env) (m : MethodId) (below : List Frame) (T : State) (v : Option Value) (P : State → Outcome → Prop) : Prop :=
  ∃ fs, (∀ (f : JFrame) (acts : List Action), f.method = m → f.locked = none → f.entered = [] → (doReturn e (T.setTop f) acts v).1 = T.setFrames fs) ∧ (T.setFrames fs).status = .running ∧ Ended (T.setFrames fs) below (.returned v) ∧ P (T.setFrames fs) (.returned v)
theorem lvN (X : Stand p l e R s m args below meth c T locs cells slots) (hlk : meth.locks = false) (eT : T.heap = h) {v : Option Value} (hv : meth.sig.returnType = none → v = none) (hq : Q v h locs) (hc : cells ≤ rc) (hs : slots ≤ rs) : Lv e m below T v (NP s Q rc rs) := by
  subst eT
  obtain ⟨fs, hr, hrun, hended, hW, hsame⟩ := X.leave (v := v) hv hlk
  exact ⟨fs, hr, hrun, hended, _, _, rfl, hq, ⟨_, rfl⟩, hW, hsame.mono hc hs⟩
theorem retI (X : Stand p l e R s m args below meth c T locs cells slots) (hx : p.tables.exec = Jvm.exec) {pc : Nat} {Ls : Array Slot} {z : Int32} {rest : List Value} (hret : meth.sig.returnType = some .int) (hd : decode c.code pc = .ok (.ireturn, 1)) {fs : List Frame}
    (hl : ∀ (f : JFrame) (acts : List Action), f.method = m → f.locked = none → f.entered = [] → (doReturn e (T.setTop f) acts (some (.int z))).1 = T.setFrames fs) : Steps p.tables e below (T.setTop (mkF m pc Ls (.int z :: rest))) (T.setFrames fs) := by
  have hm' : T.vm.method? m = some meth := X.method'
  have hn : narrow .int (.int z) = .int z := rfl
  show Steps p.tables e below (T.setTop { method := m, pc := pc, locals := Ls, stack := _ :: rest, locked := none }) _
  jvm_step X.here [X.here.top, hx, hd, hm', hret, hn]
  first | (intro acts; rw [hl _ acts rfl rfl rfl]) | rw [hl _ _ rfl rfl rfl]
  exact Steps.refl _
theorem endI (X : Stand p l e R s m args below meth c T locs cells slots) (hx : p.tables.exec = Jvm.exec) {pc : Nat} {Ls : Array Slot} {z : Int32} {rest : List Value} (hret : meth.sig.returnType = some .int) (hd : decode c.code pc = .ok (.ireturn, 1)) (hL : Lv e m below T (some (.int z)) P) :
    Ends p e below P T (mkF m pc Ls (.int z :: rest)) := by
  obtain ⟨fs, hr, hrun, hended, hp⟩ := hL
  exact ⟨_, _, retI X hx hret hd hr, hrun, hended, hp⟩
/-- a boolean, byte, char or short: what is returned is narrowed -/
theorem endN (X : Stand p l e R s m args below meth c T locs cells slots) (hx : p.tables.exec = Jvm.exec) {pc : Nat} {Ls : Array Slot} {z : Int32} {t : FieldType} {rest : List Value} (hret : meth.sig.returnType = some t) (ht : t = .boolean ∨ t = .byte ∨ t = .char ∨ t = .short) (hd : decode c.code pc = .ok (.ireturn, 1)) (hL : Lv e m below T (some (.int (nar t z))) P) :
    Ends p e below P T (mkF m pc Ls (.int z :: rest)) := by
  obtain ⟨fs, hr, hrun, hended, hp⟩ := hL
  exact ⟨_, _, retN X hx hret ht hd hr, hrun, hended, hp⟩
theorem endA (X : Stand p l e R s m args below meth c T locs cells slots) (hx : p.tables.exec = Jvm.exec) {pc : Nat} {Ls : Array Slot} {w : Value} {t : FieldType} {rest : List Value} (hret : meth.sig.returnType = some t) (ht : t.isReference = true) (hw : w.isRef = true) (hd : decode c.code pc = .ok (.areturn, 1)) (hL : Lv e m below T (some w) P) :
    Ends p e below P T (mkF m pc Ls (w :: rest)) := by
  obtain ⟨fs, hr, hrun, hended, hp⟩ := hL
  have hn : narrow t w = w := by rcases ref_cases hw with rfl | ⟨b, rfl⟩ <;> cases t <;> rfl
  exact ⟨_, _, retOut X hx hret hn (Or.inr (Or.inr (Or.inr (Or.inr ⟨rfl, ht, hw⟩)))) hd hr, hrun, hended, hp⟩
theorem endJ (X : Stand p l e R s m args below meth c T locs cells slots) (hx : p.tables.exec = Jvm.exec) {pc : Nat} {Ls : Array Slot} {z : Int64} {rest : List Value} (hret : meth.sig.returnType = some .long) (hd : decode c.code pc = .ok (.lreturn, 1)) (hL : Lv e m below T (some (.long z)) P) :
    Ends p e below P T (mkF m pc Ls (.long z :: rest)) := by
  obtain ⟨fs, hr, hrun, hended, hp⟩ := hL
  exact ⟨_, _, retOut X hx hret rfl (Or.inr (Or.inl ⟨rfl, rfl, z, rfl⟩)) hd hr, hrun, hended, hp⟩
theorem endV (X : Stand p l e R s m args below meth c T locs cells slots) (hx : p.tables.exec = Jvm.exec) {pc : Nat} {Ls : Array Slot} (hret : meth.sig.returnType = none) (hd : decode c.code pc = .ok (.return_, 1)) (hL : Lv e m below T none P) :
    Ends p e below P T (mkF m pc Ls []) := by
  obtain ⟨fs, hr, hrun, hended, hp⟩ := hL
  exact ⟨_, _, X.returnOut hx hret hd hr, hrun, hended, hp⟩
/-- a method's contract, at one heap and one list of arguments -/
def Con (l : Launch) (y : MethodName) (bytes : ByteArray) (maxL : Nat) (ret : Option FieldType) (rm : Room) (Z : State) (as' : Array Value) (h0 : Heap) (Q : Option Value → Heap → List Loc → Prop) : Prop :=
  ∀ ws, MetFree l y (head1 (Jvm.Cond.code y bytes maxL ret :: ws) rm) (fun a U => a = as' ∧ Z.Warmed39 U.vm ∧ U.heap = h0) (fun _ _ _ _ _ => True) (fun _ U o U' => ∃ v L, o = .returned v ∧ Q v U'.heap L ∧ FrameEnd U o U' L rm.cells rm.slots)
theorem efOf {m : MethodId} {args : Array Value} {n : Nat} {Ls : Array Slot} (h : Jvm.Sym.laidSlots args.toList ++ List.replicate (n - (Jvm.Sym.laidSlots args.toList).length) .unset = Ls.toList) : entryFrame m args n = mkF m 0 Ls [] := by
  have q : argsToLocals args n = Ls := Array.toList_inj.mp (by rw [Jvm.Sym.argsToLocals_toList]; exact h)
  show mkF m 0 (argsToLocals args n) [] = _
  rw [q]
theorem Con.of {y : MethodName} {bytes : ByteArray} {maxL : Nat} {ret : Option FieldType} {rm : Room} {as' : Array Value} {h0 : Heap} (hp : plainFor y = true) {Ls : Array Slot} (hef : ∀ m, entryFrame m as' maxL = mkF m 0 Ls [])
    (body : ∀ {p : Program} {e : Env} {s : State} {m : MethodId} {below : List Frame} {meth : Method} {c : Code} {T : State}, Stand p l e rm s m as' below meth c T [] 0 0 → p.tables.exec = Jvm.exec → Z.Warmed39 s.vm → c.code = bytes → c.maxLocals = maxL → s.vm.findClass y.cls = some m.cls → meth.name = y.name → meth.sig.returnType = ret → meth.locks = false → T.heap = h0 → Ends p e below (NP s Q rm.cells rm.slots) T (mkF m 0 Ls [])) :
    Con l y bytes maxL ret rm Z as' h0 Q := by
  intro ws
  refine MetFree.of_bodySF hp hisR ?_
  intro p e s m args below meth c s₁ Bd hml0 hP hK
  obtain ⟨rfl, hZ, hh⟩ := hP
  have X0 : Stand p l e rm s m _ below meth c s₁ [] 0 0 := Stand.of_body Bd
  have e0 : s₁.heap = h0 := by rw [← hh, Bd.state]; rfl
  obtain ⟨s₂, o, h1, r⟩ := body X0 Bd.exec hZ Bd.bytes hml0 (findClass_of_methodNamed Bd.named) (name_of_methodNamed Bd.named Bd.method).1 Bd.returns Bd.notSynchronized e0
  exact ⟨s₂, o, castTop (hef m) h1, r⟩
theorem cStat {own : String} {index : Nat} {y : MethodName} {bytes : ByteArray} {maxL : Nat} {ret : Option FieldType} {rm : Room} {Q' : Option Value → Heap → List Loc → Prop} {pc : Nat} {Ls : Array Slot} {st : List Value}
    (X : Stand p l e R s m args below meth c T locs cells slots) (hx : p.tables.exec = Jvm.exec) (hZ : Z.Warmed39 s.vm) (hown : s.vm.findClass own = some m.cls) (hml : Ls.size = c.maxLocals) (eT : T.heap = h)
    (w1 : (Cond.methodLink own index y).before a0 Z = true) (w2 : (Cond.static y).before a0 Z = true) (w3 : (Cond.initialized y.cls).before a0 Z = true) (w4 : (Cond.code y bytes maxL ret).before a0 Z = true)
    (argsL rest : List Value) {as' : Array Value} (has : argsL.toArray = as') (hM : Con l y bytes maxL ret rm Z as' h Q') (hd : decode c.code pc = .ok (.invokestatic index, 3)) (hst : st = argsL.reverse ++ rest)
    (hlen : ∀ sig, parseMethodDescriptor y.desc = some sig → argsL.length = sig.parameters.length) (hy : y.cls ≠ "java/lang/invoke/MethodHandle" ∧ y.cls ≠ "java/lang/invoke/VarHandle")
    (hf : rm.frames + 1 ≤ R.frames) (hl : (rest.map fun v => v.category).sum + (maxL + 11) + rm.locals ≤ R.locals) (hc : cells + rm.cells ≤ R.cells) (hs : slots + rm.slots ≤ R.slots)
    (k : ∀ v T' h' L, Stand p l e R s m args below meth c T' (locs ++ L) (cells + rm.cells) (slots + rm.slots) → T'.heap = h' → Q' v h' L → Ends p e below P T' (mkF m (pc + 3) Ls (v.toList ++ rest))) :
    Ends p e below P T (mkF m pc Ls st) := by
  subst has
  obtain ⟨v, _, ⟨T', L', k', n'⟩, -, X', ⟨Lc, hQ, e1, e2, e3⟩, stp⟩ := Jvm.LawKit.callS X hx (y := y) hown (mvT hZ w1) (mvT hZ w2) (mvT hZ w3) (mvT hZ w4) hy (backOf (W := (rest.map fun v => v.category).sum) (hM []) hZ w4 w3 hf hl) (g := mkF m pc Ls st) rfl hml (argsL := argsL) (rest := rest) hlen hst (by show 2 * 0 + _ ≤ _; omega) hd (fun _ _ => ⟨rfl, eT, hc, hs⟩)
  dsimp only [Pt.U, Pt.locs, Pt.cells, Pt.slots] at X' e1 e2 e3 stp hQ
  subst e1 e2 e3
  exact go stp (k v T' _ Lc X' rfl hQ)
theorem cInit {own : String} {index : Nat} {y : MethodName} {bytes : ByteArray} {maxL : Nat} {rm : Room} {Q' : Option Value → Heap → List Loc → Prop} {pc : Nat} {Ls : Array Slot} {st : List Value}
    (X : Stand p l e R s m args below meth c T locs cells slots) (hx : p.tables.exec = Jvm.exec) (hZ : Z.Warmed39 s.vm) (hown : s.vm.findClass own = some m.cls) (hml : Ls.size = c.maxLocals) (eT : T.heap = h)
    (w1 : (Cond.methodLink own index y).before a0 Z = true) (w2 : (Cond.instanceMethod y).before a0 Z = true) (w3 : (Cond.initialized y.cls).before a0 Z = true) (w4 : (Cond.code y bytes maxL none).before a0 Z = true)
    (a : Addr) (argsL rest : List Value) {as' : Array Value} (has : (.ref a :: argsL).toArray = as') (hM : Con l y bytes maxL none rm Z as' h Q') (hd : decode c.code pc = .ok (.invokespecial index, 3)) (hst : st = argsL.reverse ++ .ref a :: rest)
    (hlen : ∀ sig, parseMethodDescriptor y.desc = some sig → argsL.length = sig.parameters.length) (hy1 : y.name = "<init>") (hy : y.cls ≠ "java/lang/invoke/MethodHandle" ∧ y.cls ≠ "java/lang/invoke/VarHandle")
    (hf : rm.frames + 1 ≤ R.frames) (hl : (rest.map fun v => v.category).sum + (maxL + 11) + rm.locals ≤ R.locals) (hc : cells + rm.cells ≤ R.cells) (hs : slots + rm.slots ≤ R.slots)
    (k : ∀ v T' h' L, Stand p l e R s m args below meth c T' (locs ++ L) (cells + rm.cells) (slots + rm.slots) → T'.heap = h' → Q' v h' L → Ends p e below P T' (mkF m (pc + 3) Ls (v.toList ++ rest))) :
    Ends p e below P T (mkF m pc Ls st) := by
  subst has
  obtain ⟨v, _, ⟨T', L', k', n'⟩, -, X', ⟨Lc, hQ, e1, e2, e3⟩, stp⟩ := X.specialBack hx (y := y) hy1 hown (mvT hZ w1) (mvT hZ w2) (mvT hZ w4) hy (backOf (W := (rest.map fun v => v.category).sum) (hM []) hZ w4 w3 hf hl) (g := mkF m pc Ls st) rfl hml (Steps.refl _) (a := a) (argsL := argsL) (rest := rest) hlen hst (by show 2 * 0 + _ ≤ _; omega) hd (fun _ _ => ⟨rfl, eT, hc, hs⟩)
  dsimp only [Pt.U, Pt.locs, Pt.cells, Pt.slots] at X' e1 e2 e3 stp hQ
  subst e1 e2 e3
  exact goS stp (k v T' _ Lc X' rfl hQ)
theorem cVirt {own K : String} {index : Nat} {y z : MethodName} {bytes : ByteArray} {maxL : Nat} {ret : Option FieldType} {rm : Room} {Q' : Option Value → Heap → List Loc → Prop} {pc : Nat} {Ls : Array Slot} {st : List Value}
    (X : Stand p l e R s m args below meth c T locs cells slots) (hx : p.tables.exec = Jvm.exec) (hZ : Z.Warmed39 s.vm) (hown : s.vm.findClass own = some m.cls) (hml : Ls.size = c.maxLocals) (eT : T.heap = h)
    (w1 : (Cond.methodLink own index y).before a0 Z = true) (w2 : (Cond.declares y).before a0 Z = true) (w3 : (Cond.selects K y z).before a0 Z = true) (w4 : (Cond.instanceMethod z).before a0 Z = true) (w5 : (Cond.initialized z.cls).before a0 Z = true) (w6 : (Cond.code z bytes maxL ret).before a0 Z = true) (hnf : NotFace s y)
    (a : Addr) (E : Exa Z h a K) (argsL rest : List Value) {as' : Array Value} (has : (.ref a :: argsL).toArray = as') (hM : Con l z bytes maxL ret rm Z as' h Q') (hd : decode c.code pc = .ok (.invokevirtual index, 3)) (hst : st = argsL.reverse ++ .ref a :: rest)
    (hlen : ∀ sig, parseMethodDescriptor y.desc = some sig → argsL.length = sig.parameters.length) (hy : y.cls ≠ "java/lang/invoke/MethodHandle" ∧ y.cls ≠ "java/lang/invoke/VarHandle")
    (hf : rm.frames + 1 ≤ R.frames) (hl : (rest.map fun v => v.category).sum + (maxL + 11) + rm.locals ≤ R.locals) (hc : cells + rm.cells ≤ R.cells) (hs : slots + rm.slots ≤ R.slots)
    (k : ∀ v T' h' L, Stand p l e R s m args below meth c T' (locs ++ L) (cells + rm.cells) (slots + rm.slots) → T'.heap = h' → Q' v h' L → Ends p e below P T' (mkF m (pc + 3) Ls (v.toList ++ rest))) :
    Ends p e below P T (mkF m pc Ls st) := by
  subst has
  obtain ⟨cq, kq, qa, qb, qc⟩ := isOf hZ eT E
  obtain ⟨v, _, ⟨T', L', k', n'⟩, -, X', ⟨Lc, hQ, e1, e2, e3⟩, stp⟩ := X.virtualBack hx (y := y) (z := z) hown (mvT hZ w1) (mvT hZ w2) hnf (mvT hZ w3) (mvT hZ w4) hy (backOf (W := (rest.map fun v => v.category).sum) (hM []) hZ w6 w5 hf hl) qa qc (g := mkF m pc Ls st) rfl hml (Steps.refl _) (argsL := argsL) (rest := rest) hlen hst (by show 2 * 0 + _ ≤ _; omega) hd (fun _ _ => ⟨rfl, eT, hc, hs⟩)
  dsimp only [Pt.U, Pt.locs, Pt.cells, Pt.slots] at X' e1 e2 e3 stp hQ
  subst e1 e2 e3
  exact goS stp (k v T' _ Lc X' rfl hQ)
theorem cUp {own K owner : String} {index : Nat} {y z : MethodName} {bytes : ByteArray} {maxL : Nat} {ret : Option FieldType} {rm : Room} {Q' : Option Value → Heap → List Loc → Prop} {pc : Nat} {Ls : Array Slot} {st : List Value}
    (X : Stand p l e R s m args below meth c T locs cells slots) (hx : p.tables.exec = Jvm.exec) (hZ : Z.Warmed39 s.vm) (hown : s.vm.findClass own = some m.cls) (hml : Ls.size = c.maxLocals) (eT : T.heap = h)
    (w1 : (Cond.methodLink own index y).before a0 Z = true) (w2 : (Cond.sameMethod y.cls owner y.name y.desc).before a0 Z = true) (w2d : (Cond.declares ⟨owner, y.name, y.desc⟩).before a0 Z = true) (w3 : (Cond.selects K y z).before a0 Z = true) (w4 : (Cond.instanceMethod z).before a0 Z = true) (w5 : (Cond.initialized z.cls).before a0 Z = true) (w6 : (Cond.code z bytes maxL ret).before a0 Z = true)
    (a : Addr) (E : Exa Z h a K) (argsL rest : List Value) {as' : Array Value} (has : (.ref a :: argsL).toArray = as') (hM : Con l z bytes maxL ret rm Z as' h Q') (hd : decode c.code pc = .ok (.invokevirtual index, 3)) (hst : st = argsL.reverse ++ .ref a :: rest)
    (hlen : ∀ sig, parseMethodDescriptor y.desc = some sig → argsL.length = sig.parameters.length) (hy : owner ≠ "java/lang/invoke/MethodHandle" ∧ owner ≠ "java/lang/invoke/VarHandle")
    (hf : rm.frames + 1 ≤ R.frames) (hl : (rest.map fun v => v.category).sum + (maxL + 11) + rm.locals ≤ R.locals) (hc : cells + rm.cells ≤ R.cells) (hs : slots + rm.slots ≤ R.slots)
    (k : ∀ v T' h' L, Stand p l e R s m args below meth c T' (locs ++ L) (cells + rm.cells) (slots + rm.slots) → T'.heap = h' → Q' v h' L → Ends p e below P T' (mkF m (pc + 3) Ls (v.toList ++ rest))) :
    Ends p e below P T (mkF m pc Ls st) := by
  subst has
  obtain ⟨cq, kq, qa, qb, qc⟩ := isOf hZ eT E
  obtain ⟨v, _, ⟨T', L', k', n'⟩, -, X', ⟨Lc, hQ, e1, e2, e3⟩, stp⟩ := X.virtualBackUp hx (x := y) (y := z) hown (mvT hZ w1) (mvT hZ w2) (mvT hZ w2d) hy (mvT hZ w3) (mvT hZ w4) (backOf (W := (rest.map fun v => v.category).sum) (hM []) hZ w6 w5 hf hl) qa qc (g := mkF m pc Ls st) rfl hml (Steps.refl _) (argsL := argsL) (rest := rest) hlen hst (by show 2 * 0 + _ ≤ _; omega) hd (fun _ _ => ⟨rfl, eT, hc, hs⟩)
  dsimp only [Pt.U, Pt.locs, Pt.cells, Pt.slots] at X' e1 e2 e3 stp hQ
  subst e1 e2 e3
  exact goS stp (k v T' _ Lc X' rfl hQ)
theorem cFace {own K : String} {index count : Nat} {y z : MethodName} {bytes : ByteArray} {maxL : Nat} {ret : Option FieldType} {rm : Room} {Q' : Option Value → Heap → List Loc → Prop} {pc : Nat} {Ls : Array Slot} {st : List Value}
    (X : Stand p l e R s m args below meth c T locs cells slots) (hx : p.tables.exec = Jvm.exec) (hZ : Z.Warmed39 s.vm) (hown : s.vm.findClass own = some m.cls) (hml : Ls.size = c.maxLocals) (eT : T.heap = h)
    (w1 : (Cond.methodLink own index y).before a0 Z = true) (w2 : (Cond.declares y).before a0 Z = true) (wf : (Cond.interfaceMethod y.cls y.cls y.name y.desc).before args s = true) (w3 : (Cond.selects K y z).before a0 Z = true) (w4 : (Cond.instanceMethod z).before a0 Z = true) (wp : (Cond.publicMethod z).before a0 Z = true) (wu : (Cond.unhidden K y.name y.desc).before args s = true) (wc : (Cond.castable K y.cls).before a0 Z = true) (w5 : (Cond.initialized z.cls).before a0 Z = true) (w6 : (Cond.code z bytes maxL ret).before a0 Z = true)
    (a : Addr) (E : Exa Z h a K) (argsL rest : List Value) {as' : Array Value} (has : (.ref a :: argsL).toArray = as') (hM : Con l z bytes maxL ret rm Z as' h Q') (hd : decode c.code pc = .ok (.invokeinterface index count, 5)) (hst : st = argsL.reverse ++ .ref a :: rest)
    (hlen : ∀ sig, parseMethodDescriptor y.desc = some sig → argsL.length = sig.parameters.length) (hy : y.cls ≠ "java/lang/invoke/MethodHandle" ∧ y.cls ≠ "java/lang/invoke/VarHandle")
    (hf : rm.frames + 1 ≤ R.frames) (hl : (rest.map fun v => v.category).sum + (maxL + 11) + rm.locals ≤ R.locals) (hc : cells + rm.cells ≤ R.cells) (hs : slots + rm.slots ≤ R.slots)
    (k : ∀ v T' h' L, Stand p l e R s m args below meth c T' (locs ++ L) (cells + rm.cells) (slots + rm.slots) → T'.heap = h' → Q' v h' L → Ends p e below P T' (mkF m (pc + 5) Ls (v.toList ++ rest))) :
    Ends p e below P T (mkF m pc Ls st) := by
  subst has
  obtain ⟨cq, kq, qa, qb, qc⟩ := isOf hZ eT E
  obtain ⟨v, _, ⟨T', L', k', n'⟩, -, X', ⟨Lc, hQ, e1, e2, e3⟩, stp⟩ := X.interfaceBack hx (xi := y) (y := z) hown (mvT hZ w1) (mvT hZ w2) wf (mvT hZ w3) (mvT hZ w4) (mvT hZ wp) wu (mvT hZ wc) hy (backOf (W := (rest.map fun v => v.category).sum) (hM []) hZ w6 w5 hf hl) qa qb qc (g := mkF m pc Ls st) rfl hml (Steps.refl _) (argsL := argsL) (rest := rest) hlen hst (by show 2 * 0 + _ ≤ _; omega) hd (fun _ _ => ⟨rfl, eT, hc, hs⟩)
  dsimp only [Pt.U, Pt.locs, Pt.cells, Pt.slots] at X' e1 e2 e3 stp hQ
  subst e1 e2 e3
  exact goS stp (k v T' _ Lc X' rfl hQ)
theorem cPriv {own K : String} {index nn : Nat} {y : MethodName} {bytes : ByteArray} {maxL : Nat} {ret : Option FieldType} {rm : Room} {Q' : Option Value → Heap → List Loc → Prop} {pc : Nat} {Ls : Array Slot} {st : List Value}
    (X : Stand p l e R s m args below meth c T locs cells slots) (hx : p.tables.exec = Jvm.exec) (hZ : Z.Warmed39 s.vm) (hown : s.vm.findClass own = some m.cls) (hml : Ls.size = c.maxLocals) (eT : T.heap = h)
    (w1 : (Cond.methodLink own index y).before a0 Z = true) (w2 : (Cond.instanceMethod y).before a0 Z = true) (w3 : (Cond.privateMethod y).before a0 Z = true) (w4 : (Cond.instantiable y.cls nn).before a0 Z = true) (w5 : (Cond.initialized y.cls).before a0 Z = true) (w6 : (Cond.code y bytes maxL ret).before a0 Z = true)
    (a : Addr) (E : Exa Z h a K) (argsL rest : List Value) {as' : Array Value} (has : (.ref a :: argsL).toArray = as') (hM : Con l y bytes maxL ret rm Z as' h Q') (hd : decode c.code pc = .ok (.invokevirtual index, 3)) (hst : st = argsL.reverse ++ .ref a :: rest)
    (hlen : ∀ sig, parseMethodDescriptor y.desc = some sig → argsL.length = sig.parameters.length) (hy : y.cls ≠ "java/lang/invoke/MethodHandle" ∧ y.cls ≠ "java/lang/invoke/VarHandle")
    (hf : rm.frames + 1 ≤ R.frames) (hl : (rest.map fun v => v.category).sum + (maxL + 11) + rm.locals ≤ R.locals) (hc : cells + rm.cells ≤ R.cells) (hs : slots + rm.slots ≤ R.slots)
    (k : ∀ v T' h' L, Stand p l e R s m args below meth c T' (locs ++ L) (cells + rm.cells) (slots + rm.slots) → T'.heap = h' → Q' v h' L → Ends p e below P T' (mkF m (pc + 3) Ls (v.toList ++ rest))) :
    Ends p e below P T (mkF m pc Ls st) := by
  subst has
  obtain ⟨cell, q1, q2⟩ := E.cell
  have hpr := Cond.privateMethod_at (mvP hZ w3 (args := #[]))
  obtain ⟨cc, kc, i1, i2, -, i4, -⟩ := Cond.instantiable_spec (mvT (args := args) hZ w4)
  have hni : kc.isInterface = false := by
    cases hq : kc.isInterface with
    | false => rfl
    | true => rw [hq] at i4; simp at i4
  have hsel := Jvm.Stand.selects_self_of_private (args := args) i1 i2 hni hpr (mvT hZ w2) hy
  obtain ⟨v, _, ⟨T', L', k', n'⟩, -, X', ⟨Lc, hQ, e1, e2, e3⟩, stp⟩ := X.privateBack hx (y := y) hown (mvT hZ w1) (mvT hZ w2) hsel hpr (mvT hZ w6) hy (backOf (W := (rest.map fun v => v.category).sum) (hM []) hZ w6 w5 hf hl) (g := mkF m pc Ls st) rfl hml (Steps.refl _) (a := a) (by rw [eT]; exact q1) q2 (argsL := argsL) (rest := rest) hlen hst (by show 2 * 0 + _ ≤ _; omega) hd (fun _ _ => ⟨rfl, eT, hc, hs⟩)
  dsimp only [Pt.U, Pt.locs, Pt.cells, Pt.slots] at X' e1 e2 e3 stp hQ
  subst e1 e2 e3
  exact goS stp (k v T' _ Lc X' rfl hQ)
theorem xx (O : Ext Z.heap h) (E : Ext h h') : Ext Z.heap h' := ⟨Nat.le_trans O.1 E.1, fun a c q => E.2 _ _ (O.2 _ _ q)⟩
theorem xk {ws : List Addr} (O : Ext Z.heap h) (K : Keep h h' ws) (q : ∀ x ∈ ws, Z.heap.size ≤ x) : Ext Z.heap h' := (Old.keep ⟨rfl, O⟩ K q).2
theorem xw {a : Addr} {sl : Nat} {v : Value} (O : Ext Z.heap h) (W : Wr h h' a sl v) (q : Z.heap.size ≤ a) : Ext Z.heap h' := (Old.wr ⟨rfl, O⟩ W q).2
theorem ke (E : Ext h h') : Keep h h' [] := (Keep.refl h []).ext E
theorem ek (K : Keep h h' []) : Ext h h' := ⟨K.1, fun a c q => K.2.1 a c q nin0⟩
end Own
section OwnW
variable {p : Program} {l : Launch} {e : Env} {R : Room} {s : State} {m : MethodId} {args : Array Value} {below : List Frame} {meth : Method} {c : Code} {T : State} {locs : List Loc} {cells slots : Nat} {Z : State} {a0 : Array Value} {h h' : Heap} {Q : Option Value → Heap → List Loc → Prop} {rc rs : Nat} {P : State → Outcome → Prop} {vm0 : Vm} {EL : List (String × Nat)} {k0 : Nat}
/-- the wide end: literals may have been interned -/
def WP (s : State) (Z : State) (EL : List (String × Nat)) (Q : Option Value → Heap → List Loc → Prop) (rc rs : Nat) : State → Outcome → Prop := fun s₂ o => ∃ v L, o = .returned v ∧ Q v s₂.heap L ∧ CHr Z EL s.vm s.heap s₂.vm s₂.heap ∧ ReturnedEndW s o s₂ L rc rs
theorem lvW (X : Stand p l e R (s.setVm vm0) m args below meth c T locs cells slots) (hlk : meth.locks = false) (hZ : Z.Warmed39 vm0) (hEL : EW Z a0 EL) (hs0 : s.heap = h') (hS : s.Since vm0 k0) (hk : k0 ≤ h.size) (H : CHr Z EL s.vm h' vm0 h) (eT : T.heap = h) {v : Option Value} (hv : meth.sig.returnType = none → v = none) (hq : Q v h locs) (hc : cells ≤ rc) (hs : slots ≤ rs) : Lv e m below T v (WP s Z EL Q rc rs) := by
  subst eT
  obtain ⟨fs, hr, hrun, hended, hv', hW, hb, hsame⟩ := Jvm.Stand.leaveW X hS hk (v := v) hv hlk
  refine ⟨fs, hr, hrun, hended, _, _, rfl, hq, ?_, hv', hW, hb, hsame.mono hc hs⟩
  rw [hs0]
  show CHr Z EL s.vm h' T.vm T.heap
  exact H.trans (CHv.at X hZ hEL H.1)
def ConW (l : Launch) (y : MethodName) (bytes : ByteArray) (maxL : Nat) (ret : Option FieldType) (rm : Room) (Z : State) (EL : List (String × Nat)) (as' : Array Value) (h0 : Heap) (Q : Option Value → Heap → List Loc → Prop) : Prop :=
  ∀ ws, MetFree l y (head1 (Jvm.Cond.code y bytes maxL ret :: ws) rm) (fun a U => a = as' ∧ Z.Warmed39 U.vm ∧ U.heap = h0 ∧ CHv Z EL U.vm h0) (fun _ _ _ _ _ => True) (fun _ U o U' => ∃ v L, o = .returned v ∧ Q v U'.heap L ∧ CHr Z EL U.vm U.heap U'.vm U'.heap ∧ ReturnedEndW U o U' L rm.cells rm.slots)
theorem ConW.of {y : MethodName} {bytes : ByteArray} {maxL : Nat} {ret : Option FieldType} {rm : Room} {as' : Array Value} {h0 : Heap} (hp : plainFor y = true) {Ls : Array Slot} (hef : ∀ m, entryFrame m as' maxL = mkF m 0 Ls [])
    (body : ∀ {p : Program} {e : Env} {s : State} {m : MethodId} {below : List Frame} {meth : Method} {c : Code} {T : State}, Stand p l e rm (s.setVm s.vm) m as' below meth c T [] 0 0 → p.tables.exec = Jvm.exec → Z.Warmed39 s.vm → c.code = bytes → c.maxLocals = maxL → s.vm.findClass y.cls = some m.cls → meth.name = y.name → meth.sig.returnType = ret → meth.locks = false → T.heap = h0 → s.heap = h0 → s.Since s.vm 0 → 0 ≤ h0.size → CHr Z EL s.vm h0 s.vm h0 → Ends p e below (WP s Z EL Q rm.cells rm.slots) T (mkF m 0 Ls [])) :
    ConW l y bytes maxL ret rm Z EL as' h0 Q := by
  intro ws
  refine MetFree.of_bodySF hp hisR ?_
  intro p e s m args below meth c s₁ Bd hml0 hP hK
  obtain ⟨rfl, hZ, hh, hC⟩ := hP
  have X0 : Stand p l e rm s m _ below meth c s₁ [] 0 0 := Stand.of_body Bd
  have e0 : s₁.heap = h0 := by rw [← hh, Bd.state]; rfl
  obtain ⟨s₂, o, h1, r⟩ := body (s := s) X0 Bd.exec hZ Bd.bytes hml0 (findClass_of_methodNamed Bd.named) (name_of_methodNamed Bd.named Bd.method).1 Bd.returns Bd.notSynchronized e0 hh ((State.WarmedH.refl s).since 0) (Nat.zero_le _) (CHr.refl hC)
  exact ⟨s₂, o, castTop (hef m) h1, r⟩
theorem cStatW {own : String} {index : Nat} {y : MethodName} {bytes : ByteArray} {maxL : Nat} {ret : Option FieldType} {rm : Room} {Q' : Option Value → Heap → List Loc → Prop} {pc : Nat} {Ls : Array Slot} {st : List Value}
    (X : Stand p l e R (s.setVm vm0) m args below meth c T locs cells slots) (hx : p.tables.exec = Jvm.exec) (hZ : Z.Warmed39 vm0) (hown : vm0.findClass own = some m.cls) (hml : Ls.size = c.maxLocals) (eT : T.heap = h) (hEL : EW Z a0 EL) (hS : s.Since vm0 k0) (hk : k0 ≤ h.size) (H : CHv Z EL vm0 h)
    (w1 : (Cond.methodLink own index y).before a0 Z = true) (w2 : (Cond.static y).before a0 Z = true) (w3 : (Cond.initialized y.cls).before a0 Z = true) (w4 : (Cond.code y bytes maxL ret).before a0 Z = true)
    (argsL rest : List Value) {as' : Array Value} (has : argsL.toArray = as') (hM : ConW l y bytes maxL ret rm Z EL as' h Q') (hd : decode c.code pc = .ok (.invokestatic index, 3)) (hst : st = argsL.reverse ++ rest)
    (hlen : ∀ sig, parseMethodDescriptor y.desc = some sig → argsL.length = sig.parameters.length) (hy : y.cls ≠ "java/lang/invoke/MethodHandle" ∧ y.cls ≠ "java/lang/invoke/VarHandle")
    (hf : rm.frames + 1 ≤ R.frames) (hl : (rest.map fun v => v.category).sum + (maxL + 11) + rm.locals ≤ R.locals) (hc : cells + rm.cells ≤ R.cells) (hs : slots + rm.slots ≤ R.slots)
    (k : ∀ v T' h' L k1, Stand p l e R (s.setVm T'.vm) m args below meth c T' (locs ++ L) (cells + rm.cells) (slots + rm.slots) → T'.heap = h' → s.Since T'.vm k1 → k1 ≤ h'.size → Z.Warmed39 T'.vm → T'.vm.findClass own = some m.cls → CHr Z EL vm0 h T'.vm h' → Q' v h' L → Ends p e below P T' (mkF m (pc + 3) Ls (v.toList ++ rest))) :
    Ends p e below P T (mkF m pc Ls st) := by
  subst has
  obtain ⟨v, vm1, ⟨T', L', k', n'⟩, -, X', hS', hle, ⟨Lc, hQ, e1, e2, e3, hC⟩, stp⟩ := callSS X hx (y := y) hown (mvT (s := s.setVm vm0) hZ w1) (mvT (s := s.setVm vm0) hZ w2) (mvT (s := s.setVm vm0) hZ w3) (mvT (s := s.setVm vm0) hZ w4) hy (backOfSH (s := s) (W := (rest.map fun v => v.category).sum) (hM []) hZ w4 w3 hf hl hEL H) (g := mkF m pc Ls st) rfl hml (argsL := argsL) (rest := rest) hlen hst (by show 2 * 0 + _ ≤ _; omega) hd (fun _ _ => ⟨rfl, eT, hc, hs⟩)
  dsimp only [Pt.U, Pt.locs, Pt.cells, Pt.slots] at X' e1 e2 e3 stp hQ hS' hle hC
  subst e1 e2 e3
  have hS2 := hS.trans hS' (Nat.le_trans hk (by rw [← eT]; exact hle))
  have hW : Z.Warmed39 T'.vm := State.Warmed39.trans (t := s.setVm vm0) hZ hS'.1
  have hf' : T'.vm.findClass own = some m.cls := by rw [hS'.1.alike.findClass]; exact hown
  exact goS stp (k v T' _ Lc _ X' rfl hS2 (Nat.le_refl _) hW hf' hC hQ)
theorem cInitW {own : String} {index : Nat} {y : MethodName} {bytes : ByteArray} {maxL : Nat} {rm : Room} {Q' : Option Value → Heap → List Loc → Prop} {pc : Nat} {Ls : Array Slot} {st : List Value}
    (X : Stand p l e R (s.setVm vm0) m args below meth c T locs cells slots) (hx : p.tables.exec = Jvm.exec) (hZ : Z.Warmed39 vm0) (hown : vm0.findClass own = some m.cls) (hml : Ls.size = c.maxLocals) (eT : T.heap = h) (hEL : EW Z a0 EL) (hS : s.Since vm0 k0) (hk : k0 ≤ h.size) (H : CHv Z EL vm0 h)
    (w1 : (Cond.methodLink own index y).before a0 Z = true) (w2 : (Cond.instanceMethod y).before a0 Z = true) (w3 : (Cond.initialized y.cls).before a0 Z = true) (w4 : (Cond.code y bytes maxL none).before a0 Z = true)
    (a : Addr) (argsL rest : List Value) {as' : Array Value} (has : (.ref a :: argsL).toArray = as') (hM : ConW l y bytes maxL none rm Z EL as' h Q') (hd : decode c.code pc = .ok (.invokespecial index, 3)) (hst : st = argsL.reverse ++ .ref a :: rest)
    (hlen : ∀ sig, parseMethodDescriptor y.desc = some sig → argsL.length = sig.parameters.length) (hy1 : y.name = "<init>") (hy : y.cls ≠ "java/lang/invoke/MethodHandle" ∧ y.cls ≠ "java/lang/invoke/VarHandle")
    (hf : rm.frames + 1 ≤ R.frames) (hl : (rest.map fun v => v.category).sum + (maxL + 11) + rm.locals ≤ R.locals) (hc : cells + rm.cells ≤ R.cells) (hs : slots + rm.slots ≤ R.slots)
    (k : ∀ v T' h' L k1, Stand p l e R (s.setVm T'.vm) m args below meth c T' (locs ++ L) (cells + rm.cells) (slots + rm.slots) → T'.heap = h' → s.Since T'.vm k1 → k1 ≤ h'.size → Z.Warmed39 T'.vm → T'.vm.findClass own = some m.cls → CHr Z EL vm0 h T'.vm h' → Q' v h' L → Ends p e below P T' (mkF m (pc + 3) Ls (v.toList ++ rest))) :
    Ends p e below P T (mkF m pc Ls st) := by
  subst has
  obtain ⟨v, vm1, ⟨T', L', k', n'⟩, -, X', hS', hle, ⟨Lc, hQ, e1, e2, e3, hC⟩, stp⟩ := Jvm.Stand.specialBackS X hx (y := y) hy1 hown (mvT (s := s.setVm vm0) hZ w1) (mvT (s := s.setVm vm0) hZ w2) (mvT (s := s.setVm vm0) hZ w4) hy (backOfSH (s := s) (W := (rest.map fun v => v.category).sum) (hM []) hZ w4 w3 hf hl hEL H) (g := mkF m pc Ls st) rfl hml (Steps.refl _) (a := a) (argsL := argsL) (rest := rest) hlen hst (by show 2 * 0 + _ ≤ _; omega) hd (fun _ _ => ⟨rfl, eT, hc, hs⟩)
  dsimp only [Pt.U, Pt.locs, Pt.cells, Pt.slots] at X' e1 e2 e3 stp hQ hS' hle hC
  subst e1 e2 e3
  have hS2 := hS.trans hS' (Nat.le_trans hk (by rw [← eT]; exact hle))
  have hW : Z.Warmed39 T'.vm := State.Warmed39.trans (t := s.setVm vm0) hZ hS'.1
  have hf' : T'.vm.findClass own = some m.cls := by rw [hS'.1.alike.findClass]; exact hown
  exact goS stp (k v T' _ Lc _ X' rfl hS2 (Nat.le_refl _) hW hf' hC hQ)
theorem cVirtW {own K : String} {index : Nat} {y z : MethodName} {bytes : ByteArray} {maxL : Nat} {ret : Option FieldType} {rm : Room} {Q' : Option Value → Heap → List Loc → Prop} {pc : Nat} {Ls : Array Slot} {st : List Value}
    (X : Stand p l e R (s.setVm vm0) m args below meth c T locs cells slots) (hx : p.tables.exec = Jvm.exec) (hZ : Z.Warmed39 vm0) (hown : vm0.findClass own = some m.cls) (hml : Ls.size = c.maxLocals) (eT : T.heap = h) (hEL : EW Z a0 EL) (hS : s.Since vm0 k0) (hk : k0 ≤ h.size) (H : CHv Z EL vm0 h)
    (w1 : (Cond.methodLink own index y).before a0 Z = true) (w2 : (Cond.declares y).before a0 Z = true) (w3 : (Cond.selects K y z).before a0 Z = true) (w4 : (Cond.instanceMethod z).before a0 Z = true) (w5 : (Cond.initialized z.cls).before a0 Z = true) (w6 : (Cond.code z bytes maxL ret).before a0 Z = true) (hnf : NotFace (s.setVm vm0) y)
    (a : Addr) (E : Exa Z h a K) (argsL rest : List Value) {as' : Array Value} (has : (.ref a :: argsL).toArray = as') (hM : ConW l z bytes maxL ret rm Z EL as' h Q') (hd : decode c.code pc = .ok (.invokevirtual index, 3)) (hst : st = argsL.reverse ++ .ref a :: rest)
    (hlen : ∀ sig, parseMethodDescriptor y.desc = some sig → argsL.length = sig.parameters.length) (hy : y.cls ≠ "java/lang/invoke/MethodHandle" ∧ y.cls ≠ "java/lang/invoke/VarHandle")
    (hf : rm.frames + 1 ≤ R.frames) (hl : (rest.map fun v => v.category).sum + (maxL + 11) + rm.locals ≤ R.locals) (hc : cells + rm.cells ≤ R.cells) (hs : slots + rm.slots ≤ R.slots)
    (k : ∀ v T' h' L k1, Stand p l e R (s.setVm T'.vm) m args below meth c T' (locs ++ L) (cells + rm.cells) (slots + rm.slots) → T'.heap = h' → s.Since T'.vm k1 → k1 ≤ h'.size → Z.Warmed39 T'.vm → T'.vm.findClass own = some m.cls → CHr Z EL vm0 h T'.vm h' → Q' v h' L → Ends p e below P T' (mkF m (pc + 3) Ls (v.toList ++ rest))) :
    Ends p e below P T (mkF m pc Ls st) := by
  subst has
  obtain ⟨cq, kq, qa, qb, qc⟩ := isOf (s := s.setVm vm0) hZ eT E
  obtain ⟨v, vm1, ⟨T', L', k', n'⟩, -, X', hS', hle, ⟨Lc, hQ, e1, e2, e3, hC⟩, stp⟩ := Jvm.Stand.virtualBackS X hx (y := y) (z := z) hown (mvT (s := s.setVm vm0) hZ w1) (mvT (s := s.setVm vm0) hZ w2) hnf (mvT (s := s.setVm vm0) hZ w3) (mvT (s := s.setVm vm0) hZ w4) hy (backOfSH (s := s) (W := (rest.map fun v => v.category).sum) (hM []) hZ w6 w5 hf hl hEL H) qa qc (g := mkF m pc Ls st) rfl hml (Steps.refl _) (argsL := argsL) (rest := rest) hlen hst (by show 2 * 0 + _ ≤ _; omega) hd (fun _ _ => ⟨rfl, eT, hc, hs⟩)
  dsimp only [Pt.U, Pt.locs, Pt.cells, Pt.slots] at X' e1 e2 e3 stp hQ hS' hle hC
  subst e1 e2 e3
  have hS2 := hS.trans hS' (Nat.le_trans hk (by rw [← eT]; exact hle))
  have hW : Z.Warmed39 T'.vm := State.Warmed39.trans (t := s.setVm vm0) hZ hS'.1
  have hf' : T'.vm.findClass own = some m.cls := by rw [hS'.1.alike.findClass]; exact hown
  exact goS stp (k v T' _ Lc _ X' rfl hS2 (Nat.le_refl _) hW hf' hC hQ)
theorem cFaceW {own K : String} {index count : Nat} {y z : MethodName} {bytes : ByteArray} {maxL : Nat} {ret : Option FieldType} {rm : Room} {Q' : Option Value → Heap → List Loc → Prop} {pc : Nat} {Ls : Array Slot} {st : List Value}
    (X : Stand p l e R (s.setVm vm0) m args below meth c T locs cells slots) (hx : p.tables.exec = Jvm.exec) (hZ : Z.Warmed39 vm0) (hown : vm0.findClass own = some m.cls) (hml : Ls.size = c.maxLocals) (eT : T.heap = h) (hEL : EW Z a0 EL) (hS : s.Since vm0 k0) (hk : k0 ≤ h.size) (H : CHv Z EL vm0 h)
    (w1 : (Cond.methodLink own index y).before a0 Z = true) (w2 : (Cond.declares y).before a0 Z = true) (wf : (Cond.interfaceMethod y.cls y.cls y.name y.desc).before args (s.setVm vm0) = true) (w3 : (Cond.selects K y z).before a0 Z = true) (w4 : (Cond.instanceMethod z).before a0 Z = true) (wp : (Cond.publicMethod z).before a0 Z = true) (wu : (Cond.unhidden K y.name y.desc).before args (s.setVm vm0) = true) (wc : (Cond.castable K y.cls).before a0 Z = true) (w5 : (Cond.initialized z.cls).before a0 Z = true) (w6 : (Cond.code z bytes maxL ret).before a0 Z = true)
    (a : Addr) (E : Exa Z h a K) (argsL rest : List Value) {as' : Array Value} (has : (.ref a :: argsL).toArray = as') (hM : ConW l z bytes maxL ret rm Z EL as' h Q') (hd : decode c.code pc = .ok (.invokeinterface index count, 5)) (hst : st = argsL.reverse ++ .ref a :: rest)
    (hlen : ∀ sig, parseMethodDescriptor y.desc = some sig → argsL.length = sig.parameters.length) (hy : y.cls ≠ "java/lang/invoke/MethodHandle" ∧ y.cls ≠ "java/lang/invoke/VarHandle")
    (hf : rm.frames + 1 ≤ R.frames) (hl : (rest.map fun v => v.category).sum + (maxL + 11) + rm.locals ≤ R.locals) (hc : cells + rm.cells ≤ R.cells) (hs : slots + rm.slots ≤ R.slots)
    (k : ∀ v T' h' L k1, Stand p l e R (s.setVm T'.vm) m args below meth c T' (locs ++ L) (cells + rm.cells) (slots + rm.slots) → T'.heap = h' → s.Since T'.vm k1 → k1 ≤ h'.size → Z.Warmed39 T'.vm → T'.vm.findClass own = some m.cls → CHr Z EL vm0 h T'.vm h' → Q' v h' L → Ends p e below P T' (mkF m (pc + 5) Ls (v.toList ++ rest))) :
    Ends p e below P T (mkF m pc Ls st) := by
  subst has
  obtain ⟨cq, kq, qa, qb, qc⟩ := isOf (s := s.setVm vm0) hZ eT E
  obtain ⟨v, vm1, ⟨T', L', k', n'⟩, -, X', hS', hle, ⟨Lc, hQ, e1, e2, e3, hC⟩, stp⟩ := Jvm.Stand.interfaceBackS X hx (xi := y) (y := z) hown (mvT (s := s.setVm vm0) hZ w1) (mvT (s := s.setVm vm0) hZ w2) wf (mvT (s := s.setVm vm0) hZ w3) (mvT (s := s.setVm vm0) hZ w4) (mvT (s := s.setVm vm0) hZ wp) wu (mvT (s := s.setVm vm0) hZ wc) hy (backOfSH (s := s) (W := (rest.map fun v => v.category).sum) (hM []) hZ w6 w5 hf hl hEL H) qa qb qc (g := mkF m pc Ls st) rfl hml (Steps.refl _) (argsL := argsL) (rest := rest) hlen hst (by show 2 * 0 + _ ≤ _; omega) hd (fun _ _ => ⟨rfl, eT, hc, hs⟩)
  dsimp only [Pt.U, Pt.locs, Pt.cells, Pt.slots] at X' e1 e2 e3 stp hQ hS' hle hC
  subst e1 e2 e3
  have hS2 := hS.trans hS' (Nat.le_trans hk (by rw [← eT]; exact hle))
  have hW : Z.Warmed39 T'.vm := State.Warmed39.trans (t := s.setVm vm0) hZ hS'.1
  have hf' : T'.vm.findClass own = some m.cls := by rw [hS'.1.alike.findClass]; exact hown
  exact goS stp (k v T' _ Lc _ X' rfl hS2 (Nat.le_refl _) hW hf' hC hQ)
end OwnW
theorem own_sfnull {Z : State} {EL : List (String × Nat)} {vm : Vm} {h : Heap} {x : Addr} (hal : Z.vm.Alike vm) (E : Exa Z h x "java/lang/String") (F : Fld Z h x "java/lang/String" "value" "[B" .null) : Safe Z EL vm h x := fun B => by
  obtain ⟨cell, k, e1, e2, e3, -, -⟩ := E
  obtain ⟨p, -, u, a, -, q, -, G, rfl | rfl⟩ := B
  · obtain ⟨cell', cf, kf, i, f, f1, f2, f3, f4, f5, f6, f7⟩ := F
    obtain ⟨cS, ⟨⟨s1, -, -, ⟨c, kc, ic, g1, -⟩, -, -, -, s8, -⟩, -, -⟩, -⟩ := G
    obtain ⟨c2, k2, i2, g2⟩ := Jvm.Free.BdW.found_ride (U := Wst Z vm h) (U' := Z) (show (Wst Z vm h).vm.Alike Z.vm from hal.symm) ⟨c, kc, ic, g1⟩
    have q1 := f2.symm.trans g2
    simp only [Option.some.injEq, Prod.mk.injEq] at q1
    obtain ⟨-, -, -, rfl⟩ := q1
    cases (show h[q.sa]? = some q.sC from s1).symm.trans f1
    rw [s8] at f7
    cases f7
  · cases (show h[q.sd]? = some q.SA from G.hd).symm.trans e1
    obtain ⟨cS, -, -, f, -⟩ := G
    have f : vm.findClass "[B" = some q.SA.cls := f
    rw [hal.findClass] at f
    obtain ⟨k1, q1, q2⟩ := Vm.findClass_spec f
    obtain ⟨k2, q3, q4⟩ := Vm.findClass_spec e2
    cases q1.symm.trans q3
    exact absurd (q2.symm.trans q4) (by decide)
theorem pn_0 : plainName "java/lang/String" = true := by first | (simp [plainName, overriddenIn]; done) | decide +kernel
theorem d0_0 : decode jdk_42_method_149_code 0 = .ok (.aload_n 0, 1) := by decide +kernel
theorem d0_1 : decode jdk_42_method_149_code 1 = .ok (.invokespecial 1, 3) := by decide +kernel
theorem d0_4 : decode jdk_42_method_149_code 4 = .ok (.iload_n 3, 1) := by decide +kernel
theorem d0_5 : decode jdk_42_method_149_code 5 = .ok (.ifCond .ne 22, 3) := by decide +kernel
theorem d0_8 : decode jdk_42_method_149_code 8 = .ok (.aload_n 0, 1) := by decide +kernel
theorem d0_9 : decode jdk_42_method_149_code 9 = .ok (.ldc 7, 2) := by decide +kernel
theorem d0_11 : decode jdk_42_method_149_code 11 = .ok (.getfield 9, 3) := by decide +kernel
theorem d0_14 : decode jdk_42_method_149_code 14 = .ok (.putfield 9, 3) := by decide +kernel
theorem d0_17 : decode jdk_42_method_149_code 17 = .ok (.aload_n 0, 1) := by decide +kernel
theorem d0_18 : decode jdk_42_method_149_code 18 = .ok (.ldc 7, 2) := by decide +kernel
theorem d0_20 : decode jdk_42_method_149_code 20 = .ok (.getfield 15, 3) := by decide +kernel
theorem d0_23 : decode jdk_42_method_149_code 23 = .ok (.putfield 15, 3) := by decide +kernel
theorem d0_26 : decode jdk_42_method_149_code 26 = .ok (.return_, 1) := by decide +kernel
theorem d1_0 : decode jdk_42_method_3_code 0 = .ok (.aload_n 0, 1) := by decide +kernel
theorem d1_1 : decode jdk_42_method_3_code 1 = .ok (.aload_n 1, 1) := by decide +kernel
theorem d1_2 : decode jdk_42_method_3_code 2 = .ok (.iconst 0, 1) := by decide +kernel
theorem d1_3 : decode jdk_42_method_3_code 3 = .ok (.aload_n 1, 1) := by decide +kernel
theorem d1_4 : decode jdk_42_method_3_code 4 = .ok (.arraylength, 1) := by decide +kernel
theorem d1_5 : decode jdk_42_method_3_code 5 = .ok (.aconst_null, 1) := by decide +kernel
theorem d1_6 : decode jdk_42_method_3_code 6 = .ok (.invokespecial 27, 3) := by decide +kernel
theorem pd_1 : parseMethodDescriptor "([CIILjava/lang/Void;)V" = some ⟨[(.array .char), .int, .int, (.object "java/lang/Void")], none⟩ := by decide +kernel
theorem d1_9 : decode jdk_42_method_3_code 9 = .ok (.return_, 1) := by decide +kernel
theorem pn_2 : plainName "java/lang/StringUTF16" = true := by first | (simp [plainName, overriddenIn]; done) | decide +kernel
theorem d2_0 : decode jdk_52_method_21_code 0 = .ok (.iconst 0, 1) := by decide +kernel
theorem d2_1 : decode jdk_52_method_21_code 1 = .ok (.istore 5, 2) := by decide +kernel
theorem d2_3 : decode jdk_52_method_21_code 3 = .ok (.iload 5, 2) := by decide +kernel
theorem d2_5 : decode jdk_52_method_21_code 5 = .ok (.iload 4, 2) := by decide +kernel
theorem d2_7 : decode jdk_52_method_21_code 7 = .ok (.if_icmp .ge 37, 3) := by decide +kernel
theorem d2_10 : decode jdk_52_method_21_code 10 = .ok (.aload_n 0, 1) := by decide +kernel
theorem d2_11 : decode jdk_52_method_21_code 11 = .ok (.iload_n 1, 1) := by decide +kernel
theorem d2_12 : decode jdk_52_method_21_code 12 = .ok (.caload, 1) := by decide +kernel
theorem d2_13 : decode jdk_52_method_21_code 13 = .ok (.istore 6, 2) := by decide +kernel
theorem d2_15 : decode jdk_52_method_21_code 15 = .ok (.iload 6, 2) := by decide +kernel
theorem d2_17 : decode jdk_52_method_21_code 17 = .ok (.sipush 255, 3) := by decide +kernel
theorem d2_20 : decode jdk_52_method_21_code 20 = .ok (.if_icmp .le 6, 3) := by decide +kernel
theorem d2_26 : decode jdk_52_method_21_code 26 = .ok (.aload_n 2, 1) := by decide +kernel
theorem d2_27 : decode jdk_52_method_21_code 27 = .ok (.iload_n 3, 1) := by decide +kernel
theorem d2_28 : decode jdk_52_method_21_code 28 = .ok (.iload 6, 2) := by decide +kernel
theorem d2_30 : decode jdk_52_method_21_code 30 = .ok (.i2b, 1) := by decide +kernel
theorem d2_31 : decode jdk_52_method_21_code 31 = .ok (.bastore, 1) := by decide +kernel
theorem d2_32 : decode jdk_52_method_21_code 32 = .ok (.iinc 1 1, 3) := by decide +kernel
theorem d2_35 : decode jdk_52_method_21_code 35 = .ok (.iinc 3 1, 3) := by decide +kernel
theorem d2_38 : decode jdk_52_method_21_code 38 = .ok (.iinc 5 1, 3) := by decide +kernel
theorem d2_41 : decode jdk_52_method_21_code 41 = .ok (.goto (-38), 3) := by decide +kernel
theorem d2_44 : decode jdk_52_method_21_code 44 = .ok (.iload 4, 2) := by decide +kernel
theorem d2_46 : decode jdk_52_method_21_code 46 = .ok (.ireturn, 1) := by decide +kernel
theorem d3_0 : decode jdk_52_method_16_code 0 = .ok (.iload_n 2, 1) := by decide +kernel
theorem d3_1 : decode jdk_52_method_16_code 1 = .ok (.newarray .byte, 2) := by decide +kernel
theorem d3_3 : decode jdk_52_method_16_code 3 = .ok (.astore_n 3, 1) := by decide +kernel
theorem d3_4 : decode jdk_52_method_16_code 4 = .ok (.aload_n 0, 1) := by decide +kernel
theorem d3_5 : decode jdk_52_method_16_code 5 = .ok (.iload_n 1, 1) := by decide +kernel
theorem d3_6 : decode jdk_52_method_16_code 6 = .ok (.aload_n 3, 1) := by decide +kernel
theorem d3_7 : decode jdk_52_method_16_code 7 = .ok (.iconst 0, 1) := by decide +kernel
theorem d3_8 : decode jdk_52_method_16_code 8 = .ok (.iload_n 2, 1) := by decide +kernel
theorem d3_9 : decode jdk_52_method_16_code 9 = .ok (.invokestatic 115, 3) := by decide +kernel
theorem pd_3 : parseMethodDescriptor "([CI[BII)I" = some ⟨[(.array .char), .int, (.array .byte), .int, .int], some .int⟩ := by decide +kernel
theorem d3_12 : decode jdk_52_method_16_code 12 = .ok (.istore 4, 2) := by decide +kernel
theorem d3_14 : decode jdk_52_method_16_code 14 = .ok (.iload 4, 2) := by decide +kernel
theorem d3_16 : decode jdk_52_method_16_code 16 = .ok (.iload_n 2, 1) := by decide +kernel
theorem d3_17 : decode jdk_52_method_16_code 17 = .ok (.if_icmp .eq 40, 3) := by decide +kernel
theorem d3_57 : decode jdk_52_method_16_code 57 = .ok (.aload_n 3, 1) := by decide +kernel
theorem d3_58 : decode jdk_52_method_16_code 58 = .ok (.areturn, 1) := by decide +kernel
theorem d4_0 : decode jdk_52_method_15_code 0 = .ok (.iload_n 1, 1) := by decide +kernel
theorem d4_1 : decode jdk_52_method_15_code 1 = .ok (.aload_n 0, 1) := by decide +kernel
theorem d4_2 : decode jdk_52_method_15_code 2 = .ok (.arraylength, 1) := by decide +kernel
theorem d4_3 : decode jdk_52_method_15_code 3 = .ok (.isub, 1) := by decide +kernel
theorem d4_4 : decode jdk_52_method_15_code 4 = .ok (.bipush 31, 2) := by decide +kernel
theorem d4_6 : decode jdk_52_method_15_code 6 = .ok (.iushr, 1) := by decide +kernel
theorem d4_7 : decode jdk_52_method_15_code 7 = .ok (.i2b, 1) := by decide +kernel
theorem d4_8 : decode jdk_52_method_15_code 8 = .ok (.ireturn, 1) := by decide +kernel
theorem d0_27 : decode jdk_42_method_149_code 27 = .ok (.getstatic 38, 3) := by decide +kernel
theorem d0_30 : decode jdk_42_method_149_code 30 = .ok (.ifCond .eq 28, 3) := by decide +kernel
theorem d0_33 : decode jdk_42_method_149_code 33 = .ok (.aload_n 1, 1) := by decide +kernel
theorem d0_34 : decode jdk_42_method_149_code 34 = .ok (.iload_n 2, 1) := by decide +kernel
theorem d0_35 : decode jdk_42_method_149_code 35 = .ok (.iload_n 3, 1) := by decide +kernel
theorem d0_36 : decode jdk_42_method_149_code 36 = .ok (.invokestatic 177, 3) := by decide +kernel
theorem pd_4 : parseMethodDescriptor "([CII)[B" = some ⟨[(.array .char), .int, .int], some (.array .byte)⟩ := by decide +kernel
theorem d0_39 : decode jdk_42_method_149_code 39 = .ok (.astore 5, 2) := by decide +kernel
theorem d0_41 : decode jdk_42_method_149_code 41 = .ok (.aload_n 0, 1) := by decide +kernel
theorem d0_42 : decode jdk_42_method_149_code 42 = .ok (.aload 5, 2) := by decide +kernel
theorem d0_44 : decode jdk_42_method_149_code 44 = .ok (.iload_n 3, 1) := by decide +kernel
theorem d0_45 : decode jdk_42_method_149_code 45 = .ok (.invokestatic 47, 3) := by decide +kernel
theorem pd_5 : parseMethodDescriptor "([BI)B" = some ⟨[(.array .byte), .int], some .byte⟩ := by decide +kernel
theorem d0_48 : decode jdk_42_method_149_code 48 = .ok (.putfield 15, 3) := by decide +kernel
theorem d0_51 : decode jdk_42_method_149_code 51 = .ok (.aload_n 0, 1) := by decide +kernel
theorem d0_52 : decode jdk_42_method_149_code 52 = .ok (.aload 5, 2) := by decide +kernel
theorem d0_54 : decode jdk_42_method_149_code 54 = .ok (.putfield 9, 3) := by decide +kernel
theorem d0_57 : decode jdk_42_method_149_code 57 = .ok (.return_, 1) := by decide +kernel
theorem pn_6 : plainName "java/lang/StringLatin1" = true := by first | (simp [plainName, overriddenIn]; done) | decide +kernel
theorem d5_0 : decode jdk_43_method_3_code 0 = .ok (.iload_n 0, 1) := by decide +kernel
theorem d5_1 : decode jdk_43_method_3_code 1 = .ok (.sipush 255, 3) := by decide +kernel
theorem d5_4 : decode jdk_43_method_3_code 4 = .ok (.if_icmp .gt 7, 3) := by decide +kernel
theorem d5_7 : decode jdk_43_method_3_code 7 = .ok (.iconst 1, 1) := by decide +kernel
theorem d5_8 : decode jdk_43_method_3_code 8 = .ok (.goto 4, 3) := by decide +kernel
theorem d5_12 : decode jdk_43_method_3_code 12 = .ok (.ireturn, 1) := by decide +kernel
theorem d6_0 : decode jdk_43_method_46_code 0 = .ok (.iconst 1, 1) := by decide +kernel
theorem d6_1 : decode jdk_43_method_46_code 1 = .ok (.newarray .byte, 2) := by decide +kernel
theorem d6_3 : decode jdk_43_method_46_code 3 = .ok (.dup, 1) := by decide +kernel
theorem d6_4 : decode jdk_43_method_46_code 4 = .ok (.iconst 0, 1) := by decide +kernel
theorem d6_5 : decode jdk_43_method_46_code 5 = .ok (.iload_n 0, 1) := by decide +kernel
theorem d6_6 : decode jdk_43_method_46_code 6 = .ok (.i2b, 1) := by decide +kernel
theorem d6_7 : decode jdk_43_method_46_code 7 = .ok (.bastore, 1) := by decide +kernel
theorem d6_8 : decode jdk_43_method_46_code 8 = .ok (.areturn, 1) := by decide +kernel
theorem d7_0 : decode jdk_42_method_151_code 0 = .ok (.aload_n 0, 1) := by decide +kernel
theorem d7_1 : decode jdk_42_method_151_code 1 = .ok (.invokespecial 1, 3) := by decide +kernel
theorem d7_4 : decode jdk_42_method_151_code 4 = .ok (.aload_n 0, 1) := by decide +kernel
theorem d7_5 : decode jdk_42_method_151_code 5 = .ok (.aload_n 1, 1) := by decide +kernel
theorem d7_6 : decode jdk_42_method_151_code 6 = .ok (.putfield 9, 3) := by decide +kernel
theorem d7_9 : decode jdk_42_method_151_code 9 = .ok (.aload_n 0, 1) := by decide +kernel
theorem d7_10 : decode jdk_42_method_151_code 10 = .ok (.iload_n 2, 1) := by decide +kernel
theorem d7_11 : decode jdk_42_method_151_code 11 = .ok (.putfield 15, 3) := by decide +kernel
theorem d7_14 : decode jdk_42_method_151_code 14 = .ok (.return_, 1) := by decide +kernel
theorem d8_0 : decode jdk_42_method_139_code 0 = .ok (.getstatic 38, 3) := by decide +kernel
theorem d8_3 : decode jdk_42_method_139_code 3 = .ok (.ifCond .eq 23, 3) := by decide +kernel
theorem d8_6 : decode jdk_42_method_139_code 6 = .ok (.iload_n 0, 1) := by decide +kernel
theorem d8_7 : decode jdk_42_method_139_code 7 = .ok (.invokestatic 1015, 3) := by decide +kernel
theorem pd_7 : parseMethodDescriptor "(C)Z" = some ⟨[.char], some .boolean⟩ := by decide +kernel
theorem d8_10 : decode jdk_42_method_139_code 10 = .ok (.ifCond .eq 16, 3) := by decide +kernel
theorem d8_13 : decode jdk_42_method_139_code 13 = .ok (.new 10, 3) := by decide +kernel
theorem d8_16 : decode jdk_42_method_139_code 16 = .ok (.dup, 1) := by decide +kernel
theorem d8_17 : decode jdk_42_method_139_code 17 = .ok (.iload_n 0, 1) := by decide +kernel
theorem d8_18 : decode jdk_42_method_139_code 18 = .ok (.invokestatic 1018, 3) := by decide +kernel
theorem pd_8 : parseMethodDescriptor "(C)[B" = some ⟨[.char], some (.array .byte)⟩ := by decide +kernel
theorem d8_21 : decode jdk_42_method_139_code 21 = .ok (.iconst 0, 1) := by decide +kernel
theorem d8_22 : decode jdk_42_method_139_code 22 = .ok (.invokespecial 209, 3) := by decide +kernel
theorem pd_9 : parseMethodDescriptor "([BB)V" = some ⟨[(.array .byte), .byte], none⟩ := by decide +kernel
theorem d8_25 : decode jdk_42_method_139_code 25 = .ok (.areturn, 1) := by decide +kernel
theorem pn_10 : plainName "java/util/AbstractCollection" = true := by first | (simp [plainName, overriddenIn]; done) | decide +kernel
theorem d9_0 : decode jdk_22_method_1_code 0 = .ok (.aload_n 0, 1) := by decide +kernel
theorem d9_1 : decode jdk_22_method_1_code 1 = .ok (.invokespecial 1, 3) := by decide +kernel
theorem d9_4 : decode jdk_22_method_1_code 4 = .ok (.return_, 1) := by decide +kernel
theorem pn_11 : plainName "java/util/AbstractList" = true := by first | (simp [plainName, overriddenIn]; done) | decide +kernel
theorem d10_0 : decode jdk_39_method_1_code 0 = .ok (.aload_n 0, 1) := by decide +kernel
theorem d10_1 : decode jdk_39_method_1_code 1 = .ok (.invokespecial 1, 3) := by decide +kernel
theorem pd_12 : parseMethodDescriptor "()V" = some ⟨[], none⟩ := by decide +kernel
theorem d10_4 : decode jdk_39_method_1_code 4 = .ok (.aload_n 0, 1) := by decide +kernel
theorem d10_5 : decode jdk_39_method_1_code 5 = .ok (.iconst 0, 1) := by decide +kernel
theorem d10_6 : decode jdk_39_method_1_code 6 = .ok (.putfield 7, 3) := by decide +kernel
theorem d10_9 : decode jdk_39_method_1_code 9 = .ok (.return_, 1) := by decide +kernel
theorem pn_13 : plainName "java/util/ArrayList" = true := by first | (simp [plainName, overriddenIn]; done) | decide +kernel
theorem d11_0 : decode jdk_38_method_2_code 0 = .ok (.aload_n 0, 1) := by decide +kernel
theorem d11_1 : decode jdk_38_method_2_code 1 = .ok (.invokespecial 1, 3) := by decide +kernel
theorem d11_4 : decode jdk_38_method_2_code 4 = .ok (.aload_n 0, 1) := by decide +kernel
theorem d11_5 : decode jdk_38_method_2_code 5 = .ok (.getstatic 39, 3) := by decide +kernel
theorem d11_8 : decode jdk_38_method_2_code 8 = .ok (.putfield 9, 3) := by decide +kernel
theorem d11_11 : decode jdk_38_method_2_code 11 = .ok (.return_, 1) := by decide +kernel
theorem d12_0 : decode jdk_29_method_65_code 0 = .ok (.iload_n 0, 1) := by decide +kernel
theorem d12_1 : decode jdk_29_method_65_code 1 = .ok (.iload_n 1, 1) := by decide +kernel
theorem d12_2 : decode jdk_29_method_65_code 2 = .ok (.if_icmp .lt 7, 3) := by decide +kernel
theorem d12_5 : decode jdk_29_method_65_code 5 = .ok (.iload_n 0, 1) := by decide +kernel
theorem d12_6 : decode jdk_29_method_65_code 6 = .ok (.goto 4, 3) := by decide +kernel
theorem d12_10 : decode jdk_29_method_65_code 10 = .ok (.ireturn, 1) := by decide +kernel
theorem d13_0 : decode jdk_38_method_6_code 0 = .ok (.aload_n 0, 1) := by decide +kernel
theorem d13_1 : decode jdk_38_method_6_code 1 = .ok (.getfield 9, 3) := by decide +kernel
theorem d13_4 : decode jdk_38_method_6_code 4 = .ok (.arraylength, 1) := by decide +kernel
theorem d13_5 : decode jdk_38_method_6_code 5 = .ok (.istore_n 2, 1) := by decide +kernel
theorem d13_6 : decode jdk_38_method_6_code 6 = .ok (.iload_n 2, 1) := by decide +kernel
theorem d13_7 : decode jdk_38_method_6_code 7 = .ok (.ifCond .gt 13, 3) := by decide +kernel
theorem d13_10 : decode jdk_38_method_6_code 10 = .ok (.aload_n 0, 1) := by decide +kernel
theorem d13_11 : decode jdk_38_method_6_code 11 = .ok (.getfield 9, 3) := by decide +kernel
theorem d13_14 : decode jdk_38_method_6_code 14 = .ok (.getstatic 39, 3) := by decide +kernel
theorem d13_17 : decode jdk_38_method_6_code 17 = .ok (.if_acmp .eq 28, 3) := by decide +kernel
theorem d13_45 : decode jdk_38_method_6_code 45 = .ok (.aload_n 0, 1) := by decide +kernel
theorem d13_46 : decode jdk_38_method_6_code 46 = .ok (.bipush 10, 2) := by decide +kernel
theorem d13_48 : decode jdk_38_method_6_code 48 = .ok (.iload_n 1, 1) := by decide +kernel
theorem d13_49 : decode jdk_38_method_6_code 49 = .ok (.invokestatic 79, 3) := by decide +kernel
theorem pd_14 : parseMethodDescriptor "(II)I" = some ⟨[.int, .int], some .int⟩ := by decide +kernel
theorem d13_52 : decode jdk_38_method_6_code 52 = .ok (.anewarray 7, 3) := by decide +kernel
theorem d13_55 : decode jdk_38_method_6_code 55 = .ok (.dup_x1, 1) := by decide +kernel
theorem d13_56 : decode jdk_38_method_6_code 56 = .ok (.putfield 9, 3) := by decide +kernel
theorem d13_59 : decode jdk_38_method_6_code 59 = .ok (.areturn, 1) := by decide +kernel
theorem d14_0 : decode jdk_38_method_7_code 0 = .ok (.aload_n 0, 1) := by decide +kernel
theorem d14_1 : decode jdk_38_method_7_code 1 = .ok (.aload_n 0, 1) := by decide +kernel
theorem d14_2 : decode jdk_38_method_7_code 2 = .ok (.getfield 48, 3) := by decide +kernel
theorem d14_5 : decode jdk_38_method_7_code 5 = .ok (.iconst 1, 1) := by decide +kernel
theorem d14_6 : decode jdk_38_method_7_code 6 = .ok (.iadd, 1) := by decide +kernel
theorem d14_7 : decode jdk_38_method_7_code 7 = .ok (.invokevirtual 69, 3) := by decide +kernel
theorem pd_15 : parseMethodDescriptor "(I)[Ljava/lang/Object;" = some ⟨[.int], some (.array (.object "java/lang/Object"))⟩ := by decide +kernel
theorem d14_10 : decode jdk_38_method_7_code 10 = .ok (.areturn, 1) := by decide +kernel
theorem d15_0 : decode jdk_38_method_24_code 0 = .ok (.iload_n 3, 1) := by decide +kernel
theorem d15_1 : decode jdk_38_method_24_code 1 = .ok (.aload_n 2, 1) := by decide +kernel
theorem d15_2 : decode jdk_38_method_24_code 2 = .ok (.arraylength, 1) := by decide +kernel
theorem d15_3 : decode jdk_38_method_24_code 3 = .ok (.if_icmp .ne 8, 3) := by decide +kernel
theorem d15_6 : decode jdk_38_method_24_code 6 = .ok (.aload_n 0, 1) := by decide +kernel
theorem d15_7 : decode jdk_38_method_24_code 7 = .ok (.invokevirtual 129, 3) := by decide +kernel
theorem pd_16 : parseMethodDescriptor "()[Ljava/lang/Object;" = some ⟨[], some (.array (.object "java/lang/Object"))⟩ := by decide +kernel
theorem d15_10 : decode jdk_38_method_24_code 10 = .ok (.astore_n 2, 1) := by decide +kernel
theorem d15_11 : decode jdk_38_method_24_code 11 = .ok (.aload_n 2, 1) := by decide +kernel
theorem d15_12 : decode jdk_38_method_24_code 12 = .ok (.iload_n 3, 1) := by decide +kernel
theorem d15_13 : decode jdk_38_method_24_code 13 = .ok (.aload_n 1, 1) := by decide +kernel
theorem d15_14 : decode jdk_38_method_24_code 14 = .ok (.aastore, 1) := by decide +kernel
theorem d15_15 : decode jdk_38_method_24_code 15 = .ok (.aload_n 0, 1) := by decide +kernel
theorem d15_16 : decode jdk_38_method_24_code 16 = .ok (.iload_n 3, 1) := by decide +kernel
theorem d15_17 : decode jdk_38_method_24_code 17 = .ok (.iconst 1, 1) := by decide +kernel
theorem d15_18 : decode jdk_38_method_24_code 18 = .ok (.iadd, 1) := by decide +kernel
theorem d15_19 : decode jdk_38_method_24_code 19 = .ok (.putfield 48, 3) := by decide +kernel
theorem d15_22 : decode jdk_38_method_24_code 22 = .ok (.return_, 1) := by decide +kernel
theorem d16_0 : decode jdk_38_method_25_code 0 = .ok (.aload_n 0, 1) := by decide +kernel
theorem d16_1 : decode jdk_38_method_25_code 1 = .ok (.dup, 1) := by decide +kernel
theorem d16_2 : decode jdk_38_method_25_code 2 = .ok (.getfield 63, 3) := by decide +kernel
theorem d16_5 : decode jdk_38_method_25_code 5 = .ok (.iconst 1, 1) := by decide +kernel
theorem d16_6 : decode jdk_38_method_25_code 6 = .ok (.iadd, 1) := by decide +kernel
theorem d16_7 : decode jdk_38_method_25_code 7 = .ok (.putfield 63, 3) := by decide +kernel
theorem d16_10 : decode jdk_38_method_25_code 10 = .ok (.aload_n 0, 1) := by decide +kernel
theorem d16_11 : decode jdk_38_method_25_code 11 = .ok (.aload_n 1, 1) := by decide +kernel
theorem d16_12 : decode jdk_38_method_25_code 12 = .ok (.aload_n 0, 1) := by decide +kernel
theorem d16_13 : decode jdk_38_method_25_code 13 = .ok (.getfield 9, 3) := by decide +kernel
theorem d16_16 : decode jdk_38_method_25_code 16 = .ok (.aload_n 0, 1) := by decide +kernel
theorem d16_17 : decode jdk_38_method_25_code 17 = .ok (.getfield 48, 3) := by decide +kernel
theorem d16_20 : decode jdk_38_method_25_code 20 = .ok (.invokevirtual 131, 3) := by decide +kernel
theorem pd_17 : parseMethodDescriptor "(Ljava/lang/Object;[Ljava/lang/Object;I)V" = some ⟨[(.object "java/lang/Object"), (.array (.object "java/lang/Object")), .int], none⟩ := by decide +kernel
theorem d16_23 : decode jdk_38_method_25_code 23 = .ok (.iconst 1, 1) := by decide +kernel
theorem d16_24 : decode jdk_38_method_25_code 24 = .ok (.ireturn, 1) := by decide +kernel
theorem d17_0 : decode jdk_42_method_152_code 0 = .ok (.getstatic 38, 3) := by decide +kernel
theorem d17_3 : decode jdk_42_method_152_code 3 = .ok (.ifCond .eq 10, 3) := by decide +kernel
theorem d17_6 : decode jdk_42_method_152_code 6 = .ok (.aload_n 0, 1) := by decide +kernel
theorem d17_7 : decode jdk_42_method_152_code 7 = .ok (.getfield 15, 3) := by decide +kernel
theorem d17_10 : decode jdk_42_method_152_code 10 = .ok (.goto 4, 3) := by decide +kernel
theorem d17_14 : decode jdk_42_method_152_code 14 = .ok (.ireturn, 1) := by decide +kernel
theorem d18_0 : decode jdk_42_method_154_code 0 = .ok (.getstatic 38, 3) := by decide +kernel
theorem d18_3 : decode jdk_42_method_154_code 3 = .ok (.ifCond .eq 14, 3) := by decide +kernel
theorem d18_6 : decode jdk_42_method_154_code 6 = .ok (.aload_n 0, 1) := by decide +kernel
theorem d18_7 : decode jdk_42_method_154_code 7 = .ok (.getfield 15, 3) := by decide +kernel
theorem d18_10 : decode jdk_42_method_154_code 10 = .ok (.ifCond .ne 7, 3) := by decide +kernel
theorem d18_13 : decode jdk_42_method_154_code 13 = .ok (.iconst 1, 1) := by decide +kernel
theorem d18_14 : decode jdk_42_method_154_code 14 = .ok (.goto 4, 3) := by decide +kernel
theorem d18_18 : decode jdk_42_method_154_code 18 = .ok (.ireturn, 1) := by decide +kernel
theorem d19_0 : decode jdk_42_method_54_code 0 = .ok (.aload_n 0, 1) := by decide +kernel
theorem d19_1 : decode jdk_42_method_54_code 1 = .ok (.getfield 9, 3) := by decide +kernel
theorem d19_4 : decode jdk_42_method_54_code 4 = .ok (.arraylength, 1) := by decide +kernel
theorem d19_5 : decode jdk_42_method_54_code 5 = .ok (.aload_n 0, 1) := by decide +kernel
theorem d19_6 : decode jdk_42_method_54_code 6 = .ok (.invokevirtual 335, 3) := by decide +kernel
theorem pd_18 : parseMethodDescriptor "()B" = some ⟨[], some .byte⟩ := by decide +kernel
theorem d19_9 : decode jdk_42_method_54_code 9 = .ok (.ishr, 1) := by decide +kernel
theorem d19_10 : decode jdk_42_method_54_code 10 = .ok (.ireturn, 1) := by decide +kernel
theorem pn_19 : plainName "jdk/internal/util/Preconditions" = true := by first | (simp [plainName, overriddenIn]; done) | decide +kernel
theorem d20_0 : decode jdk_41_method_11_code 0 = .ok (.iload_n 0, 1) := by decide +kernel
theorem d20_1 : decode jdk_41_method_11_code 1 = .ok (.ifCond .lt 8, 3) := by decide +kernel
theorem d20_4 : decode jdk_41_method_11_code 4 = .ok (.iload_n 0, 1) := by decide +kernel
theorem d20_5 : decode jdk_41_method_11_code 5 = .ok (.iload_n 1, 1) := by decide +kernel
theorem d20_6 : decode jdk_41_method_11_code 6 = .ok (.if_icmp .lt 10, 3) := by decide +kernel
theorem d20_16 : decode jdk_41_method_11_code 16 = .ok (.iload_n 0, 1) := by decide +kernel
theorem d20_17 : decode jdk_41_method_11_code 17 = .ok (.ireturn, 1) := by decide +kernel
theorem pn_20 : plainName "java/util/Objects" = true := by first | (simp [plainName, overriddenIn]; done) | decide +kernel
theorem d21_0 : decode jdk_31_method_17_code 0 = .ok (.iload_n 0, 1) := by decide +kernel
theorem d21_1 : decode jdk_31_method_17_code 1 = .ok (.iload_n 1, 1) := by decide +kernel
theorem d21_2 : decode jdk_31_method_17_code 2 = .ok (.aconst_null, 1) := by decide +kernel
theorem d21_3 : decode jdk_31_method_17_code 3 = .ok (.invokestatic 105, 3) := by decide +kernel
theorem pd_21 : parseMethodDescriptor "(IILjava/util/function/BiFunction;)I" = some ⟨[.int, .int, (.object "java/util/function/BiFunction")], some .int⟩ := by decide +kernel
theorem d21_6 : decode jdk_31_method_17_code 6 = .ok (.ireturn, 1) := by decide +kernel
theorem d22_0 : decode jdk_42_method_155_code 0 = .ok (.iload_n 0, 1) := by decide +kernel
theorem d22_1 : decode jdk_42_method_155_code 1 = .ok (.iload_n 1, 1) := by decide +kernel
theorem d22_2 : decode jdk_42_method_155_code 2 = .ok (.getstatic 1053, 3) := by decide +kernel
theorem d22_5 : decode jdk_42_method_155_code 5 = .ok (.invokestatic 1059, 3) := by decide +kernel
theorem d22_8 : decode jdk_42_method_155_code 8 = .ok (.pop, 1) := by decide +kernel
theorem d22_9 : decode jdk_42_method_155_code 9 = .ok (.return_, 1) := by decide +kernel
theorem d23_0 : decode jdk_43_method_2_code 0 = .ok (.iload_n 1, 1) := by decide +kernel
theorem d23_1 : decode jdk_43_method_2_code 1 = .ok (.aload_n 0, 1) := by decide +kernel
theorem d23_2 : decode jdk_43_method_2_code 2 = .ok (.arraylength, 1) := by decide +kernel
theorem d23_3 : decode jdk_43_method_2_code 3 = .ok (.invokestatic 9, 3) := by decide +kernel
theorem pd_22 : parseMethodDescriptor "(II)V" = some ⟨[.int, .int], none⟩ := by decide +kernel
theorem d23_6 : decode jdk_43_method_2_code 6 = .ok (.aload_n 0, 1) := by decide +kernel
theorem d23_7 : decode jdk_43_method_2_code 7 = .ok (.iload_n 1, 1) := by decide +kernel
theorem d23_8 : decode jdk_43_method_2_code 8 = .ok (.baload, 1) := by decide +kernel
theorem d23_9 : decode jdk_43_method_2_code 9 = .ok (.sipush 255, 3) := by decide +kernel
theorem d23_12 : decode jdk_43_method_2_code 12 = .ok (.iand, 1) := by decide +kernel
theorem d23_13 : decode jdk_43_method_2_code 13 = .ok (.i2c, 1) := by decide +kernel
theorem d23_14 : decode jdk_43_method_2_code 14 = .ok (.ireturn, 1) := by decide +kernel
theorem d24_0 : decode jdk_42_method_56_code 0 = .ok (.aload_n 0, 1) := by decide +kernel
theorem d24_1 : decode jdk_42_method_56_code 1 = .ok (.invokevirtual 492, 3) := by decide +kernel
theorem pd_23 : parseMethodDescriptor "()Z" = some ⟨[], some .boolean⟩ := by decide +kernel
theorem d24_4 : decode jdk_42_method_56_code 4 = .ok (.ifCond .eq 12, 3) := by decide +kernel
theorem d24_7 : decode jdk_42_method_56_code 7 = .ok (.aload_n 0, 1) := by decide +kernel
theorem d24_8 : decode jdk_42_method_56_code 8 = .ok (.getfield 9, 3) := by decide +kernel
theorem d24_11 : decode jdk_42_method_56_code 11 = .ok (.iload_n 1, 1) := by decide +kernel
theorem d24_12 : decode jdk_42_method_56_code 12 = .ok (.invokestatic 495, 3) := by decide +kernel
theorem pd_24 : parseMethodDescriptor "([BI)C" = some ⟨[(.array .byte), .int], some .char⟩ := by decide +kernel
theorem d24_15 : decode jdk_42_method_56_code 15 = .ok (.ireturn, 1) := by decide +kernel
theorem d25_0 : decode jdk_38_method_18_code 0 = .ok (.aload_n 0, 1) := by decide +kernel
theorem d25_1 : decode jdk_38_method_18_code 1 = .ok (.getfield 9, 3) := by decide +kernel
theorem d25_4 : decode jdk_38_method_18_code 4 = .ok (.iload_n 1, 1) := by decide +kernel
theorem d25_5 : decode jdk_38_method_18_code 5 = .ok (.aaload, 1) := by decide +kernel
theorem d25_6 : decode jdk_38_method_18_code 6 = .ok (.areturn, 1) := by decide +kernel
theorem d26_0 : decode jdk_38_method_20_code 0 = .ok (.iload_n 1, 1) := by decide +kernel
theorem d26_1 : decode jdk_38_method_20_code 1 = .ok (.aload_n 0, 1) := by decide +kernel
theorem d26_2 : decode jdk_38_method_20_code 2 = .ok (.getfield 48, 3) := by decide +kernel
theorem d26_5 : decode jdk_38_method_20_code 5 = .ok (.invokestatic 118, 3) := by decide +kernel
theorem d26_8 : decode jdk_38_method_20_code 8 = .ok (.pop, 1) := by decide +kernel
theorem d26_9 : decode jdk_38_method_20_code 9 = .ok (.aload_n 0, 1) := by decide +kernel
theorem d26_10 : decode jdk_38_method_20_code 10 = .ok (.iload_n 1, 1) := by decide +kernel
theorem d26_11 : decode jdk_38_method_20_code 11 = .ok (.invokevirtual 123, 3) := by decide +kernel
theorem pd_25 : parseMethodDescriptor "(I)Ljava/lang/Object;" = some ⟨[.int], some (.object "java/lang/Object")⟩ := by decide +kernel
theorem d26_14 : decode jdk_38_method_20_code 14 = .ok (.areturn, 1) := by decide +kernel
theorem d27_0 : decode jdk_38_method_8_code 0 = .ok (.aload_n 0, 1) := by decide +kernel
theorem d27_1 : decode jdk_38_method_8_code 1 = .ok (.getfield 48, 3) := by decide +kernel
theorem d27_4 : decode jdk_38_method_8_code 4 = .ok (.ireturn, 1) := by decide +kernel
theorem pn_26 : plainName "com/example/admit/admit/command/Program" = true := by first | (simp [plainName, overriddenIn]; done) | decide +kernel
theorem d28_0 : decode prog_6_method_1_code 0 = .ok (.aload_n 0, 1) := by decide +kernel
theorem d28_1 : decode prog_6_method_1_code 1 = .ok (.invokespecial 1, 3) := by decide +kernel
theorem d28_4 : decode prog_6_method_1_code 4 = .ok (.aload_n 0, 1) := by decide +kernel
theorem d28_5 : decode prog_6_method_1_code 5 = .ok (.aload_n 1, 1) := by decide +kernel
theorem d28_6 : decode prog_6_method_1_code 6 = .ok (.putfield 7, 3) := by decide +kernel
theorem d28_9 : decode prog_6_method_1_code 9 = .ok (.return_, 1) := by decide +kernel
theorem d29_0 : decode prog_6_method_7_code 0 = .ok (.aload_n 0, 1) := by decide +kernel
theorem d29_1 : decode prog_6_method_7_code 1 = .ok (.getfield 7, 3) := by decide +kernel
theorem d29_4 : decode prog_6_method_7_code 4 = .ok (.iconst 0, 1) := by decide +kernel
theorem d29_5 : decode prog_6_method_7_code 5 = .ok (.invokeinterface 137 2, 5) := by decide +kernel
theorem d29_10 : decode prog_6_method_7_code 10 = .ok (.checkcast 40, 3) := by decide +kernel
theorem d29_13 : decode prog_6_method_7_code 13 = .ok (.areturn, 1) := by decide +kernel
theorem pn_27 : plainName "com/example/admit/admit/command/ProgramNamePinLaw" = true := by first | (simp [plainName, overriddenIn]; done) | decide +kernel
theorem pd_28 : parseMethodDescriptor "([C)V" = some ⟨[(.array .char)], none⟩ := by decide +kernel
theorem pd_29 : parseMethodDescriptor "(C)Ljava/lang/String;" = some ⟨[.char], some (.object "java/lang/String")⟩ := by decide +kernel
theorem pd_30 : parseMethodDescriptor "(Ljava/lang/Object;)Z" = some ⟨[(.object "java/lang/Object")], some .boolean⟩ := by decide +kernel
theorem pd_31 : parseMethodDescriptor "(Ljava/util/List;)V" = some ⟨[(.object "java/util/List")], none⟩ := by decide +kernel
theorem pd_32 : parseMethodDescriptor "()Ljava/lang/String;" = some ⟨[], some (.object "java/lang/String")⟩ := by decide +kernel
theorem pd_33 : parseMethodDescriptor "()I" = some ⟨[], some .int⟩ := by decide +kernel
theorem pd_34 : parseMethodDescriptor "(I)C" = some ⟨[.int], some .char⟩ := by decide +kernel
def own_EL : List (String × Nat) := [("java/lang/String", 7)]
theorem own_EW {Z : State} {a0 : Array Value} (hw : ∀ d ∈ tables_1, d.before a0 Z = true) : EW Z a0 own_EL := (EW.cons (hwi hw 169 rfl) (by decide) EW.nil)
theorem own_SA0 : ∀ d ∈ Jvm.Bundle.stringAtoms, d ∈ tables_1 := by decide +kernel
theorem own_SA {Z : State} {a0 : Array Value} (hw : ∀ d ∈ tables_1, d.before a0 Z = true) : ∀ d ∈ Jvm.Bundle.stringAtoms, d.before a0 Z = true := fun d hd => hw d (own_SA0 d hd)
theorem own_nsroot {Z : State} {a0 : Array Value} {O K : String} {n : Nat} (w : (Jvm.Cond.noSuperclass O).before a0 Z = true) (wk : (Jvm.Cond.instantiable K n).before a0 Z = true) (hn : O ≠ K) : NS Z O K := by
  obtain ⟨c, k, h1, h2, h3, -, -⟩ := Cond.noSuperclass_spec w
  obtain ⟨t, kt, g1, -⟩ := Cond.instantiable_spec wk
  have ne := ids_ne h1 g1 hn
  refine ⟨c, t, h1, g1, fun fuel => ?_⟩
  cases fuel with
  | zero => rfl
  | succ f => simp [Vm.isSubclassAux, ne, h2, h3]
theorem own_nsno {Z : State} {a0 : Array Value} {C S K : String} {n : Nat} (w : (Jvm.Cond.superclass C S).before a0 Z = true) (wk : (Jvm.Cond.instantiable K n).before a0 Z = true) (ns : NS Z C K) (hn : C ≠ K) : ∃ c t, Z.vm.findClass C = some c ∧ Z.vm.findClass K = some t ∧ Z.vm.assignable c t = false := by
  obtain ⟨c, t, h0, g0, n3⟩ := ns
  obtain ⟨p, k, kp, h1, h2, h3, h4, h5, -, h7⟩ := Cond.superclass_spec h0 w
  obtain ⟨t', kt, g1, g2, g3, g4, -⟩ := Cond.instantiable_spec wk
  cases g0.symm.trans g1
  have g5 : kt.isInterface = false := by
    cases hq : kt.isInterface with
    | false => rfl
    | true => rw [hq] at g4; simp at g4
  have ne := ids_ne h0 g0 hn
  refine ⟨c, t, h0, g0, ?_⟩
  show Z.vm.assignableAux (255 + 1) c t = false
  simp [Vm.assignableAux, ne, h2, g2, h5, g3, g5, Vm.isSubclass, n3]
theorem own_len {args : Array Value} {Z : State} {t : Term} {a : Addr} {cl : Cell} {ty : FieldType} {z : Int32} (ht : t.eval args Z none [] Z = some (.ref a)) (A : Arr Z Z.heap a cl ty) (e : (Term.length t).eval args Z none [] Z = some (.int z)) : cl.slots.size < 2 ^ 31 ∧ cl.slots.size.toInt32 = z := by
  have hA := A.fin (Vm.Alike.refl _)
  by_cases hn : cl.slots.size < 2 ^ 31
  · exact ⟨hn, Value.int.inj (Option.some.inj ((len_f ht hA hn).symm.trans e))⟩
  · exfalso
    simp [Term.eval, ht, hA, hn] at e
theorem own_idx {args : Array Value} {Z : State} {j : Int32} (hj : ¬ j < 0) : (Term.sub (.index 0) (.int 128)).eval args Z none [j.toNatClampNeg] Z = some (.int (j - 128)) := by
  have e := idx_at (args := args) (first := Z) (s := Z) (o := none) hj
  simp only [Term.eval] at e ⊢
  simp [e, (back32 hj).1]
theorem own_nb (x : Int32) : nar .byte x.toInt8.toInt32 = x.toInt8.toInt32 := by simp [nar]
theorem own_ch (x : Int32) : ¬ (255 : Int32) < (x &&& 255).toUInt32.toUInt16.toUInt32.toInt32 ∧ ¬ (x &&& 255).toUInt32.toUInt16.toUInt32.toInt32 < 0 := by
  have e1 : (255 : Int32).toInt = 255 := by decide
  have e2 : (0 : Int32).toInt = 0 := by decide
  have q := c_and x 255 (by decide)
  rw [i2c_mask]
  simp only [Int32.lt_iff_toInt_lt, e1, e2] at *
  omega
theorem own_nc (x : Int32) : nar .char x.toUInt32.toUInt16.toUInt32.toInt32 = x.toUInt32.toUInt16.toUInt32.toInt32 := by simp only [nar, UInt32.toUInt32_toInt32, UInt16.toUInt16_toUInt32]
theorem own_q4 (x : Int32) : x &&& 3 = 0 ∨ x &&& 3 = 1 ∨ x &&& 3 = 2 ∨ x &&& 3 = 3 := by
  have q := c_and x 3 (by decide)
  have e0 : (0 : Int32).toInt = 0 := by decide
  have e1 : (1 : Int32).toInt = 1 := by decide
  have e2 : (2 : Int32).toInt = 2 := by decide
  have e3 : (3 : Int32).toInt = 3 := by decide
  rw [e3] at q
  simp only [← Int32.toInt_inj, e0, e1, e2, e3]
  omega
theorem own_sh0 (x : Int32) : x >>> ((0 : Int32) &&& 31) = x := by
  have e : ((0 : Int32) &&& 31) = 0 := by decide
  rw [e]
  apply Int32.toBitVec_inj.mp
  simp
theorem own_backF : ∀ k : Fin 256, (((Int32.ofInt k.val).toInt8.toInt32 &&& 255).toUInt32.toUInt16.toUInt32.toInt32) = Int32.ofInt k.val := by decide +kernel
theorem own_back {y : Int32} (h1 : ¬ (255 : Int32) < y) (h2 : ¬ y < 0) : (y.toInt8.toInt32 &&& 255).toUInt32.toUInt16.toUInt32.toInt32 = y := by
  have e : y = Int32.ofInt y.toInt := (Int32.ofInt_toInt y).symm
  have e1 : (255 : Int32).toInt = 255 := by decide
  have e2 : (0 : Int32).toInt = 0 := by decide
  simp only [Int32.lt_iff_toInt_lt, e1, e2] at h1 h2
  obtain ⟨k, hk⟩ : ∃ k : Nat, y.toInt = k := ⟨y.toInt.toNat, by omega⟩
  have q := own_backF ⟨k, by omega⟩
  rw [e, hk]
  exact q
set_option maxRecDepth 65536 in
set_option maxHeartbeats 40000000 in
theorem rm_new4_0 {l : Launch} {Z : State} {a0 : Array Value} (hw : ∀ d ∈ tables_1, d.before a0 Z = true) (a aC : Addr) (kC : ClassId) (h0 : Heap) (O0 : Ext Z.heap h0) (f0 : Z.heap.size ≤ a) (E0 : Exa Z h0 a "java/lang/String") (FV : Fld Z h0 a "java/lang/String" "value" "[B" .null) (FC : Fld Z h0 a "java/lang/String" "coder" "B" (.int 0)) (VC : Arv Z h0 aC kC .char (0 : Int32) [] (.int 0)) (ne0 : a ≠ aC) :
    ConW l (⟨"java/lang/String", "<init>", "([CIILjava/lang/Void;)V"⟩ : MethodName) jdk_42_method_149_code 6 none ({ frames := 1, cells := 4, slots := 8, locals := 12 } : Room) Z own_EL #[(.ref a), (.ref aC), (.int (0 : Int32)), (.int (0 : Int32)), .null] h0 (fun v h L => ∃ (b : Addr) (k : ClassId), v = none ∧ Fr Z.heap.size L ∧ Keep h0 h [a] ∧ Fld Z h a "java/lang/String" "value" "[B" (.ref b) ∧ Fld Z h a "java/lang/String" "coder" "B" (.int 0) ∧ Arv Z h b k .byte (0 : Int32) [] (.int 0) ∧ a ≠ b) := by
  refine ConW.of (plainFor_of_name pn_0) (Ls := #[rv a, rv aC, iv (0 : Int32), iv (0 : Int32), .val .null, .unset]) (fun m => efOf rfl) ?_
  intro p e s m below meth c T0 X0 hx hZ hby hml hown hnm hret hlk e0 hs0 hS hk H0
  have SFa : Safe Z own_EL s.vm h0 a := own_sfnull hZ.alike E0 FV
  refine go (fun _ => XS.aloadN X0.here hx rfl (hb hby d0_0) rfl rfl) ?_
  show Ends p e below _ T0 (mkF m 1 #[rv a, rv aC, iv (0 : Int32), iv (0 : Int32), .val .null, .unset] [(.ref a)])
  obtain ⟨T1, X1, e1, s1⟩ := initO X0 hx hZ hown (hwi hw 11 rfl) (hwi hw 12 rfl) (hwi hw 13 rfl) e0 (g := (mkF m 1 #[rv a, rv aC, iv (0 : Int32), iv (0 : Int32), .val .null, .unset] [(.ref a)])) rfl (by rw [hml]; rfl) rfl (hb hby d0_1) (by decide) (W := 0) (by show 2 * 0 + _ ≤ _; exact Nat.le_of_eq rfl) (by decide)
  refine go s1 ?_
  show Ends p e below _ T1 (mkF m 4 #[rv a, rv aC, iv (0 : Int32), iv (0 : Int32), .val .null, .unset] [])
  refine go (fun _ => XS.iloadN X1.here hx rfl (hb hby d0_4) rfl) ?_
  show Ends p e below _ T1 (mkF m 5 #[rv a, rv aC, iv (0 : Int32), iv (0 : Int32), .val .null, .unset] [(.int (0 : Int32))])
  refine go (fun _ => XS.ifNo X1.here hx rfl (hb hby d0_5) rfl (XT.i0_ne_f ((by decide) : (0 : Int32) = (0 : Int32)))) ?_
  show Ends p e below _ T1 (mkF m 8 #[rv a, rv aC, iv (0 : Int32), iv (0 : Int32), .val .null, .unset] [])
  refine go (fun _ => XS.aloadN X1.here hx rfl (hb hby d0_8) rfl rfl) ?_
  show Ends p e below _ T1 (mkF m 9 #[rv a, rv aC, iv (0 : Int32), iv (0 : Int32), .val .null, .unset] [(.ref a)])
  obtain ⟨a2, T2, h2, k2w, b2, k2, X2, e2, E2, hS, hk, hZ, hown, Ea2, Fc2, Fv2, Vb2, la2, lb2, C2, -, ne2, s2⟩ := ldcCH X1 hx hZ hown (hwi hw 169 rfl) (own_SA hw) e1 hS hk (own_EW hw) (by decide) H0.1 (vs := ([] : List Value)) (z := (0 : Int32)) (by decide) (by decide) (by decide) (g := (mkF m 9 #[rv a, rv aC, iv (0 : Int32), iv (0 : Int32), .val .null, .unset] [(.ref a)])) rfl (hb hby d0_9) (n := 0) (by decide) (by decide) (by decide) (by decide)
  have H3 := H0.trans C2
  have O4 : Ext Z.heap h2 := xx O0 E2
  have F5 := (CHr.safe C2 (E0.lt) SFa)
  refine go s2 ?_
  show Ends p e below _ T2 (mkF m 11 #[rv a, rv aC, iv (0 : Int32), iv (0 : Int32), .val .null, .unset] [(.ref a2), (.ref a)])
  obtain ⟨T6, X6, e6, s6⟩ := getF X2 hx hZ hown (host := "") (Or.inl (hwi hw 28 rfl)) Via.refl e2 Fv2 (g := (mkF m 11 #[rv a, rv aC, iv (0 : Int32), iv (0 : Int32), .val .null, .unset] [(.ref a2), (.ref a)])) rfl rfl (hb hby d0_11)
  refine go s6 ?_
  show Ends p e below _ T6 (mkF m 14 #[rv a, rv aC, iv (0 : Int32), iv (0 : Int32), .val .null, .unset] [(.ref b2), (.ref a)])
  have F7 := (Exa.ext E2 E0)
  have F8 := (Fld.ext E2 FV)
  obtain ⟨T9, h9, X9, e9, W9, s9⟩ := putF X6 hx hZ hown (host := "") (Or.inl (hwi hw 28 rfl)) Via.refl e6 F8 F7 (Or.inr ⟨(hwi hw 29 rfl), rfl, hnm⟩) (hwi hw 1 rfl) (ty := (.array .byte)) (by decide) rfl rfl (g := (mkF m 14 #[rv a, rv aC, iv (0 : Int32), iv (0 : Int32), .val .null, .unset] [(.ref b2), (.ref a)])) rfl rfl (hb hby d0_14)
  have N9 := Fr.snoc X9 (Fr.nil _) f0
  have C10 : CHr Z own_EL T2.vm h2 T2.vm h9 := CHr.wr W9 F5 H3.1
  have hk := Nat.le_trans hk C10.2.1
  have H10 := H3.trans C10
  have O11 : Ext Z.heap h9 := xw O4 W9 f0
  refine go s9 ?_
  show Ends p e below _ T9 (mkF m 17 #[rv a, rv aC, iv (0 : Int32), iv (0 : Int32), .val .null, .unset] [])
  refine go (fun _ => XS.aloadN X9.here hx rfl (hb hby d0_17) rfl rfl) ?_
  show Ends p e below _ T9 (mkF m 18 #[rv a, rv aC, iv (0 : Int32), iv (0 : Int32), .val .null, .unset] [(.ref a)])
  obtain ⟨a12, T12, h12, k12w, b12, k12, X12, e12, E12, hS, hk, hZ, hown, Ea12, Fc12, Fv12, Vb12, la12, lb12, C12, -, ne12, s12⟩ := ldcCH X9 hx hZ hown (hwi hw 169 rfl) (own_SA hw) e9 hS hk (own_EW hw) (by decide) H10.1 (vs := ([] : List Value)) (z := (0 : Int32)) (by decide) (by decide) (by decide) (g := (mkF m 18 #[rv a, rv aC, iv (0 : Int32), iv (0 : Int32), .val .null, .unset] [(.ref a)])) rfl (hb hby d0_18) (n := 0) (by decide) (by decide) (by decide) (by decide)
  have F13 := (Exa.wr W9 F7)
  have H14 := H10.trans C12
  have O15 : Ext Z.heap h12 := xx O11 E12
  have F16 := (CHr.safe C12 (F13.lt) (Safe.wr W9 F5 H3.1 F5))
  refine go s12 ?_
  show Ends p e below _ T12 (mkF m 20 #[rv a, rv aC, iv (0 : Int32), iv (0 : Int32), .val .null, .unset] [(.ref a12), (.ref a)])
  obtain ⟨T17, X17, e17, s17⟩ := getF X12 hx hZ hown (host := "") (Or.inl (hwi hw 26 rfl)) Via.refl e12 Fc12 (g := (mkF m 20 #[rv a, rv aC, iv (0 : Int32), iv (0 : Int32), .val .null, .unset] [(.ref a12), (.ref a)])) rfl rfl (hb hby d0_20)
  refine go s17 ?_
  show Ends p e below _ T17 (mkF m 23 #[rv a, rv aC, iv (0 : Int32), iv (0 : Int32), .val .null, .unset] [(.int (0 : Int32)), (.ref a)])
  have F18 := (Exa.ext E12 F13)
  have F19 := (Fld.ext E12 (Fld.other W9 (Fld.ext E2 FC) (Or.inr (slot_ne (a0 := a0) (Or.inr (hwi hw 27 rfl)) (Or.inr (hwi hw 29 rfl)) (by decide) (t := .byte) (t' := (.array .byte)) (by decide) (by decide)))))
  obtain ⟨T20, h20, X20, e20, W20, s20⟩ := putF X17 hx hZ hown (host := "") (Or.inl (hwi hw 26 rfl)) Via.refl e17 F19 F18 (Or.inr ⟨(hwi hw 27 rfl), rfl, hnm⟩) (hwi hw 1 rfl) (ty := .byte) (by decide) rfl rfl (g := (mkF m 23 #[rv a, rv aC, iv (0 : Int32), iv (0 : Int32), .val .null, .unset] [(.int (0 : Int32)), (.ref a)])) rfl rfl (hb hby d0_23)
  have N20 := Fr.snoc X20 N9 f0
  have C21 : CHr Z own_EL T12.vm h12 T12.vm h20 := CHr.wr W20 F16 H14.1
  have hk := Nat.le_trans hk C21.2.1
  have H21 := H14.trans C21
  have O22 : Ext Z.heap h20 := xw O15 W20 f0
  refine go s20 ?_
  show Ends p e below _ T20 (mkF m 26 #[rv a, rv aC, iv (0 : Int32), iv (0 : Int32), .val .null, .unset] [])
  have K23 : Keep h0 h20 [a] := (Keep.wr (Keep.ext (Keep.wr (Keep.ext (Keep.refl _ _) E2) W9 (Or.inl (List.mem_of_getElem? (i := 0) rfl))) E12) W20 (Or.inl (List.mem_of_getElem? (i := 0) rfl)))
  have F24 := (Fld.other W20 (Fld.ext E12 (Fld.same W9 F8)) (Or.inr (slot_ne (a0 := a0) (Or.inr (hwi hw 29 rfl)) (Or.inr (hwi hw 27 rfl)) (by decide) (t := (.array .byte)) (t' := .byte) (by decide) (by decide))))
  have F25 := (Fld.same W20 F19)
  have F26 := (Arv.other (Arv.ext (Arv.other Vb2 W9 (Ne.symm (ne2 _ F5).2)) E12) W20 (Ne.symm (ne2 _ F5).2))
  exact endV X20 hx hret (hb hby d0_26) (lvW X20 hlk hZ (own_EW hw) hs0 hS hk H21 e20 (fun _ => rfl) ⟨b2, _, rfl, N20, K23, F24, F25, F26, (ne2 _ F5).2⟩ (by decide) (by decide))
set_option maxRecDepth 65536 in
set_option maxHeartbeats 40000000 in
theorem rm_new1_0 {l : Launch} {Z : State} {a0 : Array Value} (hw : ∀ d ∈ tables_1, d.before a0 Z = true) (a aC : Addr) (kC : ClassId) (h0 : Heap) (O0 : Ext Z.heap h0) (f0 : Z.heap.size ≤ a) (E0 : Exa Z h0 a "java/lang/String") (FV : Fld Z h0 a "java/lang/String" "value" "[B" .null) (FC : Fld Z h0 a "java/lang/String" "coder" "B" (.int 0)) (VC : Arv Z h0 aC kC .char (0 : Int32) [] (.int 0)) (ne0 : a ≠ aC) :
    ConW l (⟨"java/lang/String", "<init>", "([C)V"⟩ : MethodName) jdk_42_method_3_code 2 none ({ frames := 2, cells := 4, slots := 8, locals := 29 } : Room) Z own_EL #[(.ref a), (.ref aC)] h0 (fun v h L => ∃ (b : Addr) (k : ClassId), v = none ∧ Fr Z.heap.size L ∧ Keep h0 h [a] ∧ Fld Z h a "java/lang/String" "value" "[B" (.ref b) ∧ Fld Z h a "java/lang/String" "coder" "B" (.int 0) ∧ Arv Z h b k .byte (0 : Int32) [] (.int 0) ∧ a ≠ b) := by
  refine ConW.of (plainFor_of_name pn_0) (Ls := #[rv a, rv aC]) (fun m => efOf rfl) ?_
  intro p e s m below meth c T0 X0 hx hZ hby hml hown hnm hret hlk e0 hs0 hS hk H0
  have SFa : Safe Z own_EL s.vm h0 a := own_sfnull hZ.alike E0 FV
  refine go (fun _ => XS.aloadN X0.here hx rfl (hb hby d1_0) rfl rfl) ?_
  refine go (fun _ => XS.aloadN X0.here hx rfl (hb hby d1_1) rfl rfl) ?_
  refine go (fun _ => XT.iconstV X0.here hx rfl (0 : Int32) (hb hby d1_2) (by decide)) ?_
  refine go (fun _ => XS.aloadN X0.here hx rfl (hb hby d1_3) rfl rfl) ?_
  show Ends p e below _ T0 (mkF m 4 #[rv a, rv aC] [(.ref aC), (.int (0 : Int32)), (.ref aC), (.ref a)])
  obtain ⟨cl27, A27, -, S27, M27, -⟩ := id VC
  refine go (fun _ => X0.arraylength hx (cell := cl27) (by rw [e0]; exact A27.1) (State.isArrayOf_alike hZ.alike A27.2.1) (g := (mkF m 4 #[rv a, rv aC] [(.ref aC), (.int (0 : Int32)), (.ref aC), (.ref a)])) rfl rfl (hb hby d1_4) _) ?_
  rw [len_of S27 M27]
  show Ends p e below _ T0 (mkF m 5 #[rv a, rv aC] [(.int (0 : Int32)), (.int (0 : Int32)), (.ref aC), (.ref a)])
  refine go (fun _ => XS.aconstNull X0.here hx rfl (hb hby d1_5)) ?_
  show Ends p e below _ T0 (mkF m 6 #[rv a, rv aC] [.null, (.int (0 : Int32)), (.int (0 : Int32)), (.ref aC), (.ref a)])
  refine cInitW X0 hx hZ hown (by rw [hml]; rfl) e0 (own_EW hw) hS hk H0.1 (hwi hw 7 rfl) (hwi hw 8 rfl) (hwi hw 2 rfl) (hwi hw 10 rfl) a [(.ref aC), (.int (0 : Int32)), (.int (0 : Int32)), .null] [] rfl (rm_new4_0 hw a aC kC _ O0 f0 E0 FV FC VC ne0) (hb hby d1_6) rfl (lenOf pd_1 rfl) rfl (by decide) (by decide) (Nat.le_of_ble_eq_true rfl) (by decide) (by decide) ?_
  rintro v28 T28 h28 L28 k28w X28 e28 hS hk hZ hown C28w ⟨b28, k28, rfl, N28, K28, Fv28, Fc28, V28, nb28⟩
  have N28a := Fr.app (Fr.nil _) N28
  have H29 := H0.trans C28w
  have O30 : Ext Z.heap h28 := xk O0 K28 (allS f0 all0)
  show Ends p e below _ T28 (mkF m 9 #[rv a, rv aC] [])
  have K31 : Keep h0 h28 [a] := (Keep.trans (Keep.refl _ _) K28 (allS (Or.inl (List.mem_of_getElem? (i := 0) rfl)) all0))
  exact endV X28 hx hret (hb hby d1_9) (lvW X28 hlk hZ (own_EW hw) hs0 hS hk H29 e28 (fun _ => rfl) ⟨b28, _, rfl, N28a, K31, Fv28, Fc28, V28, nb28⟩ (by decide) (by decide))
set_option maxRecDepth 65536 in
set_option maxHeartbeats 40000000 in
theorem rm_cmp5_2 {l : Launch} {Z : State} {a0 : Array Value} (hw : ∀ d ∈ tables_1, d.before a0 Z = true) (aC aB : Addr) (kC kB : ClassId) (y0 y1 : Int32)  (h0 : Heap) (O0 : Ext Z.heap h0) (f0 : Z.heap.size ≤ aB) (ne0 : aC ≠ aB) (VC : Arv Z h0 aC kC .char (2 : Int32) [(.int y0), (.int y1)] (.int 0)) (VB : Arv Z h0 aB kB .byte (2 : Int32) [(.int (0 : Int32)), (.int (0 : Int32))] (.int 0)) (l0 : ¬ (255 : Int32) < y0) (l1 : ¬ (255 : Int32) < y1) :
    Con l (⟨"java/lang/StringUTF16", "compress", "([CI[BII)I"⟩ : MethodName) jdk_52_method_21_code 7 (some .int) ({ frames := 0, cells := 0, slots := 0, locals := 0 } : Room) Z #[(.ref aC), (.int (0 : Int32)), (.ref aB), (.int (0 : Int32)), (.int (2 : Int32))] h0 (fun v h L => v = some (.int (2 : Int32)) ∧ Fr Z.heap.size L ∧ Keep h0 h [aB] ∧ Arv Z h aB kB .byte (2 : Int32) [(.int y0.toInt8.toInt32), (.int y1.toInt8.toInt32)] (.int 0)) := by
  refine Con.of (plainFor_of_name pn_2) (Ls := #[rv aC, iv (0 : Int32), rv aB, iv (0 : Int32), iv (2 : Int32), .unset, .unset]) (fun m => efOf rfl) ?_
  intro p e s m below meth c T0 X0 hx hZ hby hml hown hnm hret hlk e0
  refine go (fun _ => XT.iconstV X0.here hx rfl (0 : Int32) (hb hby d2_0) (by decide)) ?_
  refine go (fun _ => XS.istore X0.here hx rfl (hb hby d2_1) rfl (l' := #[rv aC, iv (0 : Int32), rv aB, iv (0 : Int32), iv (2 : Int32), iv (0 : Int32), .unset]) rfl) ?_
  refine go (fun _ => XS.iload X0.here hx rfl (hb hby d2_3) rfl) ?_
  refine go (fun _ => XS.iload X0.here hx rfl (hb hby d2_5) rfl) ?_
  show Ends p e below _ T0 (mkF m 7 #[rv aC, iv (0 : Int32), rv aB, iv (0 : Int32), iv (2 : Int32), iv (0 : Int32), .unset] [(.int (2 : Int32)), (.int (0 : Int32))])
  refine go (fun _ => XS.icmpNo X0.here hx rfl (hb hby d2_7) rfl (XT.ii_ge_f ((by decide) : (0 : Int32) < (2 : Int32)))) ?_
  show Ends p e below _ T0 (mkF m 10 #[rv aC, iv (0 : Int32), rv aB, iv (0 : Int32), iv (2 : Int32), iv (0 : Int32), .unset] [])
  refine go (fun _ => XS.aloadN X0.here hx rfl (hb hby d2_10) rfl rfl) ?_
  refine go (fun _ => XS.iloadN X0.here hx rfl (hb hby d2_11) rfl) ?_
  show Ends p e below _ T0 (mkF m 12 #[rv aC, iv (0 : Int32), rv aB, iv (0 : Int32), iv (2 : Int32), iv (0 : Int32), .unset] [(.int (0 : Int32)), (.ref aC)])
  obtain ⟨cl32, A32, -, S32, M32, H32, -⟩ := id VC
  have B32 := inb_of S32 (j := (0 : Int32)) (by decide)
  refine go (fun _ => X0.caload hx (j := (0 : Int32)) (v := (.int y0)) (by rw [e0]; exact A32.1) (State.isArrayOf_alike hZ.alike A32.2.1) A32.2.2 B32 (H32.at B32 rfl) (g := (mkF m 12 #[rv aC, iv (0 : Int32), rv aB, iv (0 : Int32), iv (2 : Int32), iv (0 : Int32), .unset] [(.int (0 : Int32)), (.ref aC)])) rfl rfl (hb hby d2_12) _) ?_
  show Ends p e below _ T0 (mkF m 13 #[rv aC, iv (0 : Int32), rv aB, iv (0 : Int32), iv (2 : Int32), iv (0 : Int32), .unset] [(.int y0)])
  refine go (fun _ => XS.istore X0.here hx rfl (hb hby d2_13) rfl (l' := #[rv aC, iv (0 : Int32), rv aB, iv (0 : Int32), iv (2 : Int32), iv (0 : Int32), iv y0]) rfl) ?_
  refine go (fun _ => XS.iload X0.here hx rfl (hb hby d2_15) rfl) ?_
  refine go (fun _ => XT.sipushV X0.here hx rfl (255 : Int32) (hb hby d2_17) (by decide)) ?_
  show Ends p e below _ T0 (mkF m 20 #[rv aC, iv (0 : Int32), rv aB, iv (0 : Int32), iv (2 : Int32), iv (0 : Int32), iv y0] [(.int (255 : Int32)), (.int y0)])
  refine go (fun _ => XS.icmpYes X0.here hx rfl (pc0 := 20) (pc' := 26) rfl (hb hby d2_20) rfl (XT.ii_le_t l0) (by decide) (by decide)) ?_
  show Ends p e below _ T0 (mkF m 26 #[rv aC, iv (0 : Int32), rv aB, iv (0 : Int32), iv (2 : Int32), iv (0 : Int32), iv y0] [])
  refine go (fun _ => XS.aloadN X0.here hx rfl (hb hby d2_26) rfl rfl) ?_
  refine go (fun _ => XS.iloadN X0.here hx rfl (hb hby d2_27) rfl) ?_
  refine go (fun _ => XS.iload X0.here hx rfl (hb hby d2_28) rfl) ?_
  refine go (fun _ => XT.i2b X0.here hx rfl (hb hby d2_30) rfl) ?_
  show Ends p e below _ T0 (mkF m 31 #[rv aC, iv (0 : Int32), rv aB, iv (0 : Int32), iv (2 : Int32), iv (0 : Int32), iv y0] [(.int y0.toInt8.toInt32), (.int (0 : Int32)), (.ref aB)])
  obtain ⟨cl33, A33, q33, S33, M33, H33, G33⟩ := id VB
  obtain ⟨T33, h33, X33, e33, W33, s33⟩ := stB X0 hx hZ e0 A33 (j := (0 : Int32)) (inb_of S33 (by decide)) (g := (mkF m 31 #[rv aC, iv (0 : Int32), rv aB, iv (0 : Int32), iv (2 : Int32), iv (0 : Int32), iv y0] [(.int y0.toInt8.toInt32), (.int (0 : Int32)), (.ref aB)])) rfl rfl (hb hby d2_31)
  have r33 : nar .byte y0.toInt8.toInt32 = y0.toInt8.toInt32 := own_nb _
  rw [r33] at W33
  have N33 := Fr.snoc X33 (Fr.nil _) f0
  have O34 : Ext Z.heap h33 := xw O0 W33 f0
  have V33 : Arv Z h33 aB kB .byte (2 : Int32) [(.int y0.toInt8.toInt32), (.int (0 : Int32))] (.int 0) := Arv.set A33 q33 S33 M33 H33 G33 (by first | rfl | exact fits_nar_byte y0.toInt8.toInt32 | (rw [← r33]; exact fits_nar_byte y0.toInt8.toInt32)) W33 0 (by decide) (Nat.le_of_ble_eq_true rfl)
  refine go s33 ?_
  show Ends p e below _ T33 (mkF m 32 #[rv aC, iv (0 : Int32), rv aB, iv (0 : Int32), iv (2 : Int32), iv (0 : Int32), iv y0] [])
  refine go (fun _ => XT.iincV X33.here hx rfl (1 : Int32) (hb hby d2_32) (by decide) rfl (l' := #[rv aC, iv (1 : Int32), rv aB, iv (0 : Int32), iv (2 : Int32), iv (0 : Int32), iv y0]) rfl) ?_
  refine go (fun _ => XT.iincV X33.here hx rfl (1 : Int32) (hb hby d2_35) (by decide) rfl (l' := #[rv aC, iv (1 : Int32), rv aB, iv (1 : Int32), iv (2 : Int32), iv (0 : Int32), iv y0]) rfl) ?_
  refine go (fun _ => XT.iincV X33.here hx rfl (1 : Int32) (hb hby d2_38) (by decide) rfl (l' := #[rv aC, iv (1 : Int32), rv aB, iv (1 : Int32), iv (2 : Int32), iv (1 : Int32), iv y0]) rfl) ?_
  refine go (fun _ => XS.goto X33.here hx rfl (pc0 := 41) (pc' := 3) rfl (hb hby d2_41) (by decide) (by decide)) ?_
  refine go (fun _ => XS.iload X33.here hx rfl (hb hby d2_3) rfl) ?_
  refine go (fun _ => XS.iload X33.here hx rfl (hb hby d2_5) rfl) ?_
  show Ends p e below _ T33 (mkF m 7 #[rv aC, iv (1 : Int32), rv aB, iv (1 : Int32), iv (2 : Int32), iv (1 : Int32), iv y0] [(.int (2 : Int32)), (.int (1 : Int32))])
  refine go (fun _ => XS.icmpNo X33.here hx rfl (hb hby d2_7) rfl (XT.ii_ge_f ((by decide) : (1 : Int32) < (2 : Int32)))) ?_
  show Ends p e below _ T33 (mkF m 10 #[rv aC, iv (1 : Int32), rv aB, iv (1 : Int32), iv (2 : Int32), iv (1 : Int32), iv y0] [])
  refine go (fun _ => XS.aloadN X33.here hx rfl (hb hby d2_10) rfl rfl) ?_
  refine go (fun _ => XS.iloadN X33.here hx rfl (hb hby d2_11) rfl) ?_
  show Ends p e below _ T33 (mkF m 12 #[rv aC, iv (1 : Int32), rv aB, iv (1 : Int32), iv (2 : Int32), iv (1 : Int32), iv y0] [(.int (1 : Int32)), (.ref aC)])
  have F35 := (Arv.other VC W33 ne0)
  obtain ⟨cl36, A36, -, S36, M36, H36, -⟩ := id F35
  have B36 := inb_of S36 (j := (1 : Int32)) (by decide)
  refine go (fun _ => X33.caload hx (j := (1 : Int32)) (v := (.int y1)) (by rw [e33]; exact A36.1) (State.isArrayOf_alike hZ.alike A36.2.1) A36.2.2 B36 (H36.at B36 rfl) (g := (mkF m 12 #[rv aC, iv (1 : Int32), rv aB, iv (1 : Int32), iv (2 : Int32), iv (1 : Int32), iv y0] [(.int (1 : Int32)), (.ref aC)])) rfl rfl (hb hby d2_12) _) ?_
  show Ends p e below _ T33 (mkF m 13 #[rv aC, iv (1 : Int32), rv aB, iv (1 : Int32), iv (2 : Int32), iv (1 : Int32), iv y0] [(.int y1)])
  refine go (fun _ => XS.istore X33.here hx rfl (hb hby d2_13) rfl (l' := #[rv aC, iv (1 : Int32), rv aB, iv (1 : Int32), iv (2 : Int32), iv (1 : Int32), iv y1]) rfl) ?_
  refine go (fun _ => XS.iload X33.here hx rfl (hb hby d2_15) rfl) ?_
  refine go (fun _ => XT.sipushV X33.here hx rfl (255 : Int32) (hb hby d2_17) (by decide)) ?_
  show Ends p e below _ T33 (mkF m 20 #[rv aC, iv (1 : Int32), rv aB, iv (1 : Int32), iv (2 : Int32), iv (1 : Int32), iv y1] [(.int (255 : Int32)), (.int y1)])
  refine go (fun _ => XS.icmpYes X33.here hx rfl (pc0 := 20) (pc' := 26) rfl (hb hby d2_20) rfl (XT.ii_le_t l1) (by decide) (by decide)) ?_
  show Ends p e below _ T33 (mkF m 26 #[rv aC, iv (1 : Int32), rv aB, iv (1 : Int32), iv (2 : Int32), iv (1 : Int32), iv y1] [])
  refine go (fun _ => XS.aloadN X33.here hx rfl (hb hby d2_26) rfl rfl) ?_
  refine go (fun _ => XS.iloadN X33.here hx rfl (hb hby d2_27) rfl) ?_
  refine go (fun _ => XS.iload X33.here hx rfl (hb hby d2_28) rfl) ?_
  refine go (fun _ => XT.i2b X33.here hx rfl (hb hby d2_30) rfl) ?_
  show Ends p e below _ T33 (mkF m 31 #[rv aC, iv (1 : Int32), rv aB, iv (1 : Int32), iv (2 : Int32), iv (1 : Int32), iv y1] [(.int y1.toInt8.toInt32), (.int (1 : Int32)), (.ref aB)])
  obtain ⟨cl37, A37, q37, S37, M37, H37, G37⟩ := id V33
  obtain ⟨T37, h37, X37, e37, W37, s37⟩ := stB X33 hx hZ e33 A37 (j := (1 : Int32)) (inb_of S37 (by decide)) (g := (mkF m 31 #[rv aC, iv (1 : Int32), rv aB, iv (1 : Int32), iv (2 : Int32), iv (1 : Int32), iv y1] [(.int y1.toInt8.toInt32), (.int (1 : Int32)), (.ref aB)])) rfl rfl (hb hby d2_31)
  have r37 : nar .byte y1.toInt8.toInt32 = y1.toInt8.toInt32 := own_nb _
  rw [r37] at W37
  have N37 := Fr.snoc X37 N33 f0
  have O38 : Ext Z.heap h37 := xw O34 W37 f0
  have V37 : Arv Z h37 aB kB .byte (2 : Int32) [(.int y0.toInt8.toInt32), (.int y1.toInt8.toInt32)] (.int 0) := Arv.set A37 q37 S37 M37 H37 G37 (by first | rfl | exact fits_nar_byte y1.toInt8.toInt32 | (rw [← r37]; exact fits_nar_byte y1.toInt8.toInt32)) W37 1 (by decide) (Nat.le_of_ble_eq_true rfl)
  refine go s37 ?_
  show Ends p e below _ T37 (mkF m 32 #[rv aC, iv (1 : Int32), rv aB, iv (1 : Int32), iv (2 : Int32), iv (1 : Int32), iv y1] [])
  refine go (fun _ => XT.iincV X37.here hx rfl (1 : Int32) (hb hby d2_32) (by decide) rfl (l' := #[rv aC, iv (2 : Int32), rv aB, iv (1 : Int32), iv (2 : Int32), iv (1 : Int32), iv y1]) rfl) ?_
  refine go (fun _ => XT.iincV X37.here hx rfl (1 : Int32) (hb hby d2_35) (by decide) rfl (l' := #[rv aC, iv (2 : Int32), rv aB, iv (2 : Int32), iv (2 : Int32), iv (1 : Int32), iv y1]) rfl) ?_
  refine go (fun _ => XT.iincV X37.here hx rfl (1 : Int32) (hb hby d2_38) (by decide) rfl (l' := #[rv aC, iv (2 : Int32), rv aB, iv (2 : Int32), iv (2 : Int32), iv (2 : Int32), iv y1]) rfl) ?_
  refine go (fun _ => XS.goto X37.here hx rfl (pc0 := 41) (pc' := 3) rfl (hb hby d2_41) (by decide) (by decide)) ?_
  refine go (fun _ => XS.iload X37.here hx rfl (hb hby d2_3) rfl) ?_
  refine go (fun _ => XS.iload X37.here hx rfl (hb hby d2_5) rfl) ?_
  show Ends p e below _ T37 (mkF m 7 #[rv aC, iv (2 : Int32), rv aB, iv (2 : Int32), iv (2 : Int32), iv (2 : Int32), iv y1] [(.int (2 : Int32)), (.int (2 : Int32))])
  refine go (fun _ => XS.icmpYes X37.here hx rfl (pc0 := 7) (pc' := 44) rfl (hb hby d2_7) rfl (XT.ii_ge_t ((by decide) : ¬ ((2 : Int32) < (2 : Int32)))) (by decide) (by decide)) ?_
  show Ends p e below _ T37 (mkF m 44 #[rv aC, iv (2 : Int32), rv aB, iv (2 : Int32), iv (2 : Int32), iv (2 : Int32), iv y1] [])
  refine go (fun _ => XS.iload X37.here hx rfl (hb hby d2_44) rfl) ?_
  show Ends p e below _ T37 (mkF m 46 #[rv aC, iv (2 : Int32), rv aB, iv (2 : Int32), iv (2 : Int32), iv (2 : Int32), iv y1] [(.int (2 : Int32))])
  have K39 : Keep h0 h37 [aB] := (Keep.wr (Keep.wr (Keep.refl _ _) W33 (Or.inl (List.mem_of_getElem? (i := 0) rfl))) W37 (Or.inl (List.mem_of_getElem? (i := 0) rfl)))
  exact endI X37 hx hret (hb hby d2_46) (lvN X37 hlk e37 (fun h => by rw [hret] at h; cases h) ⟨rfl, N37, K39, V37⟩ (by decide) (by decide))
set_option maxRecDepth 65536 in
set_option maxHeartbeats 40000000 in
theorem rm_cmp3_2 {l : Launch} {Z : State} {a0 : Array Value} (hw : ∀ d ∈ tables_1, d.before a0 Z = true) (aC : Addr) (kC : ClassId) (y0 y1 : Int32)  (h0 : Heap) (O0 : Ext Z.heap h0) (VC : Arv Z h0 aC kC .char (2 : Int32) [(.int y0), (.int y1)] (.int 0)) (l0 : ¬ (255 : Int32) < y0) (l1 : ¬ (255 : Int32) < y1) :
    Con l (⟨"java/lang/StringUTF16", "compress", "([CII)[B"⟩ : MethodName) jdk_52_method_16_code 6 (some (.array .byte)) ({ frames := 1, cells := 1, slots := 2, locals := 18 } : Room) Z #[(.ref aC), (.int (0 : Int32)), (.int (2 : Int32))] h0 (fun v h L => ∃ (b : Addr) (k : ClassId), v = some (.ref b) ∧ Fr Z.heap.size L ∧ Keep h0 h [] ∧ h0.size ≤ b ∧ Arv Z h b k .byte (2 : Int32) [(.int y0.toInt8.toInt32), (.int y1.toInt8.toInt32)] (.int 0)) := by
  refine Con.of (plainFor_of_name pn_2) (Ls := #[rv aC, iv (0 : Int32), iv (2 : Int32), .unset, .unset, .unset]) (fun m => efOf rfl) ?_
  intro p e s m below meth c T0 X0 hx hZ hby hml hown hnm hret hlk e0
  refine go (fun _ => XS.iloadN X0.here hx rfl (hb hby d3_0) rfl) ?_
  show Ends p e below _ T0 (mkF m 1 #[rv aC, iv (0 : Int32), iv (2 : Int32), .unset, .unset, .unset] [(.int (2 : Int32))])
  obtain ⟨T40, h40, k40, X40, e40, E40, A40, s40⟩ := newP X0 hx hZ (hwi hw 19 rfl) e0 (g := (mkF m 1 #[rv aC, iv (0 : Int32), iv (2 : Int32), .unset, .unset, .unset] [(.int (2 : Int32))])) rfl (hb hby d3_1) rfl (by decide) (cap := 2) (by decide) (by decide) (by decide) (by decide)
  obtain ⟨a40, g40⟩ : ∃ z : Addr, z = h0.size := ⟨_, rfl⟩
  have n41 : aC ≠ a40 := fun q => absurd (VC.lt) (by rw [q, g40]; exact Nat.lt_irrefl _)
  have f40 : Z.heap.size ≤ a40 := by rw [g40]; exact (O0).1
  have K42 : Keep h0 h0 [] := (Keep.refl _ _)
  have b40 : h0.size ≤ a40 := by rw [g40]; exact (K42).1
  rw [← g40] at A40 s40
  have O43 : Ext Z.heap h40 := xx O0 E40
  have V40 : Arv Z h40 a40 k40 .byte (2 : Int32) [(.int (0 : Int32)), (.int (0 : Int32))] (.int 0) := Arv.pad (Arv.new A40 (by decide)) (pad_rep [] _ 2)
  refine go s40 ?_
  show Ends p e below _ T40 (mkF m 3 #[rv aC, iv (0 : Int32), iv (2 : Int32), .unset, .unset, .unset] [(.ref a40)])
  refine go (fun _ => XS.astoreN X40.here hx rfl (hb hby d3_3) rfl rfl (l' := #[rv aC, iv (0 : Int32), iv (2 : Int32), rv a40, .unset, .unset]) rfl) ?_
  refine go (fun _ => XS.aloadN X40.here hx rfl (hb hby d3_4) rfl rfl) ?_
  refine go (fun _ => XS.iloadN X40.here hx rfl (hb hby d3_5) rfl) ?_
  refine go (fun _ => XS.aloadN X40.here hx rfl (hb hby d3_6) rfl rfl) ?_
  refine go (fun _ => XT.iconstV X40.here hx rfl (0 : Int32) (hb hby d3_7) (by decide)) ?_
  refine go (fun _ => XS.iloadN X40.here hx rfl (hb hby d3_8) rfl) ?_
  show Ends p e below _ T40 (mkF m 9 #[rv aC, iv (0 : Int32), iv (2 : Int32), rv a40, .unset, .unset] [(.int (2 : Int32)), (.int (0 : Int32)), (.ref a40), (.int (0 : Int32)), (.ref aC)])
  have F44 := (Arv.ext VC E40)
  refine cStat X40 hx hZ hown (by rw [hml]; rfl) e40 (hwi hw 20 rfl) (hwi hw 21 rfl) (hwi hw 17 rfl) (hwi hw 22 rfl) [(.ref aC), (.int (0 : Int32)), (.ref a40), (.int (0 : Int32)), (.int (2 : Int32))] [] rfl (rm_cmp5_2 hw aC a40 kC k40 y0 y1 _ O43 f40 n41 F44 V40 l0 l1) (hb hby d3_9) rfl (lenOf pd_3 rfl) (by decide) (by decide) (Nat.le_of_ble_eq_true rfl) (by decide) (by decide) ?_
  rintro v45 T45 h45 L45 X45 e45 ⟨rfl, N45, K45, V45⟩
  have N45a := Fr.app (Fr.nil _) N45
  have O46 : Ext Z.heap h45 := xk O43 K45 (allS f40 all0)
  show Ends p e below _ T45 (mkF m 12 #[rv aC, iv (0 : Int32), iv (2 : Int32), rv a40, .unset, .unset] [(.int (2 : Int32))])
  refine go (fun _ => XS.istore X45.here hx rfl (hb hby d3_12) rfl (l' := #[rv aC, iv (0 : Int32), iv (2 : Int32), rv a40, iv (2 : Int32), .unset]) rfl) ?_
  refine go (fun _ => XS.iload X45.here hx rfl (hb hby d3_14) rfl) ?_
  refine go (fun _ => XS.iloadN X45.here hx rfl (hb hby d3_16) rfl) ?_
  show Ends p e below _ T45 (mkF m 17 #[rv aC, iv (0 : Int32), iv (2 : Int32), rv a40, iv (2 : Int32), .unset] [(.int (2 : Int32)), (.int (2 : Int32))])
  refine go (fun _ => XS.icmpYes X45.here hx rfl (pc0 := 17) (pc' := 57) rfl (hb hby d3_17) rfl (XT.ii_eq_t ((by decide) : (2 : Int32) = (2 : Int32))) (by decide) (by decide)) ?_
  show Ends p e below _ T45 (mkF m 57 #[rv aC, iv (0 : Int32), iv (2 : Int32), rv a40, iv (2 : Int32), .unset] [])
  refine go (fun _ => XS.aloadN X45.here hx rfl (hb hby d3_57) rfl rfl) ?_
  show Ends p e below _ T45 (mkF m 58 #[rv aC, iv (0 : Int32), iv (2 : Int32), rv a40, iv (2 : Int32), .unset] [(.ref a40)])
  have K47 : Keep h0 h45 [] := (Keep.trans (Keep.ext K42 E40) K45 (allS (Or.inr b40) all0))
  exact endA X45 hx hret rfl rfl (hb hby d3_58) (lvN X45 hlk e45 (fun h => by rw [hret] at h; cases h) ⟨a40, _, rfl, N45a, K47, b40, V45⟩ (by decide) (by decide))
set_option maxRecDepth 65536 in
set_option maxHeartbeats 40000000 in
theorem rm_coder_2 {l : Launch} {Z : State} {a0 : Array Value} (hw : ∀ d ∈ tables_1, d.before a0 Z = true) (aB : Addr) (kB : ClassId) (vs : List Value) (h0 : Heap) (VB : Arv Z h0 aB kB .byte (2 : Int32) vs (.int 0)) :
    Con l (⟨"java/lang/StringUTF16", "coderFromArrayLen", "([BI)B"⟩ : MethodName) jdk_52_method_15_code 2 (some .byte) ({ frames := 0, cells := 0, slots := 0, locals := 0 } : Room) Z #[(.ref aB), (.int (2 : Int32))] h0 (fun v h L => v = some (.int 0) ∧ Fr Z.heap.size L ∧ h0 = h) := by
  refine Con.of (plainFor_of_name pn_2) (Ls := #[rv aB, iv (2 : Int32)]) (fun m => efOf rfl) ?_
  intro p e s m below meth c T0 X0 hx hZ hby hml hown hnm hret hlk e0
  refine go (fun _ => XS.iloadN X0.here hx rfl (hb hby d4_0) rfl) ?_
  refine go (fun _ => XS.aloadN X0.here hx rfl (hb hby d4_1) rfl rfl) ?_
  show Ends p e below _ T0 (mkF m 2 #[rv aB, iv (2 : Int32)] [(.ref aB), (.int (2 : Int32))])
  obtain ⟨cl48, A48, -, S48, M48, -⟩ := id VB
  refine go (fun _ => X0.arraylength hx (cell := cl48) (by rw [e0]; exact A48.1) (State.isArrayOf_alike hZ.alike A48.2.1) (g := (mkF m 2 #[rv aB, iv (2 : Int32)] [(.ref aB), (.int (2 : Int32))])) rfl rfl (hb hby d4_2) _) ?_
  rw [len_of S48 M48]
  show Ends p e below _ T0 (mkF m 3 #[rv aB, iv (2 : Int32)] [(.int (2 : Int32)), (.int (2 : Int32))])
  refine go (fun _ => XS.isub X0.here hx rfl (hb hby d4_3) rfl) ?_
  refine go (fun _ => XT.bipushV X0.here hx rfl (31 : Int32) (hb hby d4_4) (by decide)) ?_
  refine go (fun _ => XT.iushr X0.here hx rfl (hb hby d4_6) rfl) ?_
  refine go (fun _ => XT.i2b X0.here hx rfl (hb hby d4_7) rfl) ?_
  show Ends p e below _ T0 (mkF m 8 #[rv aB, iv (2 : Int32)] [(.int (0 : Int32))])
  exact endN X0 hx hret (by simp) (hb hby d4_8) (lvN X0 hlk e0 (fun h => by rw [hret] at h; cases h) ⟨rfl, (Fr.nil _), rfl⟩ (by decide) (by decide))
set_option maxRecDepth 65536 in
set_option maxHeartbeats 40000000 in
theorem rm_new4_2 {l : Launch} {Z : State} {a0 : Array Value} (hw : ∀ d ∈ tables_1, d.before a0 Z = true) (a aC : Addr) (kC : ClassId) (y0 y1 : Int32)  (h0 : Heap) (O0 : Ext Z.heap h0) (f0 : Z.heap.size ≤ a) (ne0 : a ≠ aC) (E0 : Exa Z h0 a "java/lang/String") (FV : Fld Z h0 a "java/lang/String" "value" "[B" .null) (FC : Fld Z h0 a "java/lang/String" "coder" "B" (.int 0)) (cz : Int32) (SCS : Sta Z Z.heap "java/lang/String" "COMPACT_STRINGS" "Z" (.int cz)) (hcz : ¬ cz = (0 : Int32)) (VC : Arv Z h0 aC kC .char (2 : Int32) [(.int y0), (.int y1)] (.int 0)) (l0 : ¬ (255 : Int32) < y0) (l1 : ¬ (255 : Int32) < y1) :
    Con l (⟨"java/lang/String", "<init>", "([CIILjava/lang/Void;)V"⟩ : MethodName) jdk_42_method_149_code 6 none ({ frames := 2, cells := 1, slots := 2, locals := 35 } : Room) Z #[(.ref a), (.ref aC), (.int (0 : Int32)), (.int (2 : Int32)), .null] h0 (fun v h L => ∃ (b : Addr) (k : ClassId), v = none ∧ Fr Z.heap.size L ∧ Keep h0 h [a] ∧ h0.size ≤ b ∧ Fld Z h a "java/lang/String" "value" "[B" (.ref b) ∧ Fld Z h a "java/lang/String" "coder" "B" (.int 0) ∧ Arv Z h b k .byte (2 : Int32) [(.int y0.toInt8.toInt32), (.int y1.toInt8.toInt32)] (.int 0)) := by
  refine Con.of (plainFor_of_name pn_0) (Ls := #[rv a, rv aC, iv (0 : Int32), iv (2 : Int32), .val .null, .unset]) (fun m => efOf rfl) ?_
  intro p e s m below meth c T0 X0 hx hZ hby hml hown hnm hret hlk e0
  refine go (fun _ => XS.aloadN X0.here hx rfl (hb hby d0_0) rfl rfl) ?_
  show Ends p e below _ T0 (mkF m 1 #[rv a, rv aC, iv (0 : Int32), iv (2 : Int32), .val .null, .unset] [(.ref a)])
  obtain ⟨T49, X49, e49, s49⟩ := initO X0 hx hZ hown (hwi hw 11 rfl) (hwi hw 12 rfl) (hwi hw 13 rfl) e0 (g := (mkF m 1 #[rv a, rv aC, iv (0 : Int32), iv (2 : Int32), .val .null, .unset] [(.ref a)])) rfl (by rw [hml]; rfl) rfl (hb hby d0_1) (by decide) (W := 0) (by show 2 * 0 + _ ≤ _; exact Nat.le_of_eq rfl) (by decide)
  refine go s49 ?_
  show Ends p e below _ T49 (mkF m 4 #[rv a, rv aC, iv (0 : Int32), iv (2 : Int32), .val .null, .unset] [])
  refine go (fun _ => XS.iloadN X49.here hx rfl (hb hby d0_4) rfl) ?_
  show Ends p e below _ T49 (mkF m 5 #[rv a, rv aC, iv (0 : Int32), iv (2 : Int32), .val .null, .unset] [(.int (2 : Int32))])
  refine go (fun _ => XS.ifYes X49.here hx rfl (pc0 := 5) (pc' := 27) rfl (hb hby d0_5) rfl (XT.i0_ne_t ((by decide) : ¬ ((2 : Int32) = (0 : Int32)))) (by decide) (by decide)) ?_
  show Ends p e below _ T49 (mkF m 27 #[rv a, rv aC, iv (0 : Int32), iv (2 : Int32), .val .null, .unset] [])
  obtain ⟨T50, X50, e50, s50⟩ := getS2 X49 hx hZ hown (host := "") (Or.inl (hwi hw 14 rfl)) Via.refl e49 (Sta.ext O0 SCS) (g := (mkF m 27 #[rv a, rv aC, iv (0 : Int32), iv (2 : Int32), .val .null, .unset] [])) rfl (hb hby d0_27)
  refine go s50 ?_
  show Ends p e below _ T50 (mkF m 30 #[rv a, rv aC, iv (0 : Int32), iv (2 : Int32), .val .null, .unset] [(.int cz)])
  refine go (fun _ => XS.ifNo X50.here hx rfl (hb hby d0_30) rfl (XT.i0_eq_f hcz)) ?_
  show Ends p e below _ T50 (mkF m 33 #[rv a, rv aC, iv (0 : Int32), iv (2 : Int32), .val .null, .unset] [])
  refine go (fun _ => XS.aloadN X50.here hx rfl (hb hby d0_33) rfl rfl) ?_
  refine go (fun _ => XS.iloadN X50.here hx rfl (hb hby d0_34) rfl) ?_
  refine go (fun _ => XS.iloadN X50.here hx rfl (hb hby d0_35) rfl) ?_
  show Ends p e below _ T50 (mkF m 36 #[rv a, rv aC, iv (0 : Int32), iv (2 : Int32), .val .null, .unset] [(.int (2 : Int32)), (.int (0 : Int32)), (.ref aC)])
  refine cStat X50 hx hZ hown (by rw [hml]; rfl) e50 (hwi hw 15 rfl) (hwi hw 16 rfl) (hwi hw 17 rfl) (hwi hw 18 rfl) [(.ref aC), (.int (0 : Int32)), (.int (2 : Int32))] [] rfl (rm_cmp3_2 hw aC kC y0 y1 _ O0 VC l0 l1) (hb hby d0_36) rfl (lenOf pd_4 rfl) (by decide) (by decide) (Nat.le_of_ble_eq_true rfl) (by decide) (by decide) ?_
  rintro v51 T51 h51 L51 X51 e51 ⟨b51, k51, rfl, N51, K51, g51, V51⟩
  have N51a := Fr.app (Fr.nil _) N51
  have n52 : a ≠ b51 := Nat.ne_of_lt (Nat.lt_of_lt_of_le (E0.lt) g51)
  have n53 : aC ≠ b51 := Nat.ne_of_lt (Nat.lt_of_lt_of_le (VC.lt) g51)
  have f54 : Z.heap.size ≤ b51 := Nat.le_trans (O0).1 g51
  have K55 : Keep h0 h0 [a] := (Keep.refl _ _)
  have b54 : h0.size ≤ b51 := Nat.le_trans (K55).1 g51
  have O56 : Ext Z.heap h51 := xk O0 K51 all0
  show Ends p e below _ T51 (mkF m 39 #[rv a, rv aC, iv (0 : Int32), iv (2 : Int32), .val .null, .unset] [(.ref b51)])
  refine go (fun _ => XS.astore X51.here hx rfl (hb hby d0_39) rfl rfl (l' := #[rv a, rv aC, iv (0 : Int32), iv (2 : Int32), .val .null, rv b51]) rfl) ?_
  refine go (fun _ => XS.aloadN X51.here hx rfl (hb hby d0_41) rfl rfl) ?_
  refine go (fun _ => XS.aload X51.here hx rfl (hb hby d0_42) rfl rfl) ?_
  refine go (fun _ => XS.iloadN X51.here hx rfl (hb hby d0_44) rfl) ?_
  show Ends p e below _ T51 (mkF m 45 #[rv a, rv aC, iv (0 : Int32), iv (2 : Int32), .val .null, rv b51] [(.int (2 : Int32)), (.ref b51), (.ref a)])
  refine cStat X51 hx hZ hown (by rw [hml]; rfl) e51 (hwi hw 23 rfl) (hwi hw 24 rfl) (hwi hw 17 rfl) (hwi hw 25 rfl) [(.ref b51), (.int (2 : Int32))] [(.ref a)] rfl (rm_coder_2 hw b51 _ _ _ V51) (hb hby d0_45) rfl (lenOf pd_5 rfl) (by decide) (by decide) (Nat.le_of_ble_eq_true rfl) (by decide) (by decide) ?_
  rintro v57 T57 h57 L57 X57 e57 ⟨rfl, N57, rfl⟩
  have N57a := Fr.app N51a N57
  show Ends p e below _ T57 (mkF m 48 #[rv a, rv aC, iv (0 : Int32), iv (2 : Int32), .val .null, rv b51] [(.int (0 : Int32)), (.ref a)])
  have F58 := (Exa.keep E0 K51)
  have F59 := (Fld.keep FC K51 nin0)
  obtain ⟨T60, h60, X60, e60, W60, s60⟩ := putF X57 hx hZ hown (host := "") (Or.inl (hwi hw 26 rfl)) Via.refl e57 F59 F58 (Or.inr ⟨(hwi hw 27 rfl), rfl, hnm⟩) (hwi hw 1 rfl) (ty := .byte) (by decide) rfl rfl (g := (mkF m 48 #[rv a, rv aC, iv (0 : Int32), iv (2 : Int32), .val .null, rv b51] [(.int (0 : Int32)), (.ref a)])) rfl rfl (hb hby d0_48)
  have N60 := Fr.snoc X60 N57a f0
  have O61 : Ext Z.heap h60 := xw O56 W60 f0
  refine go s60 ?_
  show Ends p e below _ T60 (mkF m 51 #[rv a, rv aC, iv (0 : Int32), iv (2 : Int32), .val .null, rv b51] [])
  refine go (fun _ => XS.aloadN X60.here hx rfl (hb hby d0_51) rfl rfl) ?_
  refine go (fun _ => XS.aload X60.here hx rfl (hb hby d0_52) rfl rfl) ?_
  show Ends p e below _ T60 (mkF m 54 #[rv a, rv aC, iv (0 : Int32), iv (2 : Int32), .val .null, rv b51] [(.ref b51), (.ref a)])
  have F62 := (Exa.wr W60 F58)
  have F63 := (Fld.other W60 (Fld.keep FV K51 nin0) (Or.inr (slot_ne (a0 := a0) (Or.inr (hwi hw 29 rfl)) (Or.inr (hwi hw 27 rfl)) (by decide) (t := (.array .byte)) (t' := .byte) (by decide) (by decide))))
  obtain ⟨T64, h64, X64, e64, W64, s64⟩ := putF X60 hx hZ hown (host := "") (Or.inl (hwi hw 28 rfl)) Via.refl e60 F63 F62 (Or.inr ⟨(hwi hw 29 rfl), rfl, hnm⟩) (hwi hw 1 rfl) (ty := (.array .byte)) (by decide) rfl rfl (g := (mkF m 54 #[rv a, rv aC, iv (0 : Int32), iv (2 : Int32), .val .null, rv b51] [(.ref b51), (.ref a)])) rfl rfl (hb hby d0_54)
  have N64 := Fr.snoc X64 N60 f0
  have O65 : Ext Z.heap h64 := xw O61 W64 f0
  refine go s64 ?_
  show Ends p e below _ T64 (mkF m 57 #[rv a, rv aC, iv (0 : Int32), iv (2 : Int32), .val .null, rv b51] [])
  have K66 : Keep h0 h64 [a] := (Keep.wr (Keep.wr (Keep.trans K55 K51 all0) W60 (Or.inl (List.mem_of_getElem? (i := 0) rfl))) W64 (Or.inl (List.mem_of_getElem? (i := 0) rfl)))
  have F67 := (Fld.same W64 F63)
  have F68 := (Fld.other W64 (Fld.same W60 F59) (Or.inr (slot_ne (a0 := a0) (Or.inr (hwi hw 27 rfl)) (Or.inr (hwi hw 29 rfl)) (by decide) (t := .byte) (t' := (.array .byte)) (by decide) (by decide))))
  have F69 := (Arv.other (Arv.other V51 W60 (Ne.symm n52)) W64 (Ne.symm n52))
  exact endV X64 hx hret (hb hby d0_57) (lvN X64 hlk e64 (fun _ => rfl) ⟨b51, _, rfl, N64, K66, b54, F67, F68, F69⟩ (by decide) (by decide))
set_option maxRecDepth 65536 in
set_option maxHeartbeats 40000000 in
theorem rm_new1_2 {l : Launch} {Z : State} {a0 : Array Value} (hw : ∀ d ∈ tables_1, d.before a0 Z = true) (a aC : Addr) (kC : ClassId) (y0 y1 : Int32)  (h0 : Heap) (O0 : Ext Z.heap h0) (f0 : Z.heap.size ≤ a) (ne0 : a ≠ aC) (E0 : Exa Z h0 a "java/lang/String") (FV : Fld Z h0 a "java/lang/String" "value" "[B" .null) (FC : Fld Z h0 a "java/lang/String" "coder" "B" (.int 0)) (cz : Int32) (SCS : Sta Z Z.heap "java/lang/String" "COMPACT_STRINGS" "Z" (.int cz)) (hcz : ¬ cz = (0 : Int32)) (VC : Arv Z h0 aC kC .char (2 : Int32) [(.int y0), (.int y1)] (.int 0)) (l0 : ¬ (255 : Int32) < y0) (l1 : ¬ (255 : Int32) < y1) :
    Con l (⟨"java/lang/String", "<init>", "([C)V"⟩ : MethodName) jdk_42_method_3_code 2 none ({ frames := 3, cells := 1, slots := 2, locals := 52 } : Room) Z #[(.ref a), (.ref aC)] h0 (fun v h L => ∃ (b : Addr) (k : ClassId), v = none ∧ Fr Z.heap.size L ∧ Keep h0 h [a] ∧ h0.size ≤ b ∧ Fld Z h a "java/lang/String" "value" "[B" (.ref b) ∧ Fld Z h a "java/lang/String" "coder" "B" (.int 0) ∧ Arv Z h b k .byte (2 : Int32) [(.int y0.toInt8.toInt32), (.int y1.toInt8.toInt32)] (.int 0)) := by
  refine Con.of (plainFor_of_name pn_0) (Ls := #[rv a, rv aC]) (fun m => efOf rfl) ?_
  intro p e s m below meth c T0 X0 hx hZ hby hml hown hnm hret hlk e0
  refine go (fun _ => XS.aloadN X0.here hx rfl (hb hby d1_0) rfl rfl) ?_
  refine go (fun _ => XS.aloadN X0.here hx rfl (hb hby d1_1) rfl rfl) ?_
  refine go (fun _ => XT.iconstV X0.here hx rfl (0 : Int32) (hb hby d1_2) (by decide)) ?_
  refine go (fun _ => XS.aloadN X0.here hx rfl (hb hby d1_3) rfl rfl) ?_
  show Ends p e below _ T0 (mkF m 4 #[rv a, rv aC] [(.ref aC), (.int (0 : Int32)), (.ref aC), (.ref a)])
  obtain ⟨cl70, A70, -, S70, M70, -⟩ := id VC
  refine go (fun _ => X0.arraylength hx (cell := cl70) (by rw [e0]; exact A70.1) (State.isArrayOf_alike hZ.alike A70.2.1) (g := (mkF m 4 #[rv a, rv aC] [(.ref aC), (.int (0 : Int32)), (.ref aC), (.ref a)])) rfl rfl (hb hby d1_4) _) ?_
  rw [len_of S70 M70]
  show Ends p e below _ T0 (mkF m 5 #[rv a, rv aC] [(.int (2 : Int32)), (.int (0 : Int32)), (.ref aC), (.ref a)])
  refine go (fun _ => XS.aconstNull X0.here hx rfl (hb hby d1_5)) ?_
  show Ends p e below _ T0 (mkF m 6 #[rv a, rv aC] [.null, (.int (2 : Int32)), (.int (0 : Int32)), (.ref aC), (.ref a)])
  refine cInit X0 hx hZ hown (by rw [hml]; rfl) e0 (hwi hw 7 rfl) (hwi hw 8 rfl) (hwi hw 2 rfl) (hwi hw 10 rfl) a [(.ref aC), (.int (0 : Int32)), (.int (2 : Int32)), .null] [] rfl (rm_new4_2 hw a aC kC y0 y1 _ O0 f0 ne0 E0 FV FC cz SCS hcz VC l0 l1) (hb hby d1_6) rfl (lenOf pd_1 rfl) rfl (by decide) (by decide) (Nat.le_of_ble_eq_true rfl) (by decide) (by decide) ?_
  rintro v71 T71 h71 L71 X71 e71 ⟨b71, k71, rfl, N71, K71, g71, Fv71, Fc71, V71⟩
  have N71a := Fr.app (Fr.nil _) N71
  have n72 : a ≠ b71 := Nat.ne_of_lt (Nat.lt_of_lt_of_le (E0.lt) g71)
  have n73 : aC ≠ b71 := Nat.ne_of_lt (Nat.lt_of_lt_of_le (VC.lt) g71)
  have f74 : Z.heap.size ≤ b71 := Nat.le_trans (O0).1 g71
  have K75 : Keep h0 h0 [a] := (Keep.refl _ _)
  have b74 : h0.size ≤ b71 := Nat.le_trans (K75).1 g71
  have O76 : Ext Z.heap h71 := xk O0 K71 (allS f0 all0)
  show Ends p e below _ T71 (mkF m 9 #[rv a, rv aC] [])
  have K77 : Keep h0 h71 [a] := (Keep.trans K75 K71 (allS (Or.inl (List.mem_of_getElem? (i := 0) rfl)) all0))
  exact endV X71 hx hret (hb hby d1_9) (lvN X71 hlk e71 (fun _ => rfl) ⟨b71, _, rfl, N71a, K77, b74, Fv71, Fc71, V71⟩ (by decide) (by decide))
set_option maxRecDepth 65536 in
set_option maxHeartbeats 40000000 in
theorem rm_cmp5_3 {l : Launch} {Z : State} {a0 : Array Value} (hw : ∀ d ∈ tables_1, d.before a0 Z = true) (aC aB : Addr) (kC kB : ClassId) (y0 y1 y2 : Int32)  (h0 : Heap) (O0 : Ext Z.heap h0) (f0 : Z.heap.size ≤ aB) (ne0 : aC ≠ aB) (VC : Arv Z h0 aC kC .char (3 : Int32) [(.int y0), (.int y1), (.int y2)] (.int 0)) (VB : Arv Z h0 aB kB .byte (3 : Int32) [(.int (0 : Int32)), (.int (0 : Int32)), (.int (0 : Int32))] (.int 0)) (l0 : ¬ (255 : Int32) < y0) (l1 : ¬ (255 : Int32) < y1) (l2 : ¬ (255 : Int32) < y2) :
    Con l (⟨"java/lang/StringUTF16", "compress", "([CI[BII)I"⟩ : MethodName) jdk_52_method_21_code 7 (some .int) ({ frames := 0, cells := 0, slots := 0, locals := 0 } : Room) Z #[(.ref aC), (.int (0 : Int32)), (.ref aB), (.int (0 : Int32)), (.int (3 : Int32))] h0 (fun v h L => v = some (.int (3 : Int32)) ∧ Fr Z.heap.size L ∧ Keep h0 h [aB] ∧ Arv Z h aB kB .byte (3 : Int32) [(.int y0.toInt8.toInt32), (.int y1.toInt8.toInt32), (.int y2.toInt8.toInt32)] (.int 0)) := by
  refine Con.of (plainFor_of_name pn_2) (Ls := #[rv aC, iv (0 : Int32), rv aB, iv (0 : Int32), iv (3 : Int32), .unset, .unset]) (fun m => efOf rfl) ?_
  intro p e s m below meth c T0 X0 hx hZ hby hml hown hnm hret hlk e0
  refine go (fun _ => XT.iconstV X0.here hx rfl (0 : Int32) (hb hby d2_0) (by decide)) ?_
  refine go (fun _ => XS.istore X0.here hx rfl (hb hby d2_1) rfl (l' := #[rv aC, iv (0 : Int32), rv aB, iv (0 : Int32), iv (3 : Int32), iv (0 : Int32), .unset]) rfl) ?_
  refine go (fun _ => XS.iload X0.here hx rfl (hb hby d2_3) rfl) ?_
  refine go (fun _ => XS.iload X0.here hx rfl (hb hby d2_5) rfl) ?_
  show Ends p e below _ T0 (mkF m 7 #[rv aC, iv (0 : Int32), rv aB, iv (0 : Int32), iv (3 : Int32), iv (0 : Int32), .unset] [(.int (3 : Int32)), (.int (0 : Int32))])
  refine go (fun _ => XS.icmpNo X0.here hx rfl (hb hby d2_7) rfl (XT.ii_ge_f ((by decide) : (0 : Int32) < (3 : Int32)))) ?_
  show Ends p e below _ T0 (mkF m 10 #[rv aC, iv (0 : Int32), rv aB, iv (0 : Int32), iv (3 : Int32), iv (0 : Int32), .unset] [])
  refine go (fun _ => XS.aloadN X0.here hx rfl (hb hby d2_10) rfl rfl) ?_
  refine go (fun _ => XS.iloadN X0.here hx rfl (hb hby d2_11) rfl) ?_
  show Ends p e below _ T0 (mkF m 12 #[rv aC, iv (0 : Int32), rv aB, iv (0 : Int32), iv (3 : Int32), iv (0 : Int32), .unset] [(.int (0 : Int32)), (.ref aC)])
  obtain ⟨cl78, A78, -, S78, M78, H78, -⟩ := id VC
  have B78 := inb_of S78 (j := (0 : Int32)) (by decide)
  refine go (fun _ => X0.caload hx (j := (0 : Int32)) (v := (.int y0)) (by rw [e0]; exact A78.1) (State.isArrayOf_alike hZ.alike A78.2.1) A78.2.2 B78 (H78.at B78 rfl) (g := (mkF m 12 #[rv aC, iv (0 : Int32), rv aB, iv (0 : Int32), iv (3 : Int32), iv (0 : Int32), .unset] [(.int (0 : Int32)), (.ref aC)])) rfl rfl (hb hby d2_12) _) ?_
  show Ends p e below _ T0 (mkF m 13 #[rv aC, iv (0 : Int32), rv aB, iv (0 : Int32), iv (3 : Int32), iv (0 : Int32), .unset] [(.int y0)])
  refine go (fun _ => XS.istore X0.here hx rfl (hb hby d2_13) rfl (l' := #[rv aC, iv (0 : Int32), rv aB, iv (0 : Int32), iv (3 : Int32), iv (0 : Int32), iv y0]) rfl) ?_
  refine go (fun _ => XS.iload X0.here hx rfl (hb hby d2_15) rfl) ?_
  refine go (fun _ => XT.sipushV X0.here hx rfl (255 : Int32) (hb hby d2_17) (by decide)) ?_
  show Ends p e below _ T0 (mkF m 20 #[rv aC, iv (0 : Int32), rv aB, iv (0 : Int32), iv (3 : Int32), iv (0 : Int32), iv y0] [(.int (255 : Int32)), (.int y0)])
  refine go (fun _ => XS.icmpYes X0.here hx rfl (pc0 := 20) (pc' := 26) rfl (hb hby d2_20) rfl (XT.ii_le_t l0) (by decide) (by decide)) ?_
  show Ends p e below _ T0 (mkF m 26 #[rv aC, iv (0 : Int32), rv aB, iv (0 : Int32), iv (3 : Int32), iv (0 : Int32), iv y0] [])
  refine go (fun _ => XS.aloadN X0.here hx rfl (hb hby d2_26) rfl rfl) ?_
  refine go (fun _ => XS.iloadN X0.here hx rfl (hb hby d2_27) rfl) ?_
  refine go (fun _ => XS.iload X0.here hx rfl (hb hby d2_28) rfl) ?_
  refine go (fun _ => XT.i2b X0.here hx rfl (hb hby d2_30) rfl) ?_
  show Ends p e below _ T0 (mkF m 31 #[rv aC, iv (0 : Int32), rv aB, iv (0 : Int32), iv (3 : Int32), iv (0 : Int32), iv y0] [(.int y0.toInt8.toInt32), (.int (0 : Int32)), (.ref aB)])
  obtain ⟨cl79, A79, q79, S79, M79, H79, G79⟩ := id VB
  obtain ⟨T79, h79, X79, e79, W79, s79⟩ := stB X0 hx hZ e0 A79 (j := (0 : Int32)) (inb_of S79 (by decide)) (g := (mkF m 31 #[rv aC, iv (0 : Int32), rv aB, iv (0 : Int32), iv (3 : Int32), iv (0 : Int32), iv y0] [(.int y0.toInt8.toInt32), (.int (0 : Int32)), (.ref aB)])) rfl rfl (hb hby d2_31)
  have r79 : nar .byte y0.toInt8.toInt32 = y0.toInt8.toInt32 := own_nb _
  rw [r79] at W79
  have N79 := Fr.snoc X79 (Fr.nil _) f0
  have O80 : Ext Z.heap h79 := xw O0 W79 f0
  have V79 : Arv Z h79 aB kB .byte (3 : Int32) [(.int y0.toInt8.toInt32), (.int (0 : Int32)), (.int (0 : Int32))] (.int 0) := Arv.set A79 q79 S79 M79 H79 G79 (by first | rfl | exact fits_nar_byte y0.toInt8.toInt32 | (rw [← r79]; exact fits_nar_byte y0.toInt8.toInt32)) W79 0 (by decide) (Nat.le_of_ble_eq_true rfl)
  refine go s79 ?_
  show Ends p e below _ T79 (mkF m 32 #[rv aC, iv (0 : Int32), rv aB, iv (0 : Int32), iv (3 : Int32), iv (0 : Int32), iv y0] [])
  refine go (fun _ => XT.iincV X79.here hx rfl (1 : Int32) (hb hby d2_32) (by decide) rfl (l' := #[rv aC, iv (1 : Int32), rv aB, iv (0 : Int32), iv (3 : Int32), iv (0 : Int32), iv y0]) rfl) ?_
  refine go (fun _ => XT.iincV X79.here hx rfl (1 : Int32) (hb hby d2_35) (by decide) rfl (l' := #[rv aC, iv (1 : Int32), rv aB, iv (1 : Int32), iv (3 : Int32), iv (0 : Int32), iv y0]) rfl) ?_
  refine go (fun _ => XT.iincV X79.here hx rfl (1 : Int32) (hb hby d2_38) (by decide) rfl (l' := #[rv aC, iv (1 : Int32), rv aB, iv (1 : Int32), iv (3 : Int32), iv (1 : Int32), iv y0]) rfl) ?_
  refine go (fun _ => XS.goto X79.here hx rfl (pc0 := 41) (pc' := 3) rfl (hb hby d2_41) (by decide) (by decide)) ?_
  refine go (fun _ => XS.iload X79.here hx rfl (hb hby d2_3) rfl) ?_
  refine go (fun _ => XS.iload X79.here hx rfl (hb hby d2_5) rfl) ?_
  show Ends p e below _ T79 (mkF m 7 #[rv aC, iv (1 : Int32), rv aB, iv (1 : Int32), iv (3 : Int32), iv (1 : Int32), iv y0] [(.int (3 : Int32)), (.int (1 : Int32))])
  refine go (fun _ => XS.icmpNo X79.here hx rfl (hb hby d2_7) rfl (XT.ii_ge_f ((by decide) : (1 : Int32) < (3 : Int32)))) ?_
  show Ends p e below _ T79 (mkF m 10 #[rv aC, iv (1 : Int32), rv aB, iv (1 : Int32), iv (3 : Int32), iv (1 : Int32), iv y0] [])
  refine go (fun _ => XS.aloadN X79.here hx rfl (hb hby d2_10) rfl rfl) ?_
  refine go (fun _ => XS.iloadN X79.here hx rfl (hb hby d2_11) rfl) ?_
  show Ends p e below _ T79 (mkF m 12 #[rv aC, iv (1 : Int32), rv aB, iv (1 : Int32), iv (3 : Int32), iv (1 : Int32), iv y0] [(.int (1 : Int32)), (.ref aC)])
  have F81 := (Arv.other VC W79 ne0)
  obtain ⟨cl82, A82, -, S82, M82, H82, -⟩ := id F81
  have B82 := inb_of S82 (j := (1 : Int32)) (by decide)
  refine go (fun _ => X79.caload hx (j := (1 : Int32)) (v := (.int y1)) (by rw [e79]; exact A82.1) (State.isArrayOf_alike hZ.alike A82.2.1) A82.2.2 B82 (H82.at B82 rfl) (g := (mkF m 12 #[rv aC, iv (1 : Int32), rv aB, iv (1 : Int32), iv (3 : Int32), iv (1 : Int32), iv y0] [(.int (1 : Int32)), (.ref aC)])) rfl rfl (hb hby d2_12) _) ?_
  show Ends p e below _ T79 (mkF m 13 #[rv aC, iv (1 : Int32), rv aB, iv (1 : Int32), iv (3 : Int32), iv (1 : Int32), iv y0] [(.int y1)])
  refine go (fun _ => XS.istore X79.here hx rfl (hb hby d2_13) rfl (l' := #[rv aC, iv (1 : Int32), rv aB, iv (1 : Int32), iv (3 : Int32), iv (1 : Int32), iv y1]) rfl) ?_
  refine go (fun _ => XS.iload X79.here hx rfl (hb hby d2_15) rfl) ?_
  refine go (fun _ => XT.sipushV X79.here hx rfl (255 : Int32) (hb hby d2_17) (by decide)) ?_
  show Ends p e below _ T79 (mkF m 20 #[rv aC, iv (1 : Int32), rv aB, iv (1 : Int32), iv (3 : Int32), iv (1 : Int32), iv y1] [(.int (255 : Int32)), (.int y1)])
  refine go (fun _ => XS.icmpYes X79.here hx rfl (pc0 := 20) (pc' := 26) rfl (hb hby d2_20) rfl (XT.ii_le_t l1) (by decide) (by decide)) ?_
  show Ends p e below _ T79 (mkF m 26 #[rv aC, iv (1 : Int32), rv aB, iv (1 : Int32), iv (3 : Int32), iv (1 : Int32), iv y1] [])
  refine go (fun _ => XS.aloadN X79.here hx rfl (hb hby d2_26) rfl rfl) ?_
  refine go (fun _ => XS.iloadN X79.here hx rfl (hb hby d2_27) rfl) ?_
  refine go (fun _ => XS.iload X79.here hx rfl (hb hby d2_28) rfl) ?_
  refine go (fun _ => XT.i2b X79.here hx rfl (hb hby d2_30) rfl) ?_
  show Ends p e below _ T79 (mkF m 31 #[rv aC, iv (1 : Int32), rv aB, iv (1 : Int32), iv (3 : Int32), iv (1 : Int32), iv y1] [(.int y1.toInt8.toInt32), (.int (1 : Int32)), (.ref aB)])
  obtain ⟨cl83, A83, q83, S83, M83, H83, G83⟩ := id V79
  obtain ⟨T83, h83, X83, e83, W83, s83⟩ := stB X79 hx hZ e79 A83 (j := (1 : Int32)) (inb_of S83 (by decide)) (g := (mkF m 31 #[rv aC, iv (1 : Int32), rv aB, iv (1 : Int32), iv (3 : Int32), iv (1 : Int32), iv y1] [(.int y1.toInt8.toInt32), (.int (1 : Int32)), (.ref aB)])) rfl rfl (hb hby d2_31)
  have r83 : nar .byte y1.toInt8.toInt32 = y1.toInt8.toInt32 := own_nb _
  rw [r83] at W83
  have N83 := Fr.snoc X83 N79 f0
  have O84 : Ext Z.heap h83 := xw O80 W83 f0
  have V83 : Arv Z h83 aB kB .byte (3 : Int32) [(.int y0.toInt8.toInt32), (.int y1.toInt8.toInt32), (.int (0 : Int32))] (.int 0) := Arv.set A83 q83 S83 M83 H83 G83 (by first | rfl | exact fits_nar_byte y1.toInt8.toInt32 | (rw [← r83]; exact fits_nar_byte y1.toInt8.toInt32)) W83 1 (by decide) (Nat.le_of_ble_eq_true rfl)
  refine go s83 ?_
  show Ends p e below _ T83 (mkF m 32 #[rv aC, iv (1 : Int32), rv aB, iv (1 : Int32), iv (3 : Int32), iv (1 : Int32), iv y1] [])
  refine go (fun _ => XT.iincV X83.here hx rfl (1 : Int32) (hb hby d2_32) (by decide) rfl (l' := #[rv aC, iv (2 : Int32), rv aB, iv (1 : Int32), iv (3 : Int32), iv (1 : Int32), iv y1]) rfl) ?_
  refine go (fun _ => XT.iincV X83.here hx rfl (1 : Int32) (hb hby d2_35) (by decide) rfl (l' := #[rv aC, iv (2 : Int32), rv aB, iv (2 : Int32), iv (3 : Int32), iv (1 : Int32), iv y1]) rfl) ?_
  refine go (fun _ => XT.iincV X83.here hx rfl (1 : Int32) (hb hby d2_38) (by decide) rfl (l' := #[rv aC, iv (2 : Int32), rv aB, iv (2 : Int32), iv (3 : Int32), iv (2 : Int32), iv y1]) rfl) ?_
  refine go (fun _ => XS.goto X83.here hx rfl (pc0 := 41) (pc' := 3) rfl (hb hby d2_41) (by decide) (by decide)) ?_
  refine go (fun _ => XS.iload X83.here hx rfl (hb hby d2_3) rfl) ?_
  refine go (fun _ => XS.iload X83.here hx rfl (hb hby d2_5) rfl) ?_
  show Ends p e below _ T83 (mkF m 7 #[rv aC, iv (2 : Int32), rv aB, iv (2 : Int32), iv (3 : Int32), iv (2 : Int32), iv y1] [(.int (3 : Int32)), (.int (2 : Int32))])
  refine go (fun _ => XS.icmpNo X83.here hx rfl (hb hby d2_7) rfl (XT.ii_ge_f ((by decide) : (2 : Int32) < (3 : Int32)))) ?_
  show Ends p e below _ T83 (mkF m 10 #[rv aC, iv (2 : Int32), rv aB, iv (2 : Int32), iv (3 : Int32), iv (2 : Int32), iv y1] [])
  refine go (fun _ => XS.aloadN X83.here hx rfl (hb hby d2_10) rfl rfl) ?_
  refine go (fun _ => XS.iloadN X83.here hx rfl (hb hby d2_11) rfl) ?_
  show Ends p e below _ T83 (mkF m 12 #[rv aC, iv (2 : Int32), rv aB, iv (2 : Int32), iv (3 : Int32), iv (2 : Int32), iv y1] [(.int (2 : Int32)), (.ref aC)])
  have F85 := (Arv.other F81 W83 ne0)
  obtain ⟨cl86, A86, -, S86, M86, H86, -⟩ := id F85
  have B86 := inb_of S86 (j := (2 : Int32)) (by decide)
  refine go (fun _ => X83.caload hx (j := (2 : Int32)) (v := (.int y2)) (by rw [e83]; exact A86.1) (State.isArrayOf_alike hZ.alike A86.2.1) A86.2.2 B86 (H86.at B86 rfl) (g := (mkF m 12 #[rv aC, iv (2 : Int32), rv aB, iv (2 : Int32), iv (3 : Int32), iv (2 : Int32), iv y1] [(.int (2 : Int32)), (.ref aC)])) rfl rfl (hb hby d2_12) _) ?_
  show Ends p e below _ T83 (mkF m 13 #[rv aC, iv (2 : Int32), rv aB, iv (2 : Int32), iv (3 : Int32), iv (2 : Int32), iv y1] [(.int y2)])
  refine go (fun _ => XS.istore X83.here hx rfl (hb hby d2_13) rfl (l' := #[rv aC, iv (2 : Int32), rv aB, iv (2 : Int32), iv (3 : Int32), iv (2 : Int32), iv y2]) rfl) ?_
  refine go (fun _ => XS.iload X83.here hx rfl (hb hby d2_15) rfl) ?_
  refine go (fun _ => XT.sipushV X83.here hx rfl (255 : Int32) (hb hby d2_17) (by decide)) ?_
  show Ends p e below _ T83 (mkF m 20 #[rv aC, iv (2 : Int32), rv aB, iv (2 : Int32), iv (3 : Int32), iv (2 : Int32), iv y2] [(.int (255 : Int32)), (.int y2)])
  refine go (fun _ => XS.icmpYes X83.here hx rfl (pc0 := 20) (pc' := 26) rfl (hb hby d2_20) rfl (XT.ii_le_t l2) (by decide) (by decide)) ?_
  show Ends p e below _ T83 (mkF m 26 #[rv aC, iv (2 : Int32), rv aB, iv (2 : Int32), iv (3 : Int32), iv (2 : Int32), iv y2] [])
  refine go (fun _ => XS.aloadN X83.here hx rfl (hb hby d2_26) rfl rfl) ?_
  refine go (fun _ => XS.iloadN X83.here hx rfl (hb hby d2_27) rfl) ?_
  refine go (fun _ => XS.iload X83.here hx rfl (hb hby d2_28) rfl) ?_
  refine go (fun _ => XT.i2b X83.here hx rfl (hb hby d2_30) rfl) ?_
  show Ends p e below _ T83 (mkF m 31 #[rv aC, iv (2 : Int32), rv aB, iv (2 : Int32), iv (3 : Int32), iv (2 : Int32), iv y2] [(.int y2.toInt8.toInt32), (.int (2 : Int32)), (.ref aB)])
  obtain ⟨cl87, A87, q87, S87, M87, H87, G87⟩ := id V83
  obtain ⟨T87, h87, X87, e87, W87, s87⟩ := stB X83 hx hZ e83 A87 (j := (2 : Int32)) (inb_of S87 (by decide)) (g := (mkF m 31 #[rv aC, iv (2 : Int32), rv aB, iv (2 : Int32), iv (3 : Int32), iv (2 : Int32), iv y2] [(.int y2.toInt8.toInt32), (.int (2 : Int32)), (.ref aB)])) rfl rfl (hb hby d2_31)
  have r87 : nar .byte y2.toInt8.toInt32 = y2.toInt8.toInt32 := own_nb _
  rw [r87] at W87
  have N87 := Fr.snoc X87 N83 f0
  have O88 : Ext Z.heap h87 := xw O84 W87 f0
  have V87 : Arv Z h87 aB kB .byte (3 : Int32) [(.int y0.toInt8.toInt32), (.int y1.toInt8.toInt32), (.int y2.toInt8.toInt32)] (.int 0) := Arv.set A87 q87 S87 M87 H87 G87 (by first | rfl | exact fits_nar_byte y2.toInt8.toInt32 | (rw [← r87]; exact fits_nar_byte y2.toInt8.toInt32)) W87 2 (by decide) (Nat.le_of_ble_eq_true rfl)
  refine go s87 ?_
  show Ends p e below _ T87 (mkF m 32 #[rv aC, iv (2 : Int32), rv aB, iv (2 : Int32), iv (3 : Int32), iv (2 : Int32), iv y2] [])
  refine go (fun _ => XT.iincV X87.here hx rfl (1 : Int32) (hb hby d2_32) (by decide) rfl (l' := #[rv aC, iv (3 : Int32), rv aB, iv (2 : Int32), iv (3 : Int32), iv (2 : Int32), iv y2]) rfl) ?_
  refine go (fun _ => XT.iincV X87.here hx rfl (1 : Int32) (hb hby d2_35) (by decide) rfl (l' := #[rv aC, iv (3 : Int32), rv aB, iv (3 : Int32), iv (3 : Int32), iv (2 : Int32), iv y2]) rfl) ?_
  refine go (fun _ => XT.iincV X87.here hx rfl (1 : Int32) (hb hby d2_38) (by decide) rfl (l' := #[rv aC, iv (3 : Int32), rv aB, iv (3 : Int32), iv (3 : Int32), iv (3 : Int32), iv y2]) rfl) ?_
  refine go (fun _ => XS.goto X87.here hx rfl (pc0 := 41) (pc' := 3) rfl (hb hby d2_41) (by decide) (by decide)) ?_
  refine go (fun _ => XS.iload X87.here hx rfl (hb hby d2_3) rfl) ?_
  refine go (fun _ => XS.iload X87.here hx rfl (hb hby d2_5) rfl) ?_
  show Ends p e below _ T87 (mkF m 7 #[rv aC, iv (3 : Int32), rv aB, iv (3 : Int32), iv (3 : Int32), iv (3 : Int32), iv y2] [(.int (3 : Int32)), (.int (3 : Int32))])
  refine go (fun _ => XS.icmpYes X87.here hx rfl (pc0 := 7) (pc' := 44) rfl (hb hby d2_7) rfl (XT.ii_ge_t ((by decide) : ¬ ((3 : Int32) < (3 : Int32)))) (by decide) (by decide)) ?_
  show Ends p e below _ T87 (mkF m 44 #[rv aC, iv (3 : Int32), rv aB, iv (3 : Int32), iv (3 : Int32), iv (3 : Int32), iv y2] [])
  refine go (fun _ => XS.iload X87.here hx rfl (hb hby d2_44) rfl) ?_
  show Ends p e below _ T87 (mkF m 46 #[rv aC, iv (3 : Int32), rv aB, iv (3 : Int32), iv (3 : Int32), iv (3 : Int32), iv y2] [(.int (3 : Int32))])
  have K89 : Keep h0 h87 [aB] := (Keep.wr (Keep.wr (Keep.wr (Keep.refl _ _) W79 (Or.inl (List.mem_of_getElem? (i := 0) rfl))) W83 (Or.inl (List.mem_of_getElem? (i := 0) rfl))) W87 (Or.inl (List.mem_of_getElem? (i := 0) rfl)))
  exact endI X87 hx hret (hb hby d2_46) (lvN X87 hlk e87 (fun h => by rw [hret] at h; cases h) ⟨rfl, N87, K89, V87⟩ (by decide) (by decide))
set_option maxRecDepth 65536 in
set_option maxHeartbeats 40000000 in
theorem rm_cmp3_3 {l : Launch} {Z : State} {a0 : Array Value} (hw : ∀ d ∈ tables_1, d.before a0 Z = true) (aC : Addr) (kC : ClassId) (y0 y1 y2 : Int32)  (h0 : Heap) (O0 : Ext Z.heap h0) (VC : Arv Z h0 aC kC .char (3 : Int32) [(.int y0), (.int y1), (.int y2)] (.int 0)) (l0 : ¬ (255 : Int32) < y0) (l1 : ¬ (255 : Int32) < y1) (l2 : ¬ (255 : Int32) < y2) :
    Con l (⟨"java/lang/StringUTF16", "compress", "([CII)[B"⟩ : MethodName) jdk_52_method_16_code 6 (some (.array .byte)) ({ frames := 1, cells := 1, slots := 3, locals := 18 } : Room) Z #[(.ref aC), (.int (0 : Int32)), (.int (3 : Int32))] h0 (fun v h L => ∃ (b : Addr) (k : ClassId), v = some (.ref b) ∧ Fr Z.heap.size L ∧ Keep h0 h [] ∧ h0.size ≤ b ∧ Arv Z h b k .byte (3 : Int32) [(.int y0.toInt8.toInt32), (.int y1.toInt8.toInt32), (.int y2.toInt8.toInt32)] (.int 0)) := by
  refine Con.of (plainFor_of_name pn_2) (Ls := #[rv aC, iv (0 : Int32), iv (3 : Int32), .unset, .unset, .unset]) (fun m => efOf rfl) ?_
  intro p e s m below meth c T0 X0 hx hZ hby hml hown hnm hret hlk e0
  refine go (fun _ => XS.iloadN X0.here hx rfl (hb hby d3_0) rfl) ?_
  show Ends p e below _ T0 (mkF m 1 #[rv aC, iv (0 : Int32), iv (3 : Int32), .unset, .unset, .unset] [(.int (3 : Int32))])
  obtain ⟨T90, h90, k90, X90, e90, E90, A90, s90⟩ := newP X0 hx hZ (hwi hw 19 rfl) e0 (g := (mkF m 1 #[rv aC, iv (0 : Int32), iv (3 : Int32), .unset, .unset, .unset] [(.int (3 : Int32))])) rfl (hb hby d3_1) rfl (by decide) (cap := 3) (by decide) (by decide) (by decide) (by decide)
  obtain ⟨a90, g90⟩ : ∃ z : Addr, z = h0.size := ⟨_, rfl⟩
  have n91 : aC ≠ a90 := fun q => absurd (VC.lt) (by rw [q, g90]; exact Nat.lt_irrefl _)
  have f90 : Z.heap.size ≤ a90 := by rw [g90]; exact (O0).1
  have K92 : Keep h0 h0 [] := (Keep.refl _ _)
  have b90 : h0.size ≤ a90 := by rw [g90]; exact (K92).1
  rw [← g90] at A90 s90
  have O93 : Ext Z.heap h90 := xx O0 E90
  have V90 : Arv Z h90 a90 k90 .byte (3 : Int32) [(.int (0 : Int32)), (.int (0 : Int32)), (.int (0 : Int32))] (.int 0) := Arv.pad (Arv.new A90 (by decide)) (pad_rep [] _ 3)
  refine go s90 ?_
  show Ends p e below _ T90 (mkF m 3 #[rv aC, iv (0 : Int32), iv (3 : Int32), .unset, .unset, .unset] [(.ref a90)])
  refine go (fun _ => XS.astoreN X90.here hx rfl (hb hby d3_3) rfl rfl (l' := #[rv aC, iv (0 : Int32), iv (3 : Int32), rv a90, .unset, .unset]) rfl) ?_
  refine go (fun _ => XS.aloadN X90.here hx rfl (hb hby d3_4) rfl rfl) ?_
  refine go (fun _ => XS.iloadN X90.here hx rfl (hb hby d3_5) rfl) ?_
  refine go (fun _ => XS.aloadN X90.here hx rfl (hb hby d3_6) rfl rfl) ?_
  refine go (fun _ => XT.iconstV X90.here hx rfl (0 : Int32) (hb hby d3_7) (by decide)) ?_
  refine go (fun _ => XS.iloadN X90.here hx rfl (hb hby d3_8) rfl) ?_
  show Ends p e below _ T90 (mkF m 9 #[rv aC, iv (0 : Int32), iv (3 : Int32), rv a90, .unset, .unset] [(.int (3 : Int32)), (.int (0 : Int32)), (.ref a90), (.int (0 : Int32)), (.ref aC)])
  have F94 := (Arv.ext VC E90)
  refine cStat X90 hx hZ hown (by rw [hml]; rfl) e90 (hwi hw 20 rfl) (hwi hw 21 rfl) (hwi hw 17 rfl) (hwi hw 22 rfl) [(.ref aC), (.int (0 : Int32)), (.ref a90), (.int (0 : Int32)), (.int (3 : Int32))] [] rfl (rm_cmp5_3 hw aC a90 kC k90 y0 y1 y2 _ O93 f90 n91 F94 V90 l0 l1 l2) (hb hby d3_9) rfl (lenOf pd_3 rfl) (by decide) (by decide) (Nat.le_of_ble_eq_true rfl) (by decide) (by decide) ?_
  rintro v95 T95 h95 L95 X95 e95 ⟨rfl, N95, K95, V95⟩
  have N95a := Fr.app (Fr.nil _) N95
  have O96 : Ext Z.heap h95 := xk O93 K95 (allS f90 all0)
  show Ends p e below _ T95 (mkF m 12 #[rv aC, iv (0 : Int32), iv (3 : Int32), rv a90, .unset, .unset] [(.int (3 : Int32))])
  refine go (fun _ => XS.istore X95.here hx rfl (hb hby d3_12) rfl (l' := #[rv aC, iv (0 : Int32), iv (3 : Int32), rv a90, iv (3 : Int32), .unset]) rfl) ?_
  refine go (fun _ => XS.iload X95.here hx rfl (hb hby d3_14) rfl) ?_
  refine go (fun _ => XS.iloadN X95.here hx rfl (hb hby d3_16) rfl) ?_
  show Ends p e below _ T95 (mkF m 17 #[rv aC, iv (0 : Int32), iv (3 : Int32), rv a90, iv (3 : Int32), .unset] [(.int (3 : Int32)), (.int (3 : Int32))])
  refine go (fun _ => XS.icmpYes X95.here hx rfl (pc0 := 17) (pc' := 57) rfl (hb hby d3_17) rfl (XT.ii_eq_t ((by decide) : (3 : Int32) = (3 : Int32))) (by decide) (by decide)) ?_
  show Ends p e below _ T95 (mkF m 57 #[rv aC, iv (0 : Int32), iv (3 : Int32), rv a90, iv (3 : Int32), .unset] [])
  refine go (fun _ => XS.aloadN X95.here hx rfl (hb hby d3_57) rfl rfl) ?_
  show Ends p e below _ T95 (mkF m 58 #[rv aC, iv (0 : Int32), iv (3 : Int32), rv a90, iv (3 : Int32), .unset] [(.ref a90)])
  have K97 : Keep h0 h95 [] := (Keep.trans (Keep.ext K92 E90) K95 (allS (Or.inr b90) all0))
  exact endA X95 hx hret rfl rfl (hb hby d3_58) (lvN X95 hlk e95 (fun h => by rw [hret] at h; cases h) ⟨a90, _, rfl, N95a, K97, b90, V95⟩ (by decide) (by decide))
set_option maxRecDepth 65536 in
set_option maxHeartbeats 40000000 in
theorem rm_coder_3 {l : Launch} {Z : State} {a0 : Array Value} (hw : ∀ d ∈ tables_1, d.before a0 Z = true) (aB : Addr) (kB : ClassId) (vs : List Value) (h0 : Heap) (VB : Arv Z h0 aB kB .byte (3 : Int32) vs (.int 0)) :
    Con l (⟨"java/lang/StringUTF16", "coderFromArrayLen", "([BI)B"⟩ : MethodName) jdk_52_method_15_code 2 (some .byte) ({ frames := 0, cells := 0, slots := 0, locals := 0 } : Room) Z #[(.ref aB), (.int (3 : Int32))] h0 (fun v h L => v = some (.int 0) ∧ Fr Z.heap.size L ∧ h0 = h) := by
  refine Con.of (plainFor_of_name pn_2) (Ls := #[rv aB, iv (3 : Int32)]) (fun m => efOf rfl) ?_
  intro p e s m below meth c T0 X0 hx hZ hby hml hown hnm hret hlk e0
  refine go (fun _ => XS.iloadN X0.here hx rfl (hb hby d4_0) rfl) ?_
  refine go (fun _ => XS.aloadN X0.here hx rfl (hb hby d4_1) rfl rfl) ?_
  show Ends p e below _ T0 (mkF m 2 #[rv aB, iv (3 : Int32)] [(.ref aB), (.int (3 : Int32))])
  obtain ⟨cl98, A98, -, S98, M98, -⟩ := id VB
  refine go (fun _ => X0.arraylength hx (cell := cl98) (by rw [e0]; exact A98.1) (State.isArrayOf_alike hZ.alike A98.2.1) (g := (mkF m 2 #[rv aB, iv (3 : Int32)] [(.ref aB), (.int (3 : Int32))])) rfl rfl (hb hby d4_2) _) ?_
  rw [len_of S98 M98]
  show Ends p e below _ T0 (mkF m 3 #[rv aB, iv (3 : Int32)] [(.int (3 : Int32)), (.int (3 : Int32))])
  refine go (fun _ => XS.isub X0.here hx rfl (hb hby d4_3) rfl) ?_
  refine go (fun _ => XT.bipushV X0.here hx rfl (31 : Int32) (hb hby d4_4) (by decide)) ?_
  refine go (fun _ => XT.iushr X0.here hx rfl (hb hby d4_6) rfl) ?_
  refine go (fun _ => XT.i2b X0.here hx rfl (hb hby d4_7) rfl) ?_
  show Ends p e below _ T0 (mkF m 8 #[rv aB, iv (3 : Int32)] [(.int (0 : Int32))])
  exact endN X0 hx hret (by simp) (hb hby d4_8) (lvN X0 hlk e0 (fun h => by rw [hret] at h; cases h) ⟨rfl, (Fr.nil _), rfl⟩ (by decide) (by decide))
set_option maxRecDepth 65536 in
set_option maxHeartbeats 40000000 in
theorem rm_new4_3 {l : Launch} {Z : State} {a0 : Array Value} (hw : ∀ d ∈ tables_1, d.before a0 Z = true) (a aC : Addr) (kC : ClassId) (y0 y1 y2 : Int32)  (h0 : Heap) (O0 : Ext Z.heap h0) (f0 : Z.heap.size ≤ a) (ne0 : a ≠ aC) (E0 : Exa Z h0 a "java/lang/String") (FV : Fld Z h0 a "java/lang/String" "value" "[B" .null) (FC : Fld Z h0 a "java/lang/String" "coder" "B" (.int 0)) (cz : Int32) (SCS : Sta Z Z.heap "java/lang/String" "COMPACT_STRINGS" "Z" (.int cz)) (hcz : ¬ cz = (0 : Int32)) (VC : Arv Z h0 aC kC .char (3 : Int32) [(.int y0), (.int y1), (.int y2)] (.int 0)) (l0 : ¬ (255 : Int32) < y0) (l1 : ¬ (255 : Int32) < y1) (l2 : ¬ (255 : Int32) < y2) :
    Con l (⟨"java/lang/String", "<init>", "([CIILjava/lang/Void;)V"⟩ : MethodName) jdk_42_method_149_code 6 none ({ frames := 2, cells := 1, slots := 3, locals := 35 } : Room) Z #[(.ref a), (.ref aC), (.int (0 : Int32)), (.int (3 : Int32)), .null] h0 (fun v h L => ∃ (b : Addr) (k : ClassId), v = none ∧ Fr Z.heap.size L ∧ Keep h0 h [a] ∧ h0.size ≤ b ∧ Fld Z h a "java/lang/String" "value" "[B" (.ref b) ∧ Fld Z h a "java/lang/String" "coder" "B" (.int 0) ∧ Arv Z h b k .byte (3 : Int32) [(.int y0.toInt8.toInt32), (.int y1.toInt8.toInt32), (.int y2.toInt8.toInt32)] (.int 0)) := by
  refine Con.of (plainFor_of_name pn_0) (Ls := #[rv a, rv aC, iv (0 : Int32), iv (3 : Int32), .val .null, .unset]) (fun m => efOf rfl) ?_
  intro p e s m below meth c T0 X0 hx hZ hby hml hown hnm hret hlk e0
  refine go (fun _ => XS.aloadN X0.here hx rfl (hb hby d0_0) rfl rfl) ?_
  show Ends p e below _ T0 (mkF m 1 #[rv a, rv aC, iv (0 : Int32), iv (3 : Int32), .val .null, .unset] [(.ref a)])
  obtain ⟨T99, X99, e99, s99⟩ := initO X0 hx hZ hown (hwi hw 11 rfl) (hwi hw 12 rfl) (hwi hw 13 rfl) e0 (g := (mkF m 1 #[rv a, rv aC, iv (0 : Int32), iv (3 : Int32), .val .null, .unset] [(.ref a)])) rfl (by rw [hml]; rfl) rfl (hb hby d0_1) (by decide) (W := 0) (by show 2 * 0 + _ ≤ _; exact Nat.le_of_eq rfl) (by decide)
  refine go s99 ?_
  show Ends p e below _ T99 (mkF m 4 #[rv a, rv aC, iv (0 : Int32), iv (3 : Int32), .val .null, .unset] [])
  refine go (fun _ => XS.iloadN X99.here hx rfl (hb hby d0_4) rfl) ?_
  show Ends p e below _ T99 (mkF m 5 #[rv a, rv aC, iv (0 : Int32), iv (3 : Int32), .val .null, .unset] [(.int (3 : Int32))])
  refine go (fun _ => XS.ifYes X99.here hx rfl (pc0 := 5) (pc' := 27) rfl (hb hby d0_5) rfl (XT.i0_ne_t ((by decide) : ¬ ((3 : Int32) = (0 : Int32)))) (by decide) (by decide)) ?_
  show Ends p e below _ T99 (mkF m 27 #[rv a, rv aC, iv (0 : Int32), iv (3 : Int32), .val .null, .unset] [])
  obtain ⟨T100, X100, e100, s100⟩ := getS2 X99 hx hZ hown (host := "") (Or.inl (hwi hw 14 rfl)) Via.refl e99 (Sta.ext O0 SCS) (g := (mkF m 27 #[rv a, rv aC, iv (0 : Int32), iv (3 : Int32), .val .null, .unset] [])) rfl (hb hby d0_27)
  refine go s100 ?_
  show Ends p e below _ T100 (mkF m 30 #[rv a, rv aC, iv (0 : Int32), iv (3 : Int32), .val .null, .unset] [(.int cz)])
  refine go (fun _ => XS.ifNo X100.here hx rfl (hb hby d0_30) rfl (XT.i0_eq_f hcz)) ?_
  show Ends p e below _ T100 (mkF m 33 #[rv a, rv aC, iv (0 : Int32), iv (3 : Int32), .val .null, .unset] [])
  refine go (fun _ => XS.aloadN X100.here hx rfl (hb hby d0_33) rfl rfl) ?_
  refine go (fun _ => XS.iloadN X100.here hx rfl (hb hby d0_34) rfl) ?_
  refine go (fun _ => XS.iloadN X100.here hx rfl (hb hby d0_35) rfl) ?_
  show Ends p e below _ T100 (mkF m 36 #[rv a, rv aC, iv (0 : Int32), iv (3 : Int32), .val .null, .unset] [(.int (3 : Int32)), (.int (0 : Int32)), (.ref aC)])
  refine cStat X100 hx hZ hown (by rw [hml]; rfl) e100 (hwi hw 15 rfl) (hwi hw 16 rfl) (hwi hw 17 rfl) (hwi hw 18 rfl) [(.ref aC), (.int (0 : Int32)), (.int (3 : Int32))] [] rfl (rm_cmp3_3 hw aC kC y0 y1 y2 _ O0 VC l0 l1 l2) (hb hby d0_36) rfl (lenOf pd_4 rfl) (by decide) (by decide) (Nat.le_of_ble_eq_true rfl) (by decide) (by decide) ?_
  rintro v101 T101 h101 L101 X101 e101 ⟨b101, k101, rfl, N101, K101, g101, V101⟩
  have N101a := Fr.app (Fr.nil _) N101
  have n102 : a ≠ b101 := Nat.ne_of_lt (Nat.lt_of_lt_of_le (E0.lt) g101)
  have n103 : aC ≠ b101 := Nat.ne_of_lt (Nat.lt_of_lt_of_le (VC.lt) g101)
  have f104 : Z.heap.size ≤ b101 := Nat.le_trans (O0).1 g101
  have K105 : Keep h0 h0 [a] := (Keep.refl _ _)
  have b104 : h0.size ≤ b101 := Nat.le_trans (K105).1 g101
  have O106 : Ext Z.heap h101 := xk O0 K101 all0
  show Ends p e below _ T101 (mkF m 39 #[rv a, rv aC, iv (0 : Int32), iv (3 : Int32), .val .null, .unset] [(.ref b101)])
  refine go (fun _ => XS.astore X101.here hx rfl (hb hby d0_39) rfl rfl (l' := #[rv a, rv aC, iv (0 : Int32), iv (3 : Int32), .val .null, rv b101]) rfl) ?_
  refine go (fun _ => XS.aloadN X101.here hx rfl (hb hby d0_41) rfl rfl) ?_
  refine go (fun _ => XS.aload X101.here hx rfl (hb hby d0_42) rfl rfl) ?_
  refine go (fun _ => XS.iloadN X101.here hx rfl (hb hby d0_44) rfl) ?_
  show Ends p e below _ T101 (mkF m 45 #[rv a, rv aC, iv (0 : Int32), iv (3 : Int32), .val .null, rv b101] [(.int (3 : Int32)), (.ref b101), (.ref a)])
  refine cStat X101 hx hZ hown (by rw [hml]; rfl) e101 (hwi hw 23 rfl) (hwi hw 24 rfl) (hwi hw 17 rfl) (hwi hw 25 rfl) [(.ref b101), (.int (3 : Int32))] [(.ref a)] rfl (rm_coder_3 hw b101 _ _ _ V101) (hb hby d0_45) rfl (lenOf pd_5 rfl) (by decide) (by decide) (Nat.le_of_ble_eq_true rfl) (by decide) (by decide) ?_
  rintro v107 T107 h107 L107 X107 e107 ⟨rfl, N107, rfl⟩
  have N107a := Fr.app N101a N107
  show Ends p e below _ T107 (mkF m 48 #[rv a, rv aC, iv (0 : Int32), iv (3 : Int32), .val .null, rv b101] [(.int (0 : Int32)), (.ref a)])
  have F108 := (Exa.keep E0 K101)
  have F109 := (Fld.keep FC K101 nin0)
  obtain ⟨T110, h110, X110, e110, W110, s110⟩ := putF X107 hx hZ hown (host := "") (Or.inl (hwi hw 26 rfl)) Via.refl e107 F109 F108 (Or.inr ⟨(hwi hw 27 rfl), rfl, hnm⟩) (hwi hw 1 rfl) (ty := .byte) (by decide) rfl rfl (g := (mkF m 48 #[rv a, rv aC, iv (0 : Int32), iv (3 : Int32), .val .null, rv b101] [(.int (0 : Int32)), (.ref a)])) rfl rfl (hb hby d0_48)
  have N110 := Fr.snoc X110 N107a f0
  have O111 : Ext Z.heap h110 := xw O106 W110 f0
  refine go s110 ?_
  show Ends p e below _ T110 (mkF m 51 #[rv a, rv aC, iv (0 : Int32), iv (3 : Int32), .val .null, rv b101] [])
  refine go (fun _ => XS.aloadN X110.here hx rfl (hb hby d0_51) rfl rfl) ?_
  refine go (fun _ => XS.aload X110.here hx rfl (hb hby d0_52) rfl rfl) ?_
  show Ends p e below _ T110 (mkF m 54 #[rv a, rv aC, iv (0 : Int32), iv (3 : Int32), .val .null, rv b101] [(.ref b101), (.ref a)])
  have F112 := (Exa.wr W110 F108)
  have F113 := (Fld.other W110 (Fld.keep FV K101 nin0) (Or.inr (slot_ne (a0 := a0) (Or.inr (hwi hw 29 rfl)) (Or.inr (hwi hw 27 rfl)) (by decide) (t := (.array .byte)) (t' := .byte) (by decide) (by decide))))
  obtain ⟨T114, h114, X114, e114, W114, s114⟩ := putF X110 hx hZ hown (host := "") (Or.inl (hwi hw 28 rfl)) Via.refl e110 F113 F112 (Or.inr ⟨(hwi hw 29 rfl), rfl, hnm⟩) (hwi hw 1 rfl) (ty := (.array .byte)) (by decide) rfl rfl (g := (mkF m 54 #[rv a, rv aC, iv (0 : Int32), iv (3 : Int32), .val .null, rv b101] [(.ref b101), (.ref a)])) rfl rfl (hb hby d0_54)
  have N114 := Fr.snoc X114 N110 f0
  have O115 : Ext Z.heap h114 := xw O111 W114 f0
  refine go s114 ?_
  show Ends p e below _ T114 (mkF m 57 #[rv a, rv aC, iv (0 : Int32), iv (3 : Int32), .val .null, rv b101] [])
  have K116 : Keep h0 h114 [a] := (Keep.wr (Keep.wr (Keep.trans K105 K101 all0) W110 (Or.inl (List.mem_of_getElem? (i := 0) rfl))) W114 (Or.inl (List.mem_of_getElem? (i := 0) rfl)))
  have F117 := (Fld.same W114 F113)
  have F118 := (Fld.other W114 (Fld.same W110 F109) (Or.inr (slot_ne (a0 := a0) (Or.inr (hwi hw 27 rfl)) (Or.inr (hwi hw 29 rfl)) (by decide) (t := .byte) (t' := (.array .byte)) (by decide) (by decide))))
  have F119 := (Arv.other (Arv.other V101 W110 (Ne.symm n102)) W114 (Ne.symm n102))
  exact endV X114 hx hret (hb hby d0_57) (lvN X114 hlk e114 (fun _ => rfl) ⟨b101, _, rfl, N114, K116, b104, F117, F118, F119⟩ (by decide) (by decide))
set_option maxRecDepth 65536 in
set_option maxHeartbeats 40000000 in
theorem rm_new1_3 {l : Launch} {Z : State} {a0 : Array Value} (hw : ∀ d ∈ tables_1, d.before a0 Z = true) (a aC : Addr) (kC : ClassId) (y0 y1 y2 : Int32)  (h0 : Heap) (O0 : Ext Z.heap h0) (f0 : Z.heap.size ≤ a) (ne0 : a ≠ aC) (E0 : Exa Z h0 a "java/lang/String") (FV : Fld Z h0 a "java/lang/String" "value" "[B" .null) (FC : Fld Z h0 a "java/lang/String" "coder" "B" (.int 0)) (cz : Int32) (SCS : Sta Z Z.heap "java/lang/String" "COMPACT_STRINGS" "Z" (.int cz)) (hcz : ¬ cz = (0 : Int32)) (VC : Arv Z h0 aC kC .char (3 : Int32) [(.int y0), (.int y1), (.int y2)] (.int 0)) (l0 : ¬ (255 : Int32) < y0) (l1 : ¬ (255 : Int32) < y1) (l2 : ¬ (255 : Int32) < y2) :
    Con l (⟨"java/lang/String", "<init>", "([C)V"⟩ : MethodName) jdk_42_method_3_code 2 none ({ frames := 3, cells := 1, slots := 3, locals := 52 } : Room) Z #[(.ref a), (.ref aC)] h0 (fun v h L => ∃ (b : Addr) (k : ClassId), v = none ∧ Fr Z.heap.size L ∧ Keep h0 h [a] ∧ h0.size ≤ b ∧ Fld Z h a "java/lang/String" "value" "[B" (.ref b) ∧ Fld Z h a "java/lang/String" "coder" "B" (.int 0) ∧ Arv Z h b k .byte (3 : Int32) [(.int y0.toInt8.toInt32), (.int y1.toInt8.toInt32), (.int y2.toInt8.toInt32)] (.int 0)) := by
  refine Con.of (plainFor_of_name pn_0) (Ls := #[rv a, rv aC]) (fun m => efOf rfl) ?_
  intro p e s m below meth c T0 X0 hx hZ hby hml hown hnm hret hlk e0
  refine go (fun _ => XS.aloadN X0.here hx rfl (hb hby d1_0) rfl rfl) ?_
  refine go (fun _ => XS.aloadN X0.here hx rfl (hb hby d1_1) rfl rfl) ?_
  refine go (fun _ => XT.iconstV X0.here hx rfl (0 : Int32) (hb hby d1_2) (by decide)) ?_
  refine go (fun _ => XS.aloadN X0.here hx rfl (hb hby d1_3) rfl rfl) ?_
  show Ends p e below _ T0 (mkF m 4 #[rv a, rv aC] [(.ref aC), (.int (0 : Int32)), (.ref aC), (.ref a)])
  obtain ⟨cl120, A120, -, S120, M120, -⟩ := id VC
  refine go (fun _ => X0.arraylength hx (cell := cl120) (by rw [e0]; exact A120.1) (State.isArrayOf_alike hZ.alike A120.2.1) (g := (mkF m 4 #[rv a, rv aC] [(.ref aC), (.int (0 : Int32)), (.ref aC), (.ref a)])) rfl rfl (hb hby d1_4) _) ?_
  rw [len_of S120 M120]
  show Ends p e below _ T0 (mkF m 5 #[rv a, rv aC] [(.int (3 : Int32)), (.int (0 : Int32)), (.ref aC), (.ref a)])
  refine go (fun _ => XS.aconstNull X0.here hx rfl (hb hby d1_5)) ?_
  show Ends p e below _ T0 (mkF m 6 #[rv a, rv aC] [.null, (.int (3 : Int32)), (.int (0 : Int32)), (.ref aC), (.ref a)])
  refine cInit X0 hx hZ hown (by rw [hml]; rfl) e0 (hwi hw 7 rfl) (hwi hw 8 rfl) (hwi hw 2 rfl) (hwi hw 10 rfl) a [(.ref aC), (.int (0 : Int32)), (.int (3 : Int32)), .null] [] rfl (rm_new4_3 hw a aC kC y0 y1 y2 _ O0 f0 ne0 E0 FV FC cz SCS hcz VC l0 l1 l2) (hb hby d1_6) rfl (lenOf pd_1 rfl) rfl (by decide) (by decide) (Nat.le_of_ble_eq_true rfl) (by decide) (by decide) ?_
  rintro v121 T121 h121 L121 X121 e121 ⟨b121, k121, rfl, N121, K121, g121, Fv121, Fc121, V121⟩
  have N121a := Fr.app (Fr.nil _) N121
  have n122 : a ≠ b121 := Nat.ne_of_lt (Nat.lt_of_lt_of_le (E0.lt) g121)
  have n123 : aC ≠ b121 := Nat.ne_of_lt (Nat.lt_of_lt_of_le (VC.lt) g121)
  have f124 : Z.heap.size ≤ b121 := Nat.le_trans (O0).1 g121
  have K125 : Keep h0 h0 [a] := (Keep.refl _ _)
  have b124 : h0.size ≤ b121 := Nat.le_trans (K125).1 g121
  have O126 : Ext Z.heap h121 := xk O0 K121 (allS f0 all0)
  show Ends p e below _ T121 (mkF m 9 #[rv a, rv aC] [])
  have K127 : Keep h0 h121 [a] := (Keep.trans K125 K121 (allS (Or.inl (List.mem_of_getElem? (i := 0) rfl)) all0))
  exact endV X121 hx hret (hb hby d1_9) (lvN X121 hlk e121 (fun _ => rfl) ⟨b121, _, rfl, N121a, K127, b124, Fv121, Fc121, V121⟩ (by decide) (by decide))
set_option maxRecDepth 65536 in
set_option maxHeartbeats 40000000 in
theorem rm_can {l : Launch} {Z : State} {a0 : Array Value} (hw : ∀ d ∈ tables_1, d.before a0 Z = true) (y : Int32) (h0 : Heap) (l0 : ¬ (255 : Int32) < y) :
    Con l (⟨"java/lang/StringLatin1", "canEncode", "(C)Z"⟩ : MethodName) jdk_43_method_3_code 1 (some .boolean) ({ frames := 0, cells := 0, slots := 0, locals := 0 } : Room) Z #[(.int y)] h0 (fun v h L => v = some (.int 1) ∧ Fr Z.heap.size L ∧ h0 = h) := by
  refine Con.of (plainFor_of_name pn_6) (Ls := #[iv y]) (fun m => efOf rfl) ?_
  intro p e s m below meth c T0 X0 hx hZ hby hml hown hnm hret hlk e0
  refine go (fun _ => XS.iloadN X0.here hx rfl (hb hby d5_0) rfl) ?_
  refine go (fun _ => XT.sipushV X0.here hx rfl (255 : Int32) (hb hby d5_1) (by decide)) ?_
  show Ends p e below _ T0 (mkF m 4 #[iv y] [(.int (255 : Int32)), (.int y)])
  refine go (fun _ => XS.icmpNo X0.here hx rfl (hb hby d5_4) rfl (XT.ii_gt_f l0)) ?_
  show Ends p e below _ T0 (mkF m 7 #[iv y] [])
  refine go (fun _ => XT.iconstV X0.here hx rfl (1 : Int32) (hb hby d5_7) (by decide)) ?_
  refine go (fun _ => XS.goto X0.here hx rfl (pc0 := 8) (pc' := 12) rfl (hb hby d5_8) (by decide) (by decide)) ?_
  show Ends p e below _ T0 (mkF m 12 #[iv y] [(.int (1 : Int32))])
  exact endN X0 hx hret (by simp) (hb hby d5_12) (lvN X0 hlk e0 (fun h => by rw [hret] at h; cases h) ⟨rfl, (Fr.nil _), rfl⟩ (by decide) (by decide))
set_option maxRecDepth 65536 in
set_option maxHeartbeats 40000000 in
theorem rm_tobytes {l : Launch} {Z : State} {a0 : Array Value} (hw : ∀ d ∈ tables_1, d.before a0 Z = true) (y : Int32) (h0 : Heap) (O0 : Ext Z.heap h0) :
    Con l (⟨"java/lang/StringLatin1", "toBytes", "(C)[B"⟩ : MethodName) jdk_43_method_46_code 1 (some (.array .byte)) ({ frames := 0, cells := 1, slots := 1, locals := 0 } : Room) Z #[(.int y)] h0 (fun v h L => ∃ (b : Addr) (k : ClassId), v = some (.ref b) ∧ Fr Z.heap.size L ∧ Keep h0 h [] ∧ h0.size ≤ b ∧ Arv Z h b k .byte (1 : Int32) [(.int y.toInt8.toInt32)] (.int 0)) := by
  refine Con.of (plainFor_of_name pn_6) (Ls := #[iv y]) (fun m => efOf rfl) ?_
  intro p e s m below meth c T0 X0 hx hZ hby hml hown hnm hret hlk e0
  refine go (fun _ => XT.iconstV X0.here hx rfl (1 : Int32) (hb hby d6_0) (by decide)) ?_
  show Ends p e below _ T0 (mkF m 1 #[iv y] [(.int (1 : Int32))])
  obtain ⟨T128, h128, k128, X128, e128, E128, A128, s128⟩ := newP X0 hx hZ (hwi hw 19 rfl) e0 (g := (mkF m 1 #[iv y] [(.int (1 : Int32))])) rfl (hb hby d6_1) rfl (by decide) (cap := 1) (by decide) (by decide) (by decide) (by decide)
  obtain ⟨a128, g128⟩ : ∃ z : Addr, z = h0.size := ⟨_, rfl⟩
  have f128 : Z.heap.size ≤ a128 := by rw [g128]; exact (O0).1
  have K129 : Keep h0 h0 [] := (Keep.refl _ _)
  have b128 : h0.size ≤ a128 := by rw [g128]; exact (K129).1
  rw [← g128] at A128 s128
  have O130 : Ext Z.heap h128 := xx O0 E128
  have V128 : Arv Z h128 a128 k128 .byte (1 : Int32) [(.int (0 : Int32))] (.int 0) := Arv.pad (Arv.new A128 (by decide)) (pad_rep [] _ 1)
  refine go s128 ?_
  show Ends p e below _ T128 (mkF m 3 #[iv y] [(.ref a128)])
  refine go (fun _ => XS.dup X128.here hx rfl (hb hby d6_3) rfl rfl) ?_
  refine go (fun _ => XT.iconstV X128.here hx rfl (0 : Int32) (hb hby d6_4) (by decide)) ?_
  refine go (fun _ => XS.iloadN X128.here hx rfl (hb hby d6_5) rfl) ?_
  refine go (fun _ => XT.i2b X128.here hx rfl (hb hby d6_6) rfl) ?_
  show Ends p e below _ T128 (mkF m 7 #[iv y] [(.int y.toInt8.toInt32), (.int (0 : Int32)), (.ref a128), (.ref a128)])
  obtain ⟨cl131, A131, q131, S131, M131, H131, G131⟩ := id V128
  obtain ⟨T131, h131, X131, e131, W131, s131⟩ := stB X128 hx hZ e128 A131 (j := (0 : Int32)) (inb_of S131 (by decide)) (g := (mkF m 7 #[iv y] [(.int y.toInt8.toInt32), (.int (0 : Int32)), (.ref a128), (.ref a128)])) rfl rfl (hb hby d6_7)
  have r131 : nar .byte y.toInt8.toInt32 = y.toInt8.toInt32 := own_nb _
  rw [r131] at W131
  have N131 := Fr.snoc X131 (Fr.nil _) f128
  have O132 : Ext Z.heap h131 := xw O130 W131 f128
  have V131 : Arv Z h131 a128 k128 .byte (1 : Int32) [(.int y.toInt8.toInt32)] (.int 0) := Arv.set A131 q131 S131 M131 H131 G131 (by first | rfl | exact fits_nar_byte y.toInt8.toInt32 | (rw [← r131]; exact fits_nar_byte y.toInt8.toInt32)) W131 0 (by decide) (Nat.le_of_ble_eq_true rfl)
  refine go s131 ?_
  show Ends p e below _ T131 (mkF m 8 #[iv y] [(.ref a128)])
  have K133 : Keep h0 h131 [] := (Keep.wr (Keep.ext K129 E128) W131 (Or.inr b128))
  exact endA X131 hx hret rfl rfl (hb hby d6_8) (lvN X131 hlk e131 (fun h => by rw [hret] at h; cases h) ⟨a128, _, rfl, N131, K133, b128, V131⟩ (by decide) (by decide))
set_option maxRecDepth 65536 in
set_option maxHeartbeats 40000000 in
theorem rm_strbb {l : Launch} {Z : State} {a0 : Array Value} (hw : ∀ d ∈ tables_1, d.before a0 Z = true) (a : Addr) (x : Addr) (h0 : Heap) (O0 : Ext Z.heap h0) (f0 : Z.heap.size ≤ a) (E0 : Exa Z h0 a "java/lang/String") (F_value : Fld Z h0 a "java/lang/String" "value" "[B" .null) (F_coder : Fld Z h0 a "java/lang/String" "coder" "B" (.int (0 : Int32)))   :
    Con l (⟨"java/lang/String", "<init>", "([BB)V"⟩ : MethodName) jdk_42_method_151_code 3 none ({ frames := 1, cells := 0, slots := 0, locals := 12 } : Room) Z #[(.ref a), (.ref x), (.int (0 : Int32))] h0 (fun v h L => v = none ∧ Fr Z.heap.size L ∧ Keep h0 h [a] ∧ Fld Z h a "java/lang/String" "value" "[B" (.ref x) ∧ Fld Z h a "java/lang/String" "coder" "B" (.int (0 : Int32))) := by
  refine Con.of (plainFor_of_name pn_0) (Ls := #[rv a, rv x, iv (0 : Int32)]) (fun m => efOf rfl) ?_
  intro p e s m below meth c T0 X0 hx hZ hby hml hown hnm hret hlk e0
  refine go (fun _ => XS.aloadN X0.here hx rfl (hb hby d7_0) rfl rfl) ?_
  show Ends p e below _ T0 (mkF m 1 #[rv a, rv x, iv (0 : Int32)] [(.ref a)])
  obtain ⟨T134, X134, e134, s134⟩ := initO X0 hx hZ hown (hwi hw 11 rfl) (hwi hw 12 rfl) (hwi hw 13 rfl) e0 (g := (mkF m 1 #[rv a, rv x, iv (0 : Int32)] [(.ref a)])) rfl (by rw [hml]; rfl) rfl (hb hby d7_1) (by decide) (W := 0) (by show 2 * 0 + _ ≤ _; exact Nat.le_of_eq rfl) (by decide)
  refine go s134 ?_
  show Ends p e below _ T134 (mkF m 4 #[rv a, rv x, iv (0 : Int32)] [])
  refine go (fun _ => XS.aloadN X134.here hx rfl (hb hby d7_4) rfl rfl) ?_
  refine go (fun _ => XS.aloadN X134.here hx rfl (hb hby d7_5) rfl rfl) ?_
  show Ends p e below _ T134 (mkF m 6 #[rv a, rv x, iv (0 : Int32)] [(.ref x), (.ref a)])
  obtain ⟨T135, h135, X135, e135, W135, s135⟩ := putF X134 hx hZ hown (host := "") (Or.inl (hwi hw 28 rfl)) Via.refl e134 F_value E0 (Or.inr ⟨(hwi hw 29 rfl), rfl, hnm⟩) (hwi hw 1 rfl) (ty := (.array .byte)) (by decide) rfl rfl (g := (mkF m 6 #[rv a, rv x, iv (0 : Int32)] [(.ref x), (.ref a)])) rfl rfl (hb hby d7_6)
  have N135 := Fr.snoc X135 (Fr.nil _) f0
  have O136 : Ext Z.heap h135 := xw O0 W135 f0
  refine go s135 ?_
  show Ends p e below _ T135 (mkF m 9 #[rv a, rv x, iv (0 : Int32)] [])
  refine go (fun _ => XS.aloadN X135.here hx rfl (hb hby d7_9) rfl rfl) ?_
  refine go (fun _ => XS.iloadN X135.here hx rfl (hb hby d7_10) rfl) ?_
  show Ends p e below _ T135 (mkF m 11 #[rv a, rv x, iv (0 : Int32)] [(.int (0 : Int32)), (.ref a)])
  have F137 := (Exa.wr W135 E0)
  have F138 := (Fld.other W135 F_coder (Or.inr (slot_ne (a0 := a0) (Or.inr (hwi hw 27 rfl)) (Or.inr (hwi hw 29 rfl)) (by decide) (t := .byte) (t' := (.array .byte)) (by decide) (by decide))))
  obtain ⟨T139, h139, X139, e139, W139, s139⟩ := putF X135 hx hZ hown (host := "") (Or.inl (hwi hw 26 rfl)) Via.refl e135 F138 F137 (Or.inr ⟨(hwi hw 27 rfl), rfl, hnm⟩) (hwi hw 1 rfl) (ty := .byte) (by decide) rfl rfl (g := (mkF m 11 #[rv a, rv x, iv (0 : Int32)] [(.int (0 : Int32)), (.ref a)])) rfl rfl (hb hby d7_11)
  have N139 := Fr.snoc X139 N135 f0
  have O140 : Ext Z.heap h139 := xw O136 W139 f0
  refine go s139 ?_
  show Ends p e below _ T139 (mkF m 14 #[rv a, rv x, iv (0 : Int32)] [])
  have K141 : Keep h0 h139 [a] := (Keep.wr (Keep.wr (Keep.refl _ _) W135 (Or.inl (List.mem_of_getElem? (i := 0) rfl))) W139 (Or.inl (List.mem_of_getElem? (i := 0) rfl)))
  have F142 := (Fld.other W139 (Fld.same W135 F_value) (Or.inr (slot_ne (a0 := a0) (Or.inr (hwi hw 29 rfl)) (Or.inr (hwi hw 27 rfl)) (by decide) (t := (.array .byte)) (t' := .byte) (by decide) (by decide))))
  have F143 := (Fld.same W139 F138)
  exact endV X139 hx hret (hb hby d7_14) (lvN X139 hlk e139 (fun _ => rfl) ⟨rfl, N139, K141, F142, F143⟩ (by decide) (by decide))
set_option maxRecDepth 65536 in
set_option maxHeartbeats 40000000 in
theorem rm_cvalueOf {l : Launch} {Z : State} {a0 : Array Value} (hw : ∀ d ∈ tables_1, d.before a0 Z = true) (y : Int32) (h0 : Heap) (O0 : Ext Z.heap h0) (l0 : ¬ (255 : Int32) < y) (cz : Int32) (SCS : Sta Z Z.heap "java/lang/String" "COMPACT_STRINGS" "Z" (.int cz)) (hcz : ¬ cz = (0 : Int32)) :
    Con l (⟨"java/lang/String", "valueOf", "(C)Ljava/lang/String;"⟩ : MethodName) jdk_42_method_139_code 1 (some (.object "java/lang/String")) ({ frames := 2, cells := 2, slots := 5, locals := 27 } : Room) Z #[(.int y)] h0 (fun v h L => ∃ (a b : Addr) (k : ClassId), v = some (.ref a) ∧ Fr Z.heap.size L ∧ Keep h0 h [] ∧ h0.size ≤ a ∧ h0.size ≤ b ∧ a ≠ b ∧ Exa Z h a "java/lang/String" ∧ Fld Z h a "java/lang/String" "value" "[B" (.ref b) ∧ Fld Z h a "java/lang/String" "coder" "B" (.int 0) ∧ Arv Z h b k .byte (1 : Int32) [(.int y.toInt8.toInt32)] (.int 0)) := by
  refine Con.of (plainFor_of_name pn_0) (Ls := #[iv y]) (fun m => efOf rfl) ?_
  intro p e s m below meth c T0 X0 hx hZ hby hml hown hnm hret hlk e0
  obtain ⟨T144, X144, e144, s144⟩ := getS2 X0 hx hZ hown (host := "") (Or.inl (hwi hw 14 rfl)) Via.refl e0 (Sta.ext O0 SCS) (g := (mkF m 0 #[iv y] [])) rfl (hb hby d8_0)
  refine go s144 ?_
  show Ends p e below _ T144 (mkF m 3 #[iv y] [(.int cz)])
  refine go (fun _ => XS.ifNo X144.here hx rfl (hb hby d8_3) rfl (XT.i0_eq_f hcz)) ?_
  show Ends p e below _ T144 (mkF m 6 #[iv y] [])
  refine go (fun _ => XS.iloadN X144.here hx rfl (hb hby d8_6) rfl) ?_
  show Ends p e below _ T144 (mkF m 7 #[iv y] [(.int y)])
  refine cStat X144 hx hZ hown (by rw [hml]; rfl) e144 (hwi hw 33 rfl) (hwi hw 34 rfl) (hwi hw 35 rfl) (hwi hw 36 rfl) [(.int y)] [] rfl (rm_can hw y _ l0) (hb hby d8_7) rfl (lenOf pd_7 rfl) (by decide) (by decide) (Nat.le_of_ble_eq_true rfl) (by decide) (by decide) ?_
  rintro v145 T145 h145 L145 X145 e145 ⟨rfl, N145, rfl⟩
  have N145a := Fr.app (Fr.nil _) N145
  show Ends p e below _ T145 (mkF m 10 #[iv y] [(.int (1 : Int32))])
  refine go (fun _ => XS.ifNo X145.here hx rfl (hb hby d8_10) rfl (XT.i0_eq_f ((by decide) : ¬ ((1 : Int32) = (0 : Int32))))) ?_
  show Ends p e below _ T145 (mkF m 13 #[iv y] [])
  obtain ⟨T146, h146, X146, e146, E146, A146, D146, U146, s146⟩ := newO X145 hx hZ hown (hwi hw 37 rfl) (hwi hw 1 rfl) (hwi hw 2 rfl) e145 (g := (mkF m 13 #[iv y] [])) rfl (hb hby d8_13) (by decide) (by decide)
  obtain ⟨a146, g146⟩ : ∃ z : Addr, z = h0.size := ⟨_, rfl⟩
  have f146 : Z.heap.size ≤ a146 := by rw [g146]; exact (O0).1
  have K147 : Keep h0 h0 [] := (Keep.refl _ _)
  have b146 : h0.size ≤ a146 := by rw [g146]; exact (K147).1
  rw [← g146] at A146 D146 U146 s146
  have O148 : Ext Z.heap h146 := xx O0 E146
  refine go s146 ?_
  show Ends p e below _ T146 (mkF m 16 #[iv y] [(.ref a146)])
  refine go (fun _ => XS.dup X146.here hx rfl (hb hby d8_16) rfl rfl) ?_
  refine go (fun _ => XS.iloadN X146.here hx rfl (hb hby d8_17) rfl) ?_
  show Ends p e below _ T146 (mkF m 18 #[iv y] [(.int y), (.ref a146), (.ref a146)])
  refine cStat X146 hx hZ hown (by rw [hml]; rfl) e146 (hwi hw 38 rfl) (hwi hw 39 rfl) (hwi hw 35 rfl) (hwi hw 40 rfl) [(.int y)] [(.ref a146), (.ref a146)] rfl (rm_tobytes hw y _ O148) (hb hby d8_18) rfl (lenOf pd_8 rfl) (by decide) (by decide) (Nat.le_of_ble_eq_true rfl) (by decide) (by decide) ?_
  rintro v149 T149 h149 L149 X149 e149 ⟨b149, k149, rfl, N149, K149, g149, V149⟩
  have N149a := Fr.app N145a N149
  have n150 : a146 ≠ b149 := Nat.ne_of_lt (Nat.lt_of_lt_of_le (A146.lt) g149)
  have f151 : Z.heap.size ≤ b149 := Nat.le_trans (O148).1 g149
  have K152 : Keep h0 h146 [] := (Keep.ext K147 E146)
  have b151 : h0.size ≤ b149 := Nat.le_trans (K152).1 g149
  have O153 : Ext Z.heap h149 := xk O148 K149 all0
  show Ends p e below _ T149 (mkF m 21 #[iv y] [(.ref b149), (.ref a146), (.ref a146)])
  refine go (fun _ => XT.iconstV X149.here hx rfl (0 : Int32) (hb hby d8_21) (by decide)) ?_
  show Ends p e below _ T149 (mkF m 22 #[iv y] [(.int (0 : Int32)), (.ref b149), (.ref a146), (.ref a146)])
  have F154 := (Exa.keep A146 K149)
  have F155 := (Fld.keep (D146 (Or.inr (hwi hw 29 rfl)) (ty := (.array .byte)) (by decide)) K149 nin0)
  have F156 := (Fld.keep (D146 (Or.inr (hwi hw 27 rfl)) (ty := .byte) (by decide)) K149 nin0)
  refine cInit X149 hx hZ hown (by rw [hml]; rfl) e149 (hwi hw 41 rfl) (hwi hw 42 rfl) (hwi hw 2 rfl) (hwi hw 43 rfl) a146 [(.ref b149), (.int (0 : Int32))] [(.ref a146)] rfl (rm_strbb hw a146 b149 _ O153 f146 F154 F155 F156  ) (hb hby d8_22) rfl (lenOf pd_9 rfl) rfl (by decide) (by decide) (Nat.le_of_ble_eq_true rfl) (by decide) (by decide) ?_
  rintro v157 T157 h157 L157 X157 e157 ⟨rfl, N157, K157, F157_0, F157_1⟩
  have N157a := Fr.app N149a N157
  have O158 : Ext Z.heap h157 := xk O153 K157 (allS f146 all0)
  show Ends p e below _ T157 (mkF m 25 #[iv y] [(.ref a146)])
  have K159 : Keep h0 h157 [] := (Keep.trans (Keep.trans K152 K149 all0) K157 (allS (Or.inr b146) all0))
  have F160 := (Exa.keep F154 K157)
  have F161 := (Arv.keep V149 K157 (ninS (Ne.symm n150) nin0))
  exact endA X157 hx hret rfl rfl (hb hby d8_25) (lvN X157 hlk e157 (fun h => by rw [hret] at h; cases h) ⟨a146, b149, _, rfl, N157a, K159, b146, b151, n150, F160, F157_0, F157_1, F161⟩ (by decide) (by decide))
set_option maxRecDepth 65536 in
set_option maxHeartbeats 40000000 in
theorem rm_abc {l : Launch} {Z : State} {a0 : Array Value} (hw : ∀ d ∈ tables_1, d.before a0 Z = true) (a : Addr) (h0 : Heap)  :
    Con l (⟨"java/util/AbstractCollection", "<init>", "()V"⟩ : MethodName) jdk_22_method_1_code 1 none ({ frames := 1, cells := 0, slots := 0, locals := 12 } : Room) Z #[(.ref a)] h0 (fun v h L => v = none ∧ Fr Z.heap.size L ∧ h0 = h) := by
  refine Con.of (plainFor_of_name pn_10) (Ls := #[rv a]) (fun m => efOf rfl) ?_
  intro p e s m below meth c T0 X0 hx hZ hby hml hown hnm hret hlk e0
  refine go (fun _ => XS.aloadN X0.here hx rfl (hb hby d9_0) rfl rfl) ?_
  show Ends p e below _ T0 (mkF m 1 #[rv a] [(.ref a)])
  obtain ⟨T162, X162, e162, s162⟩ := initO X0 hx hZ hown (hwi hw 62 rfl) (hwi hw 12 rfl) (hwi hw 13 rfl) e0 (g := (mkF m 1 #[rv a] [(.ref a)])) rfl (by rw [hml]; rfl) rfl (hb hby d9_1) (by decide) (W := 0) (by show 2 * 0 + _ ≤ _; exact Nat.le_of_eq rfl) (by decide)
  refine go s162 ?_
  show Ends p e below _ T162 (mkF m 4 #[rv a] [])
  exact endV X162 hx hret (hb hby d9_4) (lvN X162 hlk e162 (fun _ => rfl) ⟨rfl, (Fr.nil _), rfl⟩ (by decide) (by decide))
set_option maxRecDepth 65536 in
set_option maxHeartbeats 40000000 in
theorem rm_abl {l : Launch} {Z : State} {a0 : Array Value} (hw : ∀ d ∈ tables_1, d.before a0 Z = true) (a : Addr) (h0 : Heap) (O0 : Ext Z.heap h0) (f0 : Z.heap.size ≤ a) (E0 : Exa Z h0 a "java/util/ArrayList") (F1 : Fld Z h0 a "java/util/AbstractList" "modCount" "I" (.int 0)) (F2 : Fld Z h0 a "java/util/ArrayList" "elementData" "[Ljava/lang/Object;" .null) (F3 : Fld Z h0 a "java/util/ArrayList" "size" "I" (.int 0)) :
    Con l (⟨"java/util/AbstractList", "<init>", "()V"⟩ : MethodName) jdk_39_method_1_code 1 none ({ frames := 2, cells := 0, slots := 0, locals := 24 } : Room) Z #[(.ref a)] h0 (fun v h L => v = none ∧ Fr Z.heap.size L ∧ Keep h0 h [a] ∧ Fld Z h a "java/util/AbstractList" "modCount" "I" (.int 0) ∧ Fld Z h a "java/util/ArrayList" "elementData" "[Ljava/lang/Object;" .null ∧ Fld Z h a "java/util/ArrayList" "size" "I" (.int 0)) := by
  refine Con.of (plainFor_of_name pn_11) (Ls := #[rv a]) (fun m => efOf rfl) ?_
  intro p e s m below meth c T0 X0 hx hZ hby hml hown hnm hret hlk e0
  refine go (fun _ => XS.aloadN X0.here hx rfl (hb hby d10_0) rfl rfl) ?_
  show Ends p e below _ T0 (mkF m 1 #[rv a] [(.ref a)])
  refine cInit X0 hx hZ hown (by rw [hml]; rfl) e0 (hwi hw 56 rfl) (hwi hw 57 rfl) (hwi hw 60 rfl) (hwi hw 61 rfl) a [] [] rfl (rm_abc hw a _) (hb hby d10_1) rfl (lenOf pd_12 rfl) rfl (by decide) (by decide) (Nat.le_of_ble_eq_true rfl) (by decide) (by decide) ?_
  rintro v163 T163 h163 L163 X163 e163 ⟨rfl, N163, rfl⟩
  have N163a := Fr.app (Fr.nil _) N163
  show Ends p e below _ T163 (mkF m 4 #[rv a] [])
  refine go (fun _ => XS.aloadN X163.here hx rfl (hb hby d10_4) rfl rfl) ?_
  refine go (fun _ => XT.iconstV X163.here hx rfl (0 : Int32) (hb hby d10_5) (by decide)) ?_
  show Ends p e below _ T163 (mkF m 6 #[rv a] [(.int (0 : Int32)), (.ref a)])
  obtain ⟨T164, h164, X164, e164, W164, s164⟩ := putF X163 hx hZ hown (host := "") (Or.inl (hwi hw 63 rfl)) Via.refl e163 F1 E0 (Or.inl (hwi hw 64 rfl)) (hwi hw 45 rfl) (ty := .int) (by decide) rfl rfl (g := (mkF m 6 #[rv a] [(.int (0 : Int32)), (.ref a)])) rfl rfl (hb hby d10_6)
  have N164 := Fr.snoc X164 N163a f0
  have O165 : Ext Z.heap h164 := xw O0 W164 f0
  refine go s164 ?_
  show Ends p e below _ T164 (mkF m 9 #[rv a] [])
  have K166 : Keep h0 h164 [a] := (Keep.wr (Keep.refl _ _) W164 (Or.inl (List.mem_of_getElem? (i := 0) rfl)))
  have F167 := (Fld.same W164 F1)
  have F168 := (Fld.other W164 F2 (Or.inr (slot_ne (a0 := a0) (Or.inl (hwi hw 67 rfl)) (Or.inl (hwi hw 64 rfl)) (by decide) (t := (.array (.object "java/lang/Object"))) (t' := .int) (by decide) (by decide))))
  have F169 := (Fld.other W164 F3 (Or.inr (slot_ne (a0 := a0) (Or.inl (hwi hw 76 rfl)) (Or.inl (hwi hw 64 rfl)) (by decide) (t := .int) (t' := .int) (by decide) (by decide))))
  exact endV X164 hx hret (hb hby d10_9) (lvN X164 hlk e164 (fun _ => rfl) ⟨rfl, N164, K166, F167, F168, F169⟩ (by decide) (by decide))
set_option maxRecDepth 65536 in
set_option maxHeartbeats 40000000 in
theorem rm_alinit {l : Launch} {Z : State} {a0 : Array Value} (hw : ∀ d ∈ tables_1, d.before a0 Z = true) (a : Addr) (aD : Addr) (kD : ClassId) (h0 : Heap) (O0 : Ext Z.heap h0) (f0 : Z.heap.size ≤ a) (E0 : Exa Z h0 a "java/util/ArrayList") (F1 : Fld Z h0 a "java/util/AbstractList" "modCount" "I" (.int 0)) (F2 : Fld Z h0 a "java/util/ArrayList" "elementData" "[Ljava/lang/Object;" .null) (F3 : Fld Z h0 a "java/util/ArrayList" "size" "I" (.int 0)) (SD : Sta Z Z.heap "java/util/ArrayList" "DEFAULTCAPACITY_EMPTY_ELEMENTDATA" "[Ljava/lang/Object;" (.ref aD)) (VD : Arv Z Z.heap aD kD (.object "java/lang/Object") (0 : Int32) [] .null) :
    Con l (⟨"java/util/ArrayList", "<init>", "()V"⟩ : MethodName) jdk_38_method_2_code 1 none ({ frames := 3, cells := 0, slots := 0, locals := 36 } : Room) Z #[(.ref a)] h0 (fun v h L => v = none ∧ Fr Z.heap.size L ∧ Keep h0 h [a] ∧ Fld Z h a "java/util/AbstractList" "modCount" "I" (.int 0) ∧ Fld Z h a "java/util/ArrayList" "elementData" "[Ljava/lang/Object;" (.ref aD) ∧ Fld Z h a "java/util/ArrayList" "size" "I" (.int 0)) := by
  refine Con.of (plainFor_of_name pn_13) (Ls := #[rv a]) (fun m => efOf rfl) ?_
  intro p e s m below meth c T0 X0 hx hZ hby hml hown hnm hret hlk e0
  refine go (fun _ => XS.aloadN X0.here hx rfl (hb hby d11_0) rfl rfl) ?_
  show Ends p e below _ T0 (mkF m 1 #[rv a] [(.ref a)])
  refine cInit X0 hx hZ hown (by rw [hml]; rfl) e0 (hwi hw 50 rfl) (hwi hw 51 rfl) (hwi hw 54 rfl) (hwi hw 55 rfl) a [] [] rfl (rm_abl hw a _ O0 f0 E0 F1 F2 F3) (hb hby d11_1) rfl (lenOf pd_12 rfl) rfl (by decide) (by decide) (Nat.le_of_ble_eq_true rfl) (by decide) (by decide) ?_
  rintro v170 T170 h170 L170 X170 e170 ⟨rfl, N170, K170, F1170, F2170, F3170⟩
  have N170a := Fr.app (Fr.nil _) N170
  have O171 : Ext Z.heap h170 := xk O0 K170 (allS f0 all0)
  show Ends p e below _ T170 (mkF m 4 #[rv a] [])
  refine go (fun _ => XS.aloadN X170.here hx rfl (hb hby d11_4) rfl rfl) ?_
  show Ends p e below _ T170 (mkF m 5 #[rv a] [(.ref a)])
  obtain ⟨T172, X172, e172, s172⟩ := getS2 X170 hx hZ hown (host := "") (Or.inl (hwi hw 65 rfl)) Via.refl e170 (Sta.ext O171 SD) (g := (mkF m 5 #[rv a] [(.ref a)])) rfl (hb hby d11_5)
  refine go s172 ?_
  show Ends p e below _ T172 (mkF m 8 #[rv a] [(.ref aD), (.ref a)])
  have F173 := (Exa.keep E0 K170)
  obtain ⟨T174, h174, X174, e174, W174, s174⟩ := putF X172 hx hZ hown (host := "") (Or.inl (hwi hw 66 rfl)) Via.refl e172 F2170 F173 (Or.inl (hwi hw 67 rfl)) (hwi hw 45 rfl) (ty := (.array (.object "java/lang/Object"))) (by decide) rfl rfl (g := (mkF m 8 #[rv a] [(.ref aD), (.ref a)])) rfl rfl (hb hby d11_8)
  have N174 := Fr.snoc X174 N170a f0
  have O175 : Ext Z.heap h174 := xw O171 W174 f0
  refine go s174 ?_
  show Ends p e below _ T174 (mkF m 11 #[rv a] [])
  have K176 : Keep h0 h174 [a] := (Keep.wr (Keep.trans (Keep.refl _ _) K170 (allS (Or.inl (List.mem_of_getElem? (i := 0) rfl)) all0)) W174 (Or.inl (List.mem_of_getElem? (i := 0) rfl)))
  have F177 := (Fld.other W174 F1170 (Or.inr (slot_ne (a0 := a0) (Or.inl (hwi hw 64 rfl)) (Or.inl (hwi hw 67 rfl)) (by decide) (t := .int) (t' := (.array (.object "java/lang/Object"))) (by decide) (by decide))))
  have F178 := (Fld.same W174 F2170)
  have F179 := (Fld.other W174 F3170 (Or.inr (slot_ne (a0 := a0) (Or.inl (hwi hw 76 rfl)) (Or.inl (hwi hw 67 rfl)) (by decide) (t := .int) (t' := (.array (.object "java/lang/Object"))) (by decide) (by decide))))
  exact endV X174 hx hret (hb hby d11_11) (lvN X174 hlk e174 (fun _ => rfl) ⟨rfl, N174, K176, F177, F178, F179⟩ (by decide) (by decide))
set_option maxRecDepth 65536 in
set_option maxHeartbeats 40000000 in
theorem rm_max101 {l : Launch} {Z : State} {a0 : Array Value} (hw : ∀ d ∈ tables_1, d.before a0 Z = true)  (h0 : Heap)  :
    Con l (⟨"java/lang/Math", "max", "(II)I"⟩ : MethodName) jdk_29_method_65_code 2 (some .int) ({ frames := 0, cells := 0, slots := 0, locals := 0 } : Room) Z #[(.int (10 : Int32)), (.int (1 : Int32))] h0 (fun v h L => v = some (.int 10) ∧ Fr Z.heap.size L ∧ h0 = h) := by
  refine Con.of (Jvm.Free.JP.mathPlain rfl (by decide +kernel)) (Ls := #[iv (10 : Int32), iv (1 : Int32)]) (fun m => efOf rfl) ?_
  intro p e s m below meth c T0 X0 hx hZ hby hml hown hnm hret hlk e0
  refine go (fun _ => XS.iloadN X0.here hx rfl (hb hby d12_0) rfl) ?_
  refine go (fun _ => XS.iloadN X0.here hx rfl (hb hby d12_1) rfl) ?_
  show Ends p e below _ T0 (mkF m 2 #[iv (10 : Int32), iv (1 : Int32)] [(.int (1 : Int32)), (.int (10 : Int32))])
  refine go (fun _ => XS.icmpNo X0.here hx rfl (hb hby d12_2) rfl (XT.ii_lt_f ((by decide) : ¬ ((10 : Int32) < (1 : Int32))))) ?_
  show Ends p e below _ T0 (mkF m 5 #[iv (10 : Int32), iv (1 : Int32)] [])
  refine go (fun _ => XS.iloadN X0.here hx rfl (hb hby d12_5) rfl) ?_
  refine go (fun _ => XS.goto X0.here hx rfl (pc0 := 6) (pc' := 10) rfl (hb hby d12_6) (by decide) (by decide)) ?_
  show Ends p e below _ T0 (mkF m 10 #[iv (10 : Int32), iv (1 : Int32)] [(.int (10 : Int32))])
  exact endI X0 hx hret (hb hby d12_10) (lvN X0 hlk e0 (fun h => by rw [hret] at h; cases h) ⟨rfl, (Fr.nil _), rfl⟩ (by decide) (by decide))
set_option maxRecDepth 65536 in
set_option maxHeartbeats 40000000 in
theorem rm_grow1 {l : Launch} {Z : State} {a0 : Array Value} (hw : ∀ d ∈ tables_1, d.before a0 Z = true) (a : Addr) (mc : Int32) (aD : Addr) (kD : ClassId) (h0 : Heap) (O0 : Ext Z.heap h0) (f0 : Z.heap.size ≤ a) (E0 : Exa Z h0 a "java/util/ArrayList") (F1 : Fld Z h0 a "java/util/AbstractList" "modCount" "I" (.int mc)) (F2 : Fld Z h0 a "java/util/ArrayList" "elementData" "[Ljava/lang/Object;" (.ref aD)) (F3 : Fld Z h0 a "java/util/ArrayList" "size" "I" (.int 0)) (SD : Sta Z Z.heap "java/util/ArrayList" "DEFAULTCAPACITY_EMPTY_ELEMENTDATA" "[Ljava/lang/Object;" (.ref aD)) (VD : Arv Z Z.heap aD kD (.object "java/lang/Object") (0 : Int32) [] .null) :
    Con l (⟨"java/util/ArrayList", "grow", "(I)[Ljava/lang/Object;"⟩ : MethodName) jdk_38_method_6_code 4 (some (.array (.object "java/lang/Object"))) ({ frames := 1, cells := 1, slots := 10, locals := 14 } : Room) Z #[(.ref a), (.int (1 : Int32))] h0 (fun v h L => ∃ (b : Addr) (k : ClassId), v = some (.ref b) ∧ Fr Z.heap.size L ∧ Keep h0 h [a] ∧ h0.size ≤ b ∧ Ovr Z k "java/lang/Object" ∧ Fld Z h a "java/util/AbstractList" "modCount" "I" (.int mc) ∧ Fld Z h a "java/util/ArrayList" "elementData" "[Ljava/lang/Object;" (.ref b) ∧ Fld Z h a "java/util/ArrayList" "size" "I" (.int 0) ∧ Arv Z h b k (.object "java/lang/Object") (10 : Int32) [.null, .null, .null, .null, .null, .null, .null, .null, .null, .null] .null) := by
  refine Con.of (plainFor_of_name pn_13) (Ls := #[rv a, iv (1 : Int32), .unset, .unset]) (fun m => efOf rfl) ?_
  intro p e s m below meth c T0 X0 hx hZ hby hml hown hnm hret hlk e0
  have nD : aD ≠ a := Nat.ne_of_lt (Nat.lt_of_lt_of_le VD.lt f0)
  refine go (fun _ => XS.aloadN X0.here hx rfl (hb hby d13_0) rfl rfl) ?_
  show Ends p e below _ T0 (mkF m 1 #[rv a, iv (1 : Int32), .unset, .unset] [(.ref a)])
  obtain ⟨T180, X180, e180, s180⟩ := getF X0 hx hZ hown (host := "") (Or.inl (hwi hw 66 rfl)) Via.refl e0 F2 (g := (mkF m 1 #[rv a, iv (1 : Int32), .unset, .unset] [(.ref a)])) rfl rfl (hb hby d13_1)
  refine go s180 ?_
  show Ends p e below _ T180 (mkF m 4 #[rv a, iv (1 : Int32), .unset, .unset] [(.ref aD)])
  have F181 := (Arv.ext VD O0)
  obtain ⟨cl182, A182, -, S182, M182, -⟩ := id F181
  refine go (fun _ => X180.arraylength hx (cell := cl182) (by rw [e180]; exact A182.1) (State.isArrayOf_alike hZ.alike A182.2.1) (g := (mkF m 4 #[rv a, iv (1 : Int32), .unset, .unset] [(.ref aD)])) rfl rfl (hb hby d13_4) _) ?_
  rw [len_of S182 M182]
  show Ends p e below _ T180 (mkF m 5 #[rv a, iv (1 : Int32), .unset, .unset] [(.int (0 : Int32))])
  refine go (fun _ => XS.istoreN X180.here hx rfl (hb hby d13_5) rfl (l' := #[rv a, iv (1 : Int32), iv (0 : Int32), .unset]) rfl) ?_
  refine go (fun _ => XS.iloadN X180.here hx rfl (hb hby d13_6) rfl) ?_
  show Ends p e below _ T180 (mkF m 7 #[rv a, iv (1 : Int32), iv (0 : Int32), .unset] [(.int (0 : Int32))])
  refine go (fun _ => XS.ifNo X180.here hx rfl (hb hby d13_7) rfl (XT.i0_gt_f ((by decide) : ¬ ((0 : Int32) < (0 : Int32))))) ?_
  show Ends p e below _ T180 (mkF m 10 #[rv a, iv (1 : Int32), iv (0 : Int32), .unset] [])
  refine go (fun _ => XS.aloadN X180.here hx rfl (hb hby d13_10) rfl rfl) ?_
  show Ends p e below _ T180 (mkF m 11 #[rv a, iv (1 : Int32), iv (0 : Int32), .unset] [(.ref a)])
  obtain ⟨T183, X183, e183, s183⟩ := getF X180 hx hZ hown (host := "") (Or.inl (hwi hw 66 rfl)) Via.refl e180 F2 (g := (mkF m 11 #[rv a, iv (1 : Int32), iv (0 : Int32), .unset] [(.ref a)])) rfl rfl (hb hby d13_11)
  refine go s183 ?_
  show Ends p e below _ T183 (mkF m 14 #[rv a, iv (1 : Int32), iv (0 : Int32), .unset] [(.ref aD)])
  obtain ⟨T184, X184, e184, s184⟩ := getS2 X183 hx hZ hown (host := "") (Or.inl (hwi hw 65 rfl)) Via.refl e183 (Sta.ext O0 SD) (g := (mkF m 14 #[rv a, iv (1 : Int32), iv (0 : Int32), .unset] [(.ref aD)])) rfl (hb hby d13_14)
  refine go s184 ?_
  show Ends p e below _ T184 (mkF m 17 #[rv a, iv (1 : Int32), iv (0 : Int32), .unset] [(.ref aD), (.ref aD)])
  refine go (fun _ => XT.acmpYes X184.here hx rfl (pc0 := 17) (pc' := 45) rfl (hb hby d13_17) rfl rfl rfl (XT.aa_eq_t (rfl : ((.ref aD) : Value) = (.ref aD))) (by decide) (by decide)) ?_
  show Ends p e below _ T184 (mkF m 45 #[rv a, iv (1 : Int32), iv (0 : Int32), .unset] [])
  refine go (fun _ => XS.aloadN X184.here hx rfl (hb hby d13_45) rfl rfl) ?_
  refine go (fun _ => XT.bipushV X184.here hx rfl (10 : Int32) (hb hby d13_46) (by decide)) ?_
  refine go (fun _ => XS.iloadN X184.here hx rfl (hb hby d13_48) rfl) ?_
  show Ends p e below _ T184 (mkF m 49 #[rv a, iv (1 : Int32), iv (0 : Int32), .unset] [(.int (1 : Int32)), (.int (10 : Int32)), (.ref a)])
  refine cStat X184 hx hZ hown (by rw [hml]; rfl) e184 (hwi hw 92 rfl) (hwi hw 93 rfl) (hwi hw 94 rfl) (hwi hw 95 rfl) [(.int (10 : Int32)), (.int (1 : Int32))] [(.ref a)] rfl (rm_max101 hw _) (hb hby d13_49) rfl (lenOf pd_14 rfl) (by decide) (by decide) (Nat.le_of_ble_eq_true rfl) (by decide) (by decide) ?_
  rintro v185 T185 h185 L185 X185 e185 ⟨rfl, N185, rfl⟩
  have N185a := Fr.app (Fr.nil _) N185
  show Ends p e below _ T185 (mkF m 52 #[rv a, iv (1 : Int32), iv (0 : Int32), .unset] [(.int (10 : Int32)), (.ref a)])
  obtain ⟨T186, h186, k186, X186, e186, E186, A186, O186, s186⟩ := newR X185 hx hZ hown (hwi hw 96 rfl) (hwi hw 97 rfl) e185 (g := (mkF m 52 #[rv a, iv (1 : Int32), iv (0 : Int32), .unset] [(.int (10 : Int32)), (.ref a)])) rfl (hb hby d13_52) rfl (by decide) (cap := 10) (by decide) (by decide) (by decide) (by decide)
  obtain ⟨a186, g186⟩ : ∃ z : Addr, z = h0.size := ⟨_, rfl⟩
  have n187 : a ≠ a186 := fun q => absurd (E0.lt) (by rw [q, g186]; exact Nat.lt_irrefl _)
  have n188 : aD ≠ a186 := fun q => absurd (F181.lt) (by rw [q, g186]; exact Nat.lt_irrefl _)
  have f186 : Z.heap.size ≤ a186 := by rw [g186]; exact (O0).1
  have K189 : Keep h0 h0 [a] := (Keep.refl _ _)
  have b186 : h0.size ≤ a186 := by rw [g186]; exact (K189).1
  rw [← g186] at A186 s186
  have O190 : Ext Z.heap h186 := xx O0 E186
  have V186 : Arv Z h186 a186 k186 (.object "java/lang/Object") (10 : Int32) [.null, .null, .null, .null, .null, .null, .null, .null, .null, .null] .null := Arv.pad (Arv.new A186 (by decide)) (pad_rep [] _ 10)
  refine go s186 ?_
  show Ends p e below _ T186 (mkF m 55 #[rv a, iv (1 : Int32), iv (0 : Int32), .unset] [(.ref a186), (.ref a)])
  refine go (fun _ => XT.dupX1 X186.here hx rfl (hb hby d13_55) rfl rfl rfl) ?_
  show Ends p e below _ T186 (mkF m 56 #[rv a, iv (1 : Int32), iv (0 : Int32), .unset] [(.ref a186), (.ref a), (.ref a186)])
  have F191 := (Exa.ext E186 E0)
  have F192 := (Fld.ext E186 F2)
  obtain ⟨T193, h193, X193, e193, W193, s193⟩ := putF X186 hx hZ hown (host := "") (Or.inl (hwi hw 66 rfl)) Via.refl e186 F192 F191 (Or.inl (hwi hw 67 rfl)) (hwi hw 45 rfl) (ty := (.array (.object "java/lang/Object"))) (by decide) rfl rfl (g := (mkF m 56 #[rv a, iv (1 : Int32), iv (0 : Int32), .unset] [(.ref a186), (.ref a), (.ref a186)])) rfl rfl (hb hby d13_56)
  have N193 := Fr.snoc X193 N185a f0
  have O194 : Ext Z.heap h193 := xw O190 W193 f0
  refine go s193 ?_
  show Ends p e below _ T193 (mkF m 59 #[rv a, iv (1 : Int32), iv (0 : Int32), .unset] [(.ref a186)])
  have K195 : Keep h0 h193 [a] := (Keep.wr (Keep.ext K189 E186) W193 (Or.inl (List.mem_of_getElem? (i := 0) rfl)))
  have F196 := (Fld.other W193 (Fld.ext E186 F1) (Or.inr (slot_ne (a0 := a0) (Or.inl (hwi hw 64 rfl)) (Or.inl (hwi hw 67 rfl)) (by decide) (t := .int) (t' := (.array (.object "java/lang/Object"))) (by decide) (by decide))))
  have F197 := (Fld.same W193 F192)
  have F198 := (Fld.other W193 (Fld.ext E186 F3) (Or.inr (slot_ne (a0 := a0) (Or.inl (hwi hw 76 rfl)) (Or.inl (hwi hw 67 rfl)) (by decide) (t := .int) (t' := (.array (.object "java/lang/Object"))) (by decide) (by decide))))
  have F199 := (Arv.other V186 W193 (Ne.symm n187))
  exact endA X193 hx hret rfl rfl (hb hby d13_59) (lvN X193 hlk e193 (fun h => by rw [hret] at h; cases h) ⟨a186, _, rfl, N193, K195, b186, O186, F196, F197, F198, F199⟩ (by decide) (by decide))
set_option maxRecDepth 65536 in
set_option maxHeartbeats 40000000 in
theorem rm_grow0 {l : Launch} {Z : State} {a0 : Array Value} (hw : ∀ d ∈ tables_1, d.before a0 Z = true) (a : Addr) (mc : Int32) (aD : Addr) (kD : ClassId) (h0 : Heap) (O0 : Ext Z.heap h0) (f0 : Z.heap.size ≤ a) (E0 : Exa Z h0 a "java/util/ArrayList") (F1 : Fld Z h0 a "java/util/AbstractList" "modCount" "I" (.int mc)) (F2 : Fld Z h0 a "java/util/ArrayList" "elementData" "[Ljava/lang/Object;" (.ref aD)) (F3 : Fld Z h0 a "java/util/ArrayList" "size" "I" (.int 0)) (SD : Sta Z Z.heap "java/util/ArrayList" "DEFAULTCAPACITY_EMPTY_ELEMENTDATA" "[Ljava/lang/Object;" (.ref aD)) (VD : Arv Z Z.heap aD kD (.object "java/lang/Object") (0 : Int32) [] .null) :
    Con l (⟨"java/util/ArrayList", "grow", "()[Ljava/lang/Object;"⟩ : MethodName) jdk_38_method_7_code 1 (some (.array (.object "java/lang/Object"))) ({ frames := 2, cells := 1, slots := 10, locals := 29 } : Room) Z #[(.ref a)] h0 (fun v h L => ∃ (b : Addr) (k : ClassId), v = some (.ref b) ∧ Fr Z.heap.size L ∧ Keep h0 h [a] ∧ h0.size ≤ b ∧ Ovr Z k "java/lang/Object" ∧ Fld Z h a "java/util/AbstractList" "modCount" "I" (.int mc) ∧ Fld Z h a "java/util/ArrayList" "elementData" "[Ljava/lang/Object;" (.ref b) ∧ Fld Z h a "java/util/ArrayList" "size" "I" (.int 0) ∧ Arv Z h b k (.object "java/lang/Object") (10 : Int32) [.null, .null, .null, .null, .null, .null, .null, .null, .null, .null] .null) := by
  refine Con.of (plainFor_of_name pn_13) (Ls := #[rv a]) (fun m => efOf rfl) ?_
  intro p e s m below meth c T0 X0 hx hZ hby hml hown hnm hret hlk e0
  have nD : aD ≠ a := Nat.ne_of_lt (Nat.lt_of_lt_of_le VD.lt f0)
  refine go (fun _ => XS.aloadN X0.here hx rfl (hb hby d14_0) rfl rfl) ?_
  refine go (fun _ => XS.aloadN X0.here hx rfl (hb hby d14_1) rfl rfl) ?_
  show Ends p e below _ T0 (mkF m 2 #[rv a] [(.ref a), (.ref a)])
  obtain ⟨T200, X200, e200, s200⟩ := getF X0 hx hZ hown (host := "") (Or.inl (hwi hw 75 rfl)) Via.refl e0 F3 (g := (mkF m 2 #[rv a] [(.ref a), (.ref a)])) rfl rfl (hb hby d14_2)
  refine go s200 ?_
  show Ends p e below _ T200 (mkF m 5 #[rv a] [(.int (0 : Int32)), (.ref a)])
  refine go (fun _ => XT.iconstV X200.here hx rfl (1 : Int32) (hb hby d14_5) (by decide)) ?_
  refine go (fun _ => XS.iadd X200.here hx rfl (hb hby d14_6) rfl) ?_
  show Ends p e below _ T200 (mkF m 7 #[rv a] [(.int (1 : Int32)), (.ref a)])
  refine cPriv X200 hx hZ hown (by rw [hml]; rfl) e200 (hwi hw 87 rfl) (hwi hw 88 rfl) (hwi hw 89 rfl) (hwi hw 45 rfl) (hwi hw 46 rfl) (hwi hw 91 rfl) a E0 [(.int (1 : Int32))] [] rfl (rm_grow1 hw a mc aD kD _ O0 f0 E0 F1 F2 F3 SD VD) (hb hby d14_7) rfl (lenOf pd_15 rfl) (by decide) (by decide) (Nat.le_of_ble_eq_true rfl) (by decide) (by decide) ?_
  rintro v201 T201 h201 L201 X201 e201 ⟨b201, k201, rfl, N201, K201, g201, O201, F1201, F2201, F3201, V201⟩
  have N201a := Fr.app (Fr.nil _) N201
  have n202 : a ≠ b201 := Nat.ne_of_lt (Nat.lt_of_lt_of_le (E0.lt) g201)
  have F203 := (Arv.ext VD O0)
  have n204 : aD ≠ b201 := Nat.ne_of_lt (Nat.lt_of_lt_of_le (F203.lt) g201)
  have f205 : Z.heap.size ≤ b201 := Nat.le_trans (O0).1 g201
  have K206 : Keep h0 h0 [a] := (Keep.refl _ _)
  have b205 : h0.size ≤ b201 := Nat.le_trans (K206).1 g201
  have O207 : Ext Z.heap h201 := xk O0 K201 (allS f0 all0)
  show Ends p e below _ T201 (mkF m 10 #[rv a] [(.ref b201)])
  have K208 : Keep h0 h201 [a] := (Keep.trans K206 K201 (allS (Or.inl (List.mem_of_getElem? (i := 0) rfl)) all0))
  exact endA X201 hx hret rfl rfl (hb hby d14_10) (lvN X201 hlk e201 (fun h => by rw [hret] at h; cases h) ⟨b201, _, rfl, N201a, K208, b205, O201, F1201, F2201, F3201, V201⟩ (by decide) (by decide))
set_option maxRecDepth 65536 in
set_option maxHeartbeats 40000000 in
theorem rm_add3_0 {l : Launch} {Z : State} {a0 : Array Value} (hw : ∀ d ∈ tables_1, d.before a0 Z = true) (a x : Addr) (mc : Int32) (aD : Addr) (kD : ClassId) (h0 : Heap) (O0 : Ext Z.heap h0) (f0 : Z.heap.size ≤ a) (E0 : Exa Z h0 a "java/util/ArrayList") (F1 : Fld Z h0 a "java/util/AbstractList" "modCount" "I" (.int mc)) (F2 : Fld Z h0 a "java/util/ArrayList" "elementData" "[Ljava/lang/Object;" (.ref aD)) (F3 : Fld Z h0 a "java/util/ArrayList" "size" "I" (.int 0)) (SD : Sta Z Z.heap "java/util/ArrayList" "DEFAULTCAPACITY_EMPTY_ELEMENTDATA" "[Ljava/lang/Object;" (.ref aD)) (VD : Arv Z Z.heap aD kD (.object "java/lang/Object") (0 : Int32) [] .null) (Ex : Exa Z h0 x "java/lang/String") (nax : a ≠ x) :
    Con l (⟨"java/util/ArrayList", "add", "(Ljava/lang/Object;[Ljava/lang/Object;I)V"⟩ : MethodName) jdk_38_method_24_code 4 none ({ frames := 3, cells := 1, slots := 10, locals := 41 } : Room) Z #[(.ref a), (.ref x), (.ref aD), (.int (0 : Int32))] h0 (fun v h L => ∃ (b : Addr) (k : ClassId), v = none ∧ Fr Z.heap.size L ∧ Keep h0 h [a] ∧ h0.size ≤ b ∧ Ovr Z k "java/lang/Object" ∧ Fld Z h a "java/util/AbstractList" "modCount" "I" (.int mc) ∧ Fld Z h a "java/util/ArrayList" "elementData" "[Ljava/lang/Object;" (.ref b) ∧ Fld Z h a "java/util/ArrayList" "size" "I" (.int 1) ∧ Arv Z h b k (.object "java/lang/Object") (10 : Int32) [(.ref x), .null, .null, .null, .null, .null, .null, .null, .null, .null] .null) := by
  refine Con.of (plainFor_of_name pn_13) (Ls := #[rv a, rv x, rv aD, iv (0 : Int32)]) (fun m => efOf rfl) ?_
  intro p e s m below meth c T0 X0 hx hZ hby hml hown hnm hret hlk e0
  have nD : aD ≠ a := Nat.ne_of_lt (Nat.lt_of_lt_of_le VD.lt f0)
  refine go (fun _ => XS.iloadN X0.here hx rfl (hb hby d15_0) rfl) ?_
  refine go (fun _ => XS.aloadN X0.here hx rfl (hb hby d15_1) rfl rfl) ?_
  show Ends p e below _ T0 (mkF m 2 #[rv a, rv x, rv aD, iv (0 : Int32)] [(.ref aD), (.int (0 : Int32))])
  have F209 := (Arv.ext VD O0)
  obtain ⟨cl210, A210, -, S210, M210, -⟩ := id F209
  refine go (fun _ => X0.arraylength hx (cell := cl210) (by rw [e0]; exact A210.1) (State.isArrayOf_alike hZ.alike A210.2.1) (g := (mkF m 2 #[rv a, rv x, rv aD, iv (0 : Int32)] [(.ref aD), (.int (0 : Int32))])) rfl rfl (hb hby d15_2) _) ?_
  rw [len_of S210 M210]
  show Ends p e below _ T0 (mkF m 3 #[rv a, rv x, rv aD, iv (0 : Int32)] [(.int (0 : Int32)), (.int (0 : Int32))])
  refine go (fun _ => XS.icmpNo X0.here hx rfl (hb hby d15_3) rfl (XT.ii_ne_f ((by decide) : (0 : Int32) = (0 : Int32)))) ?_
  show Ends p e below _ T0 (mkF m 6 #[rv a, rv x, rv aD, iv (0 : Int32)] [])
  refine go (fun _ => XS.aloadN X0.here hx rfl (hb hby d15_6) rfl rfl) ?_
  show Ends p e below _ T0 (mkF m 7 #[rv a, rv x, rv aD, iv (0 : Int32)] [(.ref a)])
  refine cPriv X0 hx hZ hown (by rw [hml]; rfl) e0 (hwi hw 82 rfl) (hwi hw 83 rfl) (hwi hw 84 rfl) (hwi hw 45 rfl) (hwi hw 46 rfl) (hwi hw 86 rfl) a E0 [] [] rfl (rm_grow0 hw a mc aD kD _ O0 f0 E0 F1 F2 F3 SD VD) (hb hby d15_7) rfl (lenOf pd_16 rfl) (by decide) (by decide) (Nat.le_of_ble_eq_true rfl) (by decide) (by decide) ?_
  rintro v211 T211 h211 L211 X211 e211 ⟨b211, k211, rfl, N211, K211, g211, O211, F1211, F2211, F3211, V211⟩
  have N211a := Fr.app (Fr.nil _) N211
  have n212 : a ≠ b211 := Nat.ne_of_lt (Nat.lt_of_lt_of_le (E0.lt) g211)
  have n213 : aD ≠ b211 := Nat.ne_of_lt (Nat.lt_of_lt_of_le (F209.lt) g211)
  have n214 : x ≠ b211 := Nat.ne_of_lt (Nat.lt_of_lt_of_le (Ex.lt) g211)
  have f215 : Z.heap.size ≤ b211 := Nat.le_trans (O0).1 g211
  have K216 : Keep h0 h0 [a] := (Keep.refl _ _)
  have b215 : h0.size ≤ b211 := Nat.le_trans (K216).1 g211
  have O217 : Ext Z.heap h211 := xk O0 K211 (allS f0 all0)
  show Ends p e below _ T211 (mkF m 10 #[rv a, rv x, rv aD, iv (0 : Int32)] [(.ref b211)])
  refine go (fun _ => XS.astoreN X211.here hx rfl (hb hby d15_10) rfl rfl (l' := #[rv a, rv x, rv b211, iv (0 : Int32)]) rfl) ?_
  refine go (fun _ => XS.aloadN X211.here hx rfl (hb hby d15_11) rfl rfl) ?_
  refine go (fun _ => XS.iloadN X211.here hx rfl (hb hby d15_12) rfl) ?_
  refine go (fun _ => XS.aloadN X211.here hx rfl (hb hby d15_13) rfl rfl) ?_
  show Ends p e below _ T211 (mkF m 14 #[rv a, rv x, rv b211, iv (0 : Int32)] [(.ref x), (.int (0 : Int32)), (.ref b211)])
  obtain ⟨cl218, A218, q218, S218, M218, H218, G218⟩ := id V211
  have F219 := (Exa.keep Ex K211)
  obtain ⟨T218, h218, X218, e218, W218, s218⟩ := stR X211 hx hZ e211 A218 (j := (0 : Int32)) (inb_of S218 (by decide)) rfl (Sto.ofV A218 q218 O211 (Ins.of_exa F219 (hwi hw 98 rfl))) (g := (mkF m 14 #[rv a, rv x, rv b211, iv (0 : Int32)] [(.ref x), (.int (0 : Int32)), (.ref b211)])) rfl rfl (hb hby d15_14)
  have N218 := Fr.snoc X218 N211a f215
  have O220 : Ext Z.heap h218 := xw O217 W218 f215
  have V218 : Arv Z h218 b211 k211 (.object "java/lang/Object") (10 : Int32) [(.ref x), .null, .null, .null, .null, .null, .null, .null, .null, .null] .null := Arv.set A218 q218 S218 M218 H218 G218 rfl W218 0 (by decide) (Nat.le_of_ble_eq_true rfl)
  refine go s218 ?_
  show Ends p e below _ T218 (mkF m 15 #[rv a, rv x, rv b211, iv (0 : Int32)] [])
  refine go (fun _ => XS.aloadN X218.here hx rfl (hb hby d15_15) rfl rfl) ?_
  refine go (fun _ => XS.iloadN X218.here hx rfl (hb hby d15_16) rfl) ?_
  refine go (fun _ => XT.iconstV X218.here hx rfl (1 : Int32) (hb hby d15_17) (by decide)) ?_
  refine go (fun _ => XS.iadd X218.here hx rfl (hb hby d15_18) rfl) ?_
  show Ends p e below _ T218 (mkF m 19 #[rv a, rv x, rv b211, iv (0 : Int32)] [(.int (1 : Int32)), (.ref a)])
  have F221 := (Exa.wr W218 (Exa.keep E0 K211))
  have F222 := (Fld.other W218 F3211 (Or.inl n212))
  obtain ⟨T223, h223, X223, e223, W223, s223⟩ := putF X218 hx hZ hown (host := "") (Or.inl (hwi hw 75 rfl)) Via.refl e218 F222 F221 (Or.inl (hwi hw 76 rfl)) (hwi hw 45 rfl) (ty := .int) (by decide) rfl rfl (g := (mkF m 19 #[rv a, rv x, rv b211, iv (0 : Int32)] [(.int (1 : Int32)), (.ref a)])) rfl rfl (hb hby d15_19)
  have N223 := Fr.snoc X223 N218 f0
  have O224 : Ext Z.heap h223 := xw O220 W223 f0
  refine go s223 ?_
  show Ends p e below _ T223 (mkF m 22 #[rv a, rv x, rv b211, iv (0 : Int32)] [])
  have K225 : Keep h0 h223 [a] := (Keep.wr (Keep.wr (Keep.trans K216 K211 (allS (Or.inl (List.mem_of_getElem? (i := 0) rfl)) all0)) W218 (Or.inr b215)) W223 (Or.inl (List.mem_of_getElem? (i := 0) rfl)))
  have F226 := (Fld.other W223 (Fld.other W218 F1211 (Or.inl n212)) (Or.inr (slot_ne (a0 := a0) (Or.inl (hwi hw 64 rfl)) (Or.inl (hwi hw 76 rfl)) (by decide) (t := .int) (t' := .int) (by decide) (by decide))))
  have F227 := (Fld.other W223 (Fld.other W218 F2211 (Or.inl n212)) (Or.inr (slot_ne (a0 := a0) (Or.inl (hwi hw 67 rfl)) (Or.inl (hwi hw 76 rfl)) (by decide) (t := (.array (.object "java/lang/Object"))) (t' := .int) (by decide) (by decide))))
  have F228 := (Fld.same W223 F222)
  have F229 := (Arv.other V218 W223 (Ne.symm n212))
  exact endV X223 hx hret (hb hby d15_22) (lvN X223 hlk e223 (fun _ => rfl) ⟨b211, _, rfl, N223, K225, b215, O211, F226, F227, F228, F229⟩ (by decide) (by decide))
set_option maxRecDepth 65536 in
set_option maxHeartbeats 40000000 in
theorem rm_add_0 {l : Launch} {Z : State} {a0 : Array Value} (hw : ∀ d ∈ tables_1, d.before a0 Z = true) (a x : Addr) (mc : Int32) (aD : Addr) (kD : ClassId) (h0 : Heap) (O0 : Ext Z.heap h0) (f0 : Z.heap.size ≤ a) (E0 : Exa Z h0 a "java/util/ArrayList") (F1 : Fld Z h0 a "java/util/AbstractList" "modCount" "I" (.int mc)) (F2 : Fld Z h0 a "java/util/ArrayList" "elementData" "[Ljava/lang/Object;" (.ref aD)) (F3 : Fld Z h0 a "java/util/ArrayList" "size" "I" (.int 0)) (SD : Sta Z Z.heap "java/util/ArrayList" "DEFAULTCAPACITY_EMPTY_ELEMENTDATA" "[Ljava/lang/Object;" (.ref aD)) (VD : Arv Z Z.heap aD kD (.object "java/lang/Object") (0 : Int32) [] .null) (Ex : Exa Z h0 x "java/lang/String") (nax : a ≠ x) :
    Con l (⟨"java/util/ArrayList", "add", "(Ljava/lang/Object;)Z"⟩ : MethodName) jdk_38_method_25_code 2 (some .boolean) ({ frames := 4, cells := 1, slots := 10, locals := 56 } : Room) Z #[(.ref a), (.ref x)] h0 (fun v h L => ∃ (b : Addr) (k : ClassId), v = some (.int 1) ∧ Fr Z.heap.size L ∧ Keep h0 h [a] ∧ h0.size ≤ b ∧ Ovr Z k "java/lang/Object" ∧ Fld Z h a "java/util/AbstractList" "modCount" "I" (.int (mc + (1 : Int32))) ∧ Fld Z h a "java/util/ArrayList" "elementData" "[Ljava/lang/Object;" (.ref b) ∧ Fld Z h a "java/util/ArrayList" "size" "I" (.int 1) ∧ Arv Z h b k (.object "java/lang/Object") (10 : Int32) [(.ref x), .null, .null, .null, .null, .null, .null, .null, .null, .null] .null) := by
  refine Con.of (plainFor_of_name pn_13) (Ls := #[rv a, rv x]) (fun m => efOf rfl) ?_
  intro p e s m below meth c T0 X0 hx hZ hby hml hown hnm hret hlk e0
  have nD : aD ≠ a := Nat.ne_of_lt (Nat.lt_of_lt_of_le VD.lt f0)
  refine go (fun _ => XS.aloadN X0.here hx rfl (hb hby d16_0) rfl rfl) ?_
  refine go (fun _ => XS.dup X0.here hx rfl (hb hby d16_1) rfl rfl) ?_
  show Ends p e below _ T0 (mkF m 2 #[rv a, rv x] [(.ref a), (.ref a)])
  obtain ⟨T230, X230, e230, s230⟩ := getF X0 hx hZ hown (host := "") (Or.inl (hwi hw 73 rfl)) (Via.of (hwi hw 74 rfl)) e0 F1 (g := (mkF m 2 #[rv a, rv x] [(.ref a), (.ref a)])) rfl rfl (hb hby d16_2)
  refine go s230 ?_
  show Ends p e below _ T230 (mkF m 5 #[rv a, rv x] [(.int mc), (.ref a)])
  refine go (fun _ => XT.iconstV X230.here hx rfl (1 : Int32) (hb hby d16_5) (by decide)) ?_
  refine go (fun _ => XS.iadd X230.here hx rfl (hb hby d16_6) rfl) ?_
  show Ends p e below _ T230 (mkF m 7 #[rv a, rv x] [(.int (mc + (1 : Int32))), (.ref a)])
  obtain ⟨T231, h231, X231, e231, W231, s231⟩ := putF X230 hx hZ hown (host := "") (Or.inl (hwi hw 73 rfl)) (Via.of (hwi hw 74 rfl)) e230 F1 E0 (Or.inl (hwi hw 64 rfl)) (hwi hw 45 rfl) (ty := .int) (by decide) rfl rfl (g := (mkF m 7 #[rv a, rv x] [(.int (mc + (1 : Int32))), (.ref a)])) rfl rfl (hb hby d16_7)
  have N231 := Fr.snoc X231 (Fr.nil _) f0
  have O232 : Ext Z.heap h231 := xw O0 W231 f0
  refine go s231 ?_
  show Ends p e below _ T231 (mkF m 10 #[rv a, rv x] [])
  refine go (fun _ => XS.aloadN X231.here hx rfl (hb hby d16_10) rfl rfl) ?_
  refine go (fun _ => XS.aloadN X231.here hx rfl (hb hby d16_11) rfl rfl) ?_
  refine go (fun _ => XS.aloadN X231.here hx rfl (hb hby d16_12) rfl rfl) ?_
  show Ends p e below _ T231 (mkF m 13 #[rv a, rv x] [(.ref a), (.ref x), (.ref a)])
  have F233 := (Fld.other W231 F2 (Or.inr (slot_ne (a0 := a0) (Or.inl (hwi hw 67 rfl)) (Or.inl (hwi hw 64 rfl)) (by decide) (t := (.array (.object "java/lang/Object"))) (t' := .int) (by decide) (by decide))))
  obtain ⟨T234, X234, e234, s234⟩ := getF X231 hx hZ hown (host := "") (Or.inl (hwi hw 66 rfl)) Via.refl e231 F233 (g := (mkF m 13 #[rv a, rv x] [(.ref a), (.ref x), (.ref a)])) rfl rfl (hb hby d16_13)
  refine go s234 ?_
  show Ends p e below _ T234 (mkF m 16 #[rv a, rv x] [(.ref aD), (.ref x), (.ref a)])
  refine go (fun _ => XS.aloadN X234.here hx rfl (hb hby d16_16) rfl rfl) ?_
  show Ends p e below _ T234 (mkF m 17 #[rv a, rv x] [(.ref a), (.ref aD), (.ref x), (.ref a)])
  have F235 := (Fld.other W231 F3 (Or.inr (slot_ne (a0 := a0) (Or.inl (hwi hw 76 rfl)) (Or.inl (hwi hw 64 rfl)) (by decide) (t := .int) (t' := .int) (by decide) (by decide))))
  obtain ⟨T236, X236, e236, s236⟩ := getF X234 hx hZ hown (host := "") (Or.inl (hwi hw 75 rfl)) Via.refl e234 F235 (g := (mkF m 17 #[rv a, rv x] [(.ref a), (.ref aD), (.ref x), (.ref a)])) rfl rfl (hb hby d16_17)
  refine go s236 ?_
  show Ends p e below _ T236 (mkF m 20 #[rv a, rv x] [(.int (0 : Int32)), (.ref aD), (.ref x), (.ref a)])
  have F237 := (Exa.wr W231 E0)
  have F238 := (Fld.same W231 F1)
  have F239 := (Exa.wr W231 Ex)
  refine cPriv X236 hx hZ hown (by rw [hml]; rfl) e236 (hwi hw 77 rfl) (hwi hw 78 rfl) (hwi hw 79 rfl) (hwi hw 45 rfl) (hwi hw 46 rfl) (hwi hw 81 rfl) a F237 [(.ref x), (.ref aD), (.int (0 : Int32))] [] rfl (rm_add3_0 hw a x (mc + (1 : Int32)) aD kD _ O232 f0 F237 F238 F233 F235 SD VD F239 nax) (hb hby d16_20) rfl (lenOf pd_17 rfl) (by decide) (by decide) (Nat.le_of_ble_eq_true rfl) (by decide) (by decide) ?_
  rintro v240 T240 h240 L240 X240 e240 ⟨b240, k240, rfl, N240, K240, g240, O240, F1240, F2240, F3240, V240⟩
  have N240a := Fr.app N231 N240
  have n241 : a ≠ b240 := Nat.ne_of_lt (Nat.lt_of_lt_of_le (F237.lt) g240)
  have F242 := (Arv.other (Arv.ext VD O0) W231 nD)
  have n243 : aD ≠ b240 := Nat.ne_of_lt (Nat.lt_of_lt_of_le (F242.lt) g240)
  have n244 : x ≠ b240 := Nat.ne_of_lt (Nat.lt_of_lt_of_le (F239.lt) g240)
  have f245 : Z.heap.size ≤ b240 := Nat.le_trans (O232).1 g240
  have K246 : Keep h0 h231 [a] := (Keep.wr (Keep.refl _ _) W231 (Or.inl (List.mem_of_getElem? (i := 0) rfl)))
  have b245 : h0.size ≤ b240 := Nat.le_trans (K246).1 g240
  have O247 : Ext Z.heap h240 := xk O232 K240 (allS f0 all0)
  show Ends p e below _ T240 (mkF m 23 #[rv a, rv x] [])
  refine go (fun _ => XT.iconstV X240.here hx rfl (1 : Int32) (hb hby d16_23) (by decide)) ?_
  show Ends p e below _ T240 (mkF m 24 #[rv a, rv x] [(.int (1 : Int32))])
  have K248 : Keep h0 h240 [a] := (Keep.trans K246 K240 (allS (Or.inl (List.mem_of_getElem? (i := 0) rfl)) all0))
  exact endN X240 hx hret (by simp) (hb hby d16_24) (lvN X240 hlk e240 (fun h => by rw [hret] at h; cases h) ⟨b240, _, by simp [nar], N240a, K248, b245, O240, F1240, F2240, F3240, V240⟩ (by decide) (by decide))
set_option maxRecDepth 65536 in
set_option maxHeartbeats 40000000 in
theorem rm_add3_1 {l : Launch} {Z : State} {a0 : Array Value} (hw : ∀ d ∈ tables_1, d.before a0 Z = true) (a x b : Addr) (k : ClassId) (mc : Int32) (x0 : Addr) (h0 : Heap) (O0 : Ext Z.heap h0) (f0 : Z.heap.size ≤ a) (E0 : Exa Z h0 a "java/util/ArrayList") (F1 : Fld Z h0 a "java/util/AbstractList" "modCount" "I" (.int mc)) (F2 : Fld Z h0 a "java/util/ArrayList" "elementData" "[Ljava/lang/Object;" (.ref b)) (F3 : Fld Z h0 a "java/util/ArrayList" "size" "I" (.int 1)) (fb : Z.heap.size ≤ b) (nab : a ≠ b) (Ok : Ovr Z k "java/lang/Object") (Vb : Arv Z h0 b k (.object "java/lang/Object") (10 : Int32) [(.ref x0), .null, .null, .null, .null, .null, .null, .null, .null, .null] .null) (Ex : Exa Z h0 x "java/lang/String") (nax : a ≠ x) (nbx : b ≠ x) :
    Con l (⟨"java/util/ArrayList", "add", "(Ljava/lang/Object;[Ljava/lang/Object;I)V"⟩ : MethodName) jdk_38_method_24_code 4 none ({ frames := 0, cells := 0, slots := 0, locals := 0 } : Room) Z #[(.ref a), (.ref x), (.ref b), (.int (1 : Int32))] h0 (fun v h L => v = none ∧ Fr Z.heap.size L ∧ Keep h0 h [a, b] ∧ Fld Z h a "java/util/AbstractList" "modCount" "I" (.int mc) ∧ Fld Z h a "java/util/ArrayList" "elementData" "[Ljava/lang/Object;" (.ref b) ∧ Fld Z h a "java/util/ArrayList" "size" "I" (.int 2) ∧ Arv Z h b k (.object "java/lang/Object") (10 : Int32) [(.ref x0), (.ref x), .null, .null, .null, .null, .null, .null, .null, .null] .null) := by
  refine Con.of (plainFor_of_name pn_13) (Ls := #[rv a, rv x, rv b, iv (1 : Int32)]) (fun m => efOf rfl) ?_
  intro p e s m below meth c T0 X0 hx hZ hby hml hown hnm hret hlk e0
  refine go (fun _ => XS.iloadN X0.here hx rfl (hb hby d15_0) rfl) ?_
  refine go (fun _ => XS.aloadN X0.here hx rfl (hb hby d15_1) rfl rfl) ?_
  show Ends p e below _ T0 (mkF m 2 #[rv a, rv x, rv b, iv (1 : Int32)] [(.ref b), (.int (1 : Int32))])
  obtain ⟨cl249, A249, -, S249, M249, -⟩ := id Vb
  refine go (fun _ => X0.arraylength hx (cell := cl249) (by rw [e0]; exact A249.1) (State.isArrayOf_alike hZ.alike A249.2.1) (g := (mkF m 2 #[rv a, rv x, rv b, iv (1 : Int32)] [(.ref b), (.int (1 : Int32))])) rfl rfl (hb hby d15_2) _) ?_
  rw [len_of S249 M249]
  show Ends p e below _ T0 (mkF m 3 #[rv a, rv x, rv b, iv (1 : Int32)] [(.int (10 : Int32)), (.int (1 : Int32))])
  refine go (fun _ => XS.icmpYes X0.here hx rfl (pc0 := 3) (pc' := 11) rfl (hb hby d15_3) rfl (XT.ii_ne_t ((by decide) : ¬ ((1 : Int32) = (10 : Int32)))) (by decide) (by decide)) ?_
  show Ends p e below _ T0 (mkF m 11 #[rv a, rv x, rv b, iv (1 : Int32)] [])
  refine go (fun _ => XS.aloadN X0.here hx rfl (hb hby d15_11) rfl rfl) ?_
  refine go (fun _ => XS.iloadN X0.here hx rfl (hb hby d15_12) rfl) ?_
  refine go (fun _ => XS.aloadN X0.here hx rfl (hb hby d15_13) rfl rfl) ?_
  show Ends p e below _ T0 (mkF m 14 #[rv a, rv x, rv b, iv (1 : Int32)] [(.ref x), (.int (1 : Int32)), (.ref b)])
  obtain ⟨cl250, A250, q250, S250, M250, H250, G250⟩ := id Vb
  obtain ⟨T250, h250, X250, e250, W250, s250⟩ := stR X0 hx hZ e0 A250 (j := (1 : Int32)) (inb_of S250 (by decide)) rfl (Sto.ofV A250 q250 Ok (Ins.of_exa Ex (hwi hw 98 rfl))) (g := (mkF m 14 #[rv a, rv x, rv b, iv (1 : Int32)] [(.ref x), (.int (1 : Int32)), (.ref b)])) rfl rfl (hb hby d15_14)
  have N250 := Fr.snoc X250 (Fr.nil _) fb
  have O251 : Ext Z.heap h250 := xw O0 W250 fb
  have V250 : Arv Z h250 b k (.object "java/lang/Object") (10 : Int32) [(.ref x0), (.ref x), .null, .null, .null, .null, .null, .null, .null, .null] .null := Arv.set A250 q250 S250 M250 H250 G250 rfl W250 1 (by decide) (Nat.le_of_ble_eq_true rfl)
  refine go s250 ?_
  show Ends p e below _ T250 (mkF m 15 #[rv a, rv x, rv b, iv (1 : Int32)] [])
  refine go (fun _ => XS.aloadN X250.here hx rfl (hb hby d15_15) rfl rfl) ?_
  refine go (fun _ => XS.iloadN X250.here hx rfl (hb hby d15_16) rfl) ?_
  refine go (fun _ => XT.iconstV X250.here hx rfl (1 : Int32) (hb hby d15_17) (by decide)) ?_
  refine go (fun _ => XS.iadd X250.here hx rfl (hb hby d15_18) rfl) ?_
  show Ends p e below _ T250 (mkF m 19 #[rv a, rv x, rv b, iv (1 : Int32)] [(.int (2 : Int32)), (.ref a)])
  have F252 := (Exa.wr W250 E0)
  have F253 := (Fld.other W250 F3 (Or.inl nab))
  obtain ⟨T254, h254, X254, e254, W254, s254⟩ := putF X250 hx hZ hown (host := "") (Or.inl (hwi hw 75 rfl)) Via.refl e250 F253 F252 (Or.inl (hwi hw 76 rfl)) (hwi hw 45 rfl) (ty := .int) (by decide) rfl rfl (g := (mkF m 19 #[rv a, rv x, rv b, iv (1 : Int32)] [(.int (2 : Int32)), (.ref a)])) rfl rfl (hb hby d15_19)
  have N254 := Fr.snoc X254 N250 f0
  have O255 : Ext Z.heap h254 := xw O251 W254 f0
  refine go s254 ?_
  show Ends p e below _ T254 (mkF m 22 #[rv a, rv x, rv b, iv (1 : Int32)] [])
  have K256 : Keep h0 h254 [a, b] := (Keep.wr (Keep.wr (Keep.refl _ _) W250 (Or.inl (List.mem_of_getElem? (i := 1) rfl))) W254 (Or.inl (List.mem_of_getElem? (i := 0) rfl)))
  have F257 := (Fld.other W254 (Fld.other W250 F1 (Or.inl nab)) (Or.inr (slot_ne (a0 := a0) (Or.inl (hwi hw 64 rfl)) (Or.inl (hwi hw 76 rfl)) (by decide) (t := .int) (t' := .int) (by decide) (by decide))))
  have F258 := (Fld.other W254 (Fld.other W250 F2 (Or.inl nab)) (Or.inr (slot_ne (a0 := a0) (Or.inl (hwi hw 67 rfl)) (Or.inl (hwi hw 76 rfl)) (by decide) (t := (.array (.object "java/lang/Object"))) (t' := .int) (by decide) (by decide))))
  have F259 := (Fld.same W254 F253)
  have F260 := (Arv.other V250 W254 (Ne.symm nab))
  exact endV X254 hx hret (hb hby d15_22) (lvN X254 hlk e254 (fun _ => rfl) ⟨rfl, N254, K256, F257, F258, F259, F260⟩ (by decide) (by decide))
set_option maxRecDepth 65536 in
set_option maxHeartbeats 40000000 in
theorem rm_add_1 {l : Launch} {Z : State} {a0 : Array Value} (hw : ∀ d ∈ tables_1, d.before a0 Z = true) (a x b : Addr) (k : ClassId) (mc : Int32) (x0 : Addr) (h0 : Heap) (O0 : Ext Z.heap h0) (f0 : Z.heap.size ≤ a) (E0 : Exa Z h0 a "java/util/ArrayList") (F1 : Fld Z h0 a "java/util/AbstractList" "modCount" "I" (.int mc)) (F2 : Fld Z h0 a "java/util/ArrayList" "elementData" "[Ljava/lang/Object;" (.ref b)) (F3 : Fld Z h0 a "java/util/ArrayList" "size" "I" (.int 1)) (fb : Z.heap.size ≤ b) (nab : a ≠ b) (Ok : Ovr Z k "java/lang/Object") (Vb : Arv Z h0 b k (.object "java/lang/Object") (10 : Int32) [(.ref x0), .null, .null, .null, .null, .null, .null, .null, .null, .null] .null) (Ex : Exa Z h0 x "java/lang/String") (nax : a ≠ x) (nbx : b ≠ x) :
    Con l (⟨"java/util/ArrayList", "add", "(Ljava/lang/Object;)Z"⟩ : MethodName) jdk_38_method_25_code 2 (some .boolean) ({ frames := 1, cells := 0, slots := 0, locals := 15 } : Room) Z #[(.ref a), (.ref x)] h0 (fun v h L => v = some (.int 1) ∧ Fr Z.heap.size L ∧ Keep h0 h [a, b] ∧ Fld Z h a "java/util/AbstractList" "modCount" "I" (.int (mc + (1 : Int32))) ∧ Fld Z h a "java/util/ArrayList" "elementData" "[Ljava/lang/Object;" (.ref b) ∧ Fld Z h a "java/util/ArrayList" "size" "I" (.int 2) ∧ Arv Z h b k (.object "java/lang/Object") (10 : Int32) [(.ref x0), (.ref x), .null, .null, .null, .null, .null, .null, .null, .null] .null) := by
  refine Con.of (plainFor_of_name pn_13) (Ls := #[rv a, rv x]) (fun m => efOf rfl) ?_
  intro p e s m below meth c T0 X0 hx hZ hby hml hown hnm hret hlk e0
  refine go (fun _ => XS.aloadN X0.here hx rfl (hb hby d16_0) rfl rfl) ?_
  refine go (fun _ => XS.dup X0.here hx rfl (hb hby d16_1) rfl rfl) ?_
  show Ends p e below _ T0 (mkF m 2 #[rv a, rv x] [(.ref a), (.ref a)])
  obtain ⟨T261, X261, e261, s261⟩ := getF X0 hx hZ hown (host := "") (Or.inl (hwi hw 73 rfl)) (Via.of (hwi hw 74 rfl)) e0 F1 (g := (mkF m 2 #[rv a, rv x] [(.ref a), (.ref a)])) rfl rfl (hb hby d16_2)
  refine go s261 ?_
  show Ends p e below _ T261 (mkF m 5 #[rv a, rv x] [(.int mc), (.ref a)])
  refine go (fun _ => XT.iconstV X261.here hx rfl (1 : Int32) (hb hby d16_5) (by decide)) ?_
  refine go (fun _ => XS.iadd X261.here hx rfl (hb hby d16_6) rfl) ?_
  show Ends p e below _ T261 (mkF m 7 #[rv a, rv x] [(.int (mc + (1 : Int32))), (.ref a)])
  obtain ⟨T262, h262, X262, e262, W262, s262⟩ := putF X261 hx hZ hown (host := "") (Or.inl (hwi hw 73 rfl)) (Via.of (hwi hw 74 rfl)) e261 F1 E0 (Or.inl (hwi hw 64 rfl)) (hwi hw 45 rfl) (ty := .int) (by decide) rfl rfl (g := (mkF m 7 #[rv a, rv x] [(.int (mc + (1 : Int32))), (.ref a)])) rfl rfl (hb hby d16_7)
  have N262 := Fr.snoc X262 (Fr.nil _) f0
  have O263 : Ext Z.heap h262 := xw O0 W262 f0
  refine go s262 ?_
  show Ends p e below _ T262 (mkF m 10 #[rv a, rv x] [])
  refine go (fun _ => XS.aloadN X262.here hx rfl (hb hby d16_10) rfl rfl) ?_
  refine go (fun _ => XS.aloadN X262.here hx rfl (hb hby d16_11) rfl rfl) ?_
  refine go (fun _ => XS.aloadN X262.here hx rfl (hb hby d16_12) rfl rfl) ?_
  show Ends p e below _ T262 (mkF m 13 #[rv a, rv x] [(.ref a), (.ref x), (.ref a)])
  have F264 := (Fld.other W262 F2 (Or.inr (slot_ne (a0 := a0) (Or.inl (hwi hw 67 rfl)) (Or.inl (hwi hw 64 rfl)) (by decide) (t := (.array (.object "java/lang/Object"))) (t' := .int) (by decide) (by decide))))
  obtain ⟨T265, X265, e265, s265⟩ := getF X262 hx hZ hown (host := "") (Or.inl (hwi hw 66 rfl)) Via.refl e262 F264 (g := (mkF m 13 #[rv a, rv x] [(.ref a), (.ref x), (.ref a)])) rfl rfl (hb hby d16_13)
  refine go s265 ?_
  show Ends p e below _ T265 (mkF m 16 #[rv a, rv x] [(.ref b), (.ref x), (.ref a)])
  refine go (fun _ => XS.aloadN X265.here hx rfl (hb hby d16_16) rfl rfl) ?_
  show Ends p e below _ T265 (mkF m 17 #[rv a, rv x] [(.ref a), (.ref b), (.ref x), (.ref a)])
  have F266 := (Fld.other W262 F3 (Or.inr (slot_ne (a0 := a0) (Or.inl (hwi hw 76 rfl)) (Or.inl (hwi hw 64 rfl)) (by decide) (t := .int) (t' := .int) (by decide) (by decide))))
  obtain ⟨T267, X267, e267, s267⟩ := getF X265 hx hZ hown (host := "") (Or.inl (hwi hw 75 rfl)) Via.refl e265 F266 (g := (mkF m 17 #[rv a, rv x] [(.ref a), (.ref b), (.ref x), (.ref a)])) rfl rfl (hb hby d16_17)
  refine go s267 ?_
  show Ends p e below _ T267 (mkF m 20 #[rv a, rv x] [(.int (1 : Int32)), (.ref b), (.ref x), (.ref a)])
  have F268 := (Exa.wr W262 E0)
  have F269 := (Fld.same W262 F1)
  have F270 := (Exa.wr W262 Ex)
  have F271 := (Arv.other Vb W262 (Ne.symm nab))
  refine cPriv X267 hx hZ hown (by rw [hml]; rfl) e267 (hwi hw 77 rfl) (hwi hw 78 rfl) (hwi hw 79 rfl) (hwi hw 45 rfl) (hwi hw 46 rfl) (hwi hw 81 rfl) a F268 [(.ref x), (.ref b), (.int (1 : Int32))] [] rfl (rm_add3_1 hw a x b k (mc + (1 : Int32)) x0 _ O263 f0 F268 F269 F264 F266 fb nab Ok F271 F270 nax nbx) (hb hby d16_20) rfl (lenOf pd_17 rfl) (by decide) (by decide) (Nat.le_of_ble_eq_true rfl) (by decide) (by decide) ?_
  rintro v272 T272 h272 L272 X272 e272 ⟨rfl, N272, K272, F1272, F2272, F3272, V272⟩
  have N272a := Fr.app N262 N272
  have O273 : Ext Z.heap h272 := xk O263 K272 (allS f0 (allS fb all0))
  show Ends p e below _ T272 (mkF m 23 #[rv a, rv x] [])
  refine go (fun _ => XT.iconstV X272.here hx rfl (1 : Int32) (hb hby d16_23) (by decide)) ?_
  show Ends p e below _ T272 (mkF m 24 #[rv a, rv x] [(.int (1 : Int32))])
  have K274 : Keep h0 h272 [a, b] := (Keep.trans (Keep.wr (Keep.refl _ _) W262 (Or.inl (List.mem_of_getElem? (i := 0) rfl))) K272 (allS (Or.inl (List.mem_of_getElem? (i := 0) rfl)) (allS (Or.inl (List.mem_of_getElem? (i := 1) rfl)) all0)))
  exact endN X272 hx hret (by simp) (hb hby d16_24) (lvN X272 hlk e272 (fun h => by rw [hret] at h; cases h) ⟨by simp [nar], N272a, K274, F1272, F2272, F3272, V272⟩ (by decide) (by decide))
set_option maxRecDepth 65536 in
set_option maxHeartbeats 40000000 in
theorem rm_add3_2 {l : Launch} {Z : State} {a0 : Array Value} (hw : ∀ d ∈ tables_1, d.before a0 Z = true) (a x b : Addr) (k : ClassId) (mc : Int32) (x0 x1 : Addr) (h0 : Heap) (O0 : Ext Z.heap h0) (f0 : Z.heap.size ≤ a) (E0 : Exa Z h0 a "java/util/ArrayList") (F1 : Fld Z h0 a "java/util/AbstractList" "modCount" "I" (.int mc)) (F2 : Fld Z h0 a "java/util/ArrayList" "elementData" "[Ljava/lang/Object;" (.ref b)) (F3 : Fld Z h0 a "java/util/ArrayList" "size" "I" (.int 2)) (fb : Z.heap.size ≤ b) (nab : a ≠ b) (Ok : Ovr Z k "java/lang/Object") (Vb : Arv Z h0 b k (.object "java/lang/Object") (10 : Int32) [(.ref x0), (.ref x1), .null, .null, .null, .null, .null, .null, .null, .null] .null) (Ex : Exa Z h0 x "java/lang/String") (nax : a ≠ x) (nbx : b ≠ x) :
    Con l (⟨"java/util/ArrayList", "add", "(Ljava/lang/Object;[Ljava/lang/Object;I)V"⟩ : MethodName) jdk_38_method_24_code 4 none ({ frames := 0, cells := 0, slots := 0, locals := 0 } : Room) Z #[(.ref a), (.ref x), (.ref b), (.int (2 : Int32))] h0 (fun v h L => v = none ∧ Fr Z.heap.size L ∧ Keep h0 h [a, b] ∧ Fld Z h a "java/util/AbstractList" "modCount" "I" (.int mc) ∧ Fld Z h a "java/util/ArrayList" "elementData" "[Ljava/lang/Object;" (.ref b) ∧ Fld Z h a "java/util/ArrayList" "size" "I" (.int 3) ∧ Arv Z h b k (.object "java/lang/Object") (10 : Int32) [(.ref x0), (.ref x1), (.ref x), .null, .null, .null, .null, .null, .null, .null] .null) := by
  refine Con.of (plainFor_of_name pn_13) (Ls := #[rv a, rv x, rv b, iv (2 : Int32)]) (fun m => efOf rfl) ?_
  intro p e s m below meth c T0 X0 hx hZ hby hml hown hnm hret hlk e0
  refine go (fun _ => XS.iloadN X0.here hx rfl (hb hby d15_0) rfl) ?_
  refine go (fun _ => XS.aloadN X0.here hx rfl (hb hby d15_1) rfl rfl) ?_
  show Ends p e below _ T0 (mkF m 2 #[rv a, rv x, rv b, iv (2 : Int32)] [(.ref b), (.int (2 : Int32))])
  obtain ⟨cl275, A275, -, S275, M275, -⟩ := id Vb
  refine go (fun _ => X0.arraylength hx (cell := cl275) (by rw [e0]; exact A275.1) (State.isArrayOf_alike hZ.alike A275.2.1) (g := (mkF m 2 #[rv a, rv x, rv b, iv (2 : Int32)] [(.ref b), (.int (2 : Int32))])) rfl rfl (hb hby d15_2) _) ?_
  rw [len_of S275 M275]
  show Ends p e below _ T0 (mkF m 3 #[rv a, rv x, rv b, iv (2 : Int32)] [(.int (10 : Int32)), (.int (2 : Int32))])
  refine go (fun _ => XS.icmpYes X0.here hx rfl (pc0 := 3) (pc' := 11) rfl (hb hby d15_3) rfl (XT.ii_ne_t ((by decide) : ¬ ((2 : Int32) = (10 : Int32)))) (by decide) (by decide)) ?_
  show Ends p e below _ T0 (mkF m 11 #[rv a, rv x, rv b, iv (2 : Int32)] [])
  refine go (fun _ => XS.aloadN X0.here hx rfl (hb hby d15_11) rfl rfl) ?_
  refine go (fun _ => XS.iloadN X0.here hx rfl (hb hby d15_12) rfl) ?_
  refine go (fun _ => XS.aloadN X0.here hx rfl (hb hby d15_13) rfl rfl) ?_
  show Ends p e below _ T0 (mkF m 14 #[rv a, rv x, rv b, iv (2 : Int32)] [(.ref x), (.int (2 : Int32)), (.ref b)])
  obtain ⟨cl276, A276, q276, S276, M276, H276, G276⟩ := id Vb
  obtain ⟨T276, h276, X276, e276, W276, s276⟩ := stR X0 hx hZ e0 A276 (j := (2 : Int32)) (inb_of S276 (by decide)) rfl (Sto.ofV A276 q276 Ok (Ins.of_exa Ex (hwi hw 98 rfl))) (g := (mkF m 14 #[rv a, rv x, rv b, iv (2 : Int32)] [(.ref x), (.int (2 : Int32)), (.ref b)])) rfl rfl (hb hby d15_14)
  have N276 := Fr.snoc X276 (Fr.nil _) fb
  have O277 : Ext Z.heap h276 := xw O0 W276 fb
  have V276 : Arv Z h276 b k (.object "java/lang/Object") (10 : Int32) [(.ref x0), (.ref x1), (.ref x), .null, .null, .null, .null, .null, .null, .null] .null := Arv.set A276 q276 S276 M276 H276 G276 rfl W276 2 (by decide) (Nat.le_of_ble_eq_true rfl)
  refine go s276 ?_
  show Ends p e below _ T276 (mkF m 15 #[rv a, rv x, rv b, iv (2 : Int32)] [])
  refine go (fun _ => XS.aloadN X276.here hx rfl (hb hby d15_15) rfl rfl) ?_
  refine go (fun _ => XS.iloadN X276.here hx rfl (hb hby d15_16) rfl) ?_
  refine go (fun _ => XT.iconstV X276.here hx rfl (1 : Int32) (hb hby d15_17) (by decide)) ?_
  refine go (fun _ => XS.iadd X276.here hx rfl (hb hby d15_18) rfl) ?_
  show Ends p e below _ T276 (mkF m 19 #[rv a, rv x, rv b, iv (2 : Int32)] [(.int (3 : Int32)), (.ref a)])
  have F278 := (Exa.wr W276 E0)
  have F279 := (Fld.other W276 F3 (Or.inl nab))
  obtain ⟨T280, h280, X280, e280, W280, s280⟩ := putF X276 hx hZ hown (host := "") (Or.inl (hwi hw 75 rfl)) Via.refl e276 F279 F278 (Or.inl (hwi hw 76 rfl)) (hwi hw 45 rfl) (ty := .int) (by decide) rfl rfl (g := (mkF m 19 #[rv a, rv x, rv b, iv (2 : Int32)] [(.int (3 : Int32)), (.ref a)])) rfl rfl (hb hby d15_19)
  have N280 := Fr.snoc X280 N276 f0
  have O281 : Ext Z.heap h280 := xw O277 W280 f0
  refine go s280 ?_
  show Ends p e below _ T280 (mkF m 22 #[rv a, rv x, rv b, iv (2 : Int32)] [])
  have K282 : Keep h0 h280 [a, b] := (Keep.wr (Keep.wr (Keep.refl _ _) W276 (Or.inl (List.mem_of_getElem? (i := 1) rfl))) W280 (Or.inl (List.mem_of_getElem? (i := 0) rfl)))
  have F283 := (Fld.other W280 (Fld.other W276 F1 (Or.inl nab)) (Or.inr (slot_ne (a0 := a0) (Or.inl (hwi hw 64 rfl)) (Or.inl (hwi hw 76 rfl)) (by decide) (t := .int) (t' := .int) (by decide) (by decide))))
  have F284 := (Fld.other W280 (Fld.other W276 F2 (Or.inl nab)) (Or.inr (slot_ne (a0 := a0) (Or.inl (hwi hw 67 rfl)) (Or.inl (hwi hw 76 rfl)) (by decide) (t := (.array (.object "java/lang/Object"))) (t' := .int) (by decide) (by decide))))
  have F285 := (Fld.same W280 F279)
  have F286 := (Arv.other V276 W280 (Ne.symm nab))
  exact endV X280 hx hret (hb hby d15_22) (lvN X280 hlk e280 (fun _ => rfl) ⟨rfl, N280, K282, F283, F284, F285, F286⟩ (by decide) (by decide))
set_option maxRecDepth 65536 in
set_option maxHeartbeats 40000000 in
theorem rm_add_2 {l : Launch} {Z : State} {a0 : Array Value} (hw : ∀ d ∈ tables_1, d.before a0 Z = true) (a x b : Addr) (k : ClassId) (mc : Int32) (x0 x1 : Addr) (h0 : Heap) (O0 : Ext Z.heap h0) (f0 : Z.heap.size ≤ a) (E0 : Exa Z h0 a "java/util/ArrayList") (F1 : Fld Z h0 a "java/util/AbstractList" "modCount" "I" (.int mc)) (F2 : Fld Z h0 a "java/util/ArrayList" "elementData" "[Ljava/lang/Object;" (.ref b)) (F3 : Fld Z h0 a "java/util/ArrayList" "size" "I" (.int 2)) (fb : Z.heap.size ≤ b) (nab : a ≠ b) (Ok : Ovr Z k "java/lang/Object") (Vb : Arv Z h0 b k (.object "java/lang/Object") (10 : Int32) [(.ref x0), (.ref x1), .null, .null, .null, .null, .null, .null, .null, .null] .null) (Ex : Exa Z h0 x "java/lang/String") (nax : a ≠ x) (nbx : b ≠ x) :
    Con l (⟨"java/util/ArrayList", "add", "(Ljava/lang/Object;)Z"⟩ : MethodName) jdk_38_method_25_code 2 (some .boolean) ({ frames := 1, cells := 0, slots := 0, locals := 15 } : Room) Z #[(.ref a), (.ref x)] h0 (fun v h L => v = some (.int 1) ∧ Fr Z.heap.size L ∧ Keep h0 h [a, b] ∧ Fld Z h a "java/util/AbstractList" "modCount" "I" (.int (mc + (1 : Int32))) ∧ Fld Z h a "java/util/ArrayList" "elementData" "[Ljava/lang/Object;" (.ref b) ∧ Fld Z h a "java/util/ArrayList" "size" "I" (.int 3) ∧ Arv Z h b k (.object "java/lang/Object") (10 : Int32) [(.ref x0), (.ref x1), (.ref x), .null, .null, .null, .null, .null, .null, .null] .null) := by
  refine Con.of (plainFor_of_name pn_13) (Ls := #[rv a, rv x]) (fun m => efOf rfl) ?_
  intro p e s m below meth c T0 X0 hx hZ hby hml hown hnm hret hlk e0
  refine go (fun _ => XS.aloadN X0.here hx rfl (hb hby d16_0) rfl rfl) ?_
  refine go (fun _ => XS.dup X0.here hx rfl (hb hby d16_1) rfl rfl) ?_
  show Ends p e below _ T0 (mkF m 2 #[rv a, rv x] [(.ref a), (.ref a)])
  obtain ⟨T287, X287, e287, s287⟩ := getF X0 hx hZ hown (host := "") (Or.inl (hwi hw 73 rfl)) (Via.of (hwi hw 74 rfl)) e0 F1 (g := (mkF m 2 #[rv a, rv x] [(.ref a), (.ref a)])) rfl rfl (hb hby d16_2)
  refine go s287 ?_
  show Ends p e below _ T287 (mkF m 5 #[rv a, rv x] [(.int mc), (.ref a)])
  refine go (fun _ => XT.iconstV X287.here hx rfl (1 : Int32) (hb hby d16_5) (by decide)) ?_
  refine go (fun _ => XS.iadd X287.here hx rfl (hb hby d16_6) rfl) ?_
  show Ends p e below _ T287 (mkF m 7 #[rv a, rv x] [(.int (mc + (1 : Int32))), (.ref a)])
  obtain ⟨T288, h288, X288, e288, W288, s288⟩ := putF X287 hx hZ hown (host := "") (Or.inl (hwi hw 73 rfl)) (Via.of (hwi hw 74 rfl)) e287 F1 E0 (Or.inl (hwi hw 64 rfl)) (hwi hw 45 rfl) (ty := .int) (by decide) rfl rfl (g := (mkF m 7 #[rv a, rv x] [(.int (mc + (1 : Int32))), (.ref a)])) rfl rfl (hb hby d16_7)
  have N288 := Fr.snoc X288 (Fr.nil _) f0
  have O289 : Ext Z.heap h288 := xw O0 W288 f0
  refine go s288 ?_
  show Ends p e below _ T288 (mkF m 10 #[rv a, rv x] [])
  refine go (fun _ => XS.aloadN X288.here hx rfl (hb hby d16_10) rfl rfl) ?_
  refine go (fun _ => XS.aloadN X288.here hx rfl (hb hby d16_11) rfl rfl) ?_
  refine go (fun _ => XS.aloadN X288.here hx rfl (hb hby d16_12) rfl rfl) ?_
  show Ends p e below _ T288 (mkF m 13 #[rv a, rv x] [(.ref a), (.ref x), (.ref a)])
  have F290 := (Fld.other W288 F2 (Or.inr (slot_ne (a0 := a0) (Or.inl (hwi hw 67 rfl)) (Or.inl (hwi hw 64 rfl)) (by decide) (t := (.array (.object "java/lang/Object"))) (t' := .int) (by decide) (by decide))))
  obtain ⟨T291, X291, e291, s291⟩ := getF X288 hx hZ hown (host := "") (Or.inl (hwi hw 66 rfl)) Via.refl e288 F290 (g := (mkF m 13 #[rv a, rv x] [(.ref a), (.ref x), (.ref a)])) rfl rfl (hb hby d16_13)
  refine go s291 ?_
  show Ends p e below _ T291 (mkF m 16 #[rv a, rv x] [(.ref b), (.ref x), (.ref a)])
  refine go (fun _ => XS.aloadN X291.here hx rfl (hb hby d16_16) rfl rfl) ?_
  show Ends p e below _ T291 (mkF m 17 #[rv a, rv x] [(.ref a), (.ref b), (.ref x), (.ref a)])
  have F292 := (Fld.other W288 F3 (Or.inr (slot_ne (a0 := a0) (Or.inl (hwi hw 76 rfl)) (Or.inl (hwi hw 64 rfl)) (by decide) (t := .int) (t' := .int) (by decide) (by decide))))
  obtain ⟨T293, X293, e293, s293⟩ := getF X291 hx hZ hown (host := "") (Or.inl (hwi hw 75 rfl)) Via.refl e291 F292 (g := (mkF m 17 #[rv a, rv x] [(.ref a), (.ref b), (.ref x), (.ref a)])) rfl rfl (hb hby d16_17)
  refine go s293 ?_
  show Ends p e below _ T293 (mkF m 20 #[rv a, rv x] [(.int (2 : Int32)), (.ref b), (.ref x), (.ref a)])
  have F294 := (Exa.wr W288 E0)
  have F295 := (Fld.same W288 F1)
  have F296 := (Exa.wr W288 Ex)
  have F297 := (Arv.other Vb W288 (Ne.symm nab))
  refine cPriv X293 hx hZ hown (by rw [hml]; rfl) e293 (hwi hw 77 rfl) (hwi hw 78 rfl) (hwi hw 79 rfl) (hwi hw 45 rfl) (hwi hw 46 rfl) (hwi hw 81 rfl) a F294 [(.ref x), (.ref b), (.int (2 : Int32))] [] rfl (rm_add3_2 hw a x b k (mc + (1 : Int32)) x0 x1 _ O289 f0 F294 F295 F290 F292 fb nab Ok F297 F296 nax nbx) (hb hby d16_20) rfl (lenOf pd_17 rfl) (by decide) (by decide) (Nat.le_of_ble_eq_true rfl) (by decide) (by decide) ?_
  rintro v298 T298 h298 L298 X298 e298 ⟨rfl, N298, K298, F1298, F2298, F3298, V298⟩
  have N298a := Fr.app N288 N298
  have O299 : Ext Z.heap h298 := xk O289 K298 (allS f0 (allS fb all0))
  show Ends p e below _ T298 (mkF m 23 #[rv a, rv x] [])
  refine go (fun _ => XT.iconstV X298.here hx rfl (1 : Int32) (hb hby d16_23) (by decide)) ?_
  show Ends p e below _ T298 (mkF m 24 #[rv a, rv x] [(.int (1 : Int32))])
  have K300 : Keep h0 h298 [a, b] := (Keep.trans (Keep.wr (Keep.refl _ _) W288 (Or.inl (List.mem_of_getElem? (i := 0) rfl))) K298 (allS (Or.inl (List.mem_of_getElem? (i := 0) rfl)) (allS (Or.inl (List.mem_of_getElem? (i := 1) rfl)) all0)))
  exact endN X298 hx hret (by simp) (hb hby d16_24) (lvN X298 hlk e298 (fun h => by rw [hret] at h; cases h) ⟨by simp [nar], N298a, K300, F1298, F2298, F3298, V298⟩ (by decide) (by decide))
set_option maxRecDepth 65536 in
set_option maxHeartbeats 40000000 in
theorem rm_add3_3 {l : Launch} {Z : State} {a0 : Array Value} (hw : ∀ d ∈ tables_1, d.before a0 Z = true) (a x b : Addr) (k : ClassId) (mc : Int32) (x0 x1 x2 : Addr) (h0 : Heap) (O0 : Ext Z.heap h0) (f0 : Z.heap.size ≤ a) (E0 : Exa Z h0 a "java/util/ArrayList") (F1 : Fld Z h0 a "java/util/AbstractList" "modCount" "I" (.int mc)) (F2 : Fld Z h0 a "java/util/ArrayList" "elementData" "[Ljava/lang/Object;" (.ref b)) (F3 : Fld Z h0 a "java/util/ArrayList" "size" "I" (.int 3)) (fb : Z.heap.size ≤ b) (nab : a ≠ b) (Ok : Ovr Z k "java/lang/Object") (Vb : Arv Z h0 b k (.object "java/lang/Object") (10 : Int32) [(.ref x0), (.ref x1), (.ref x2), .null, .null, .null, .null, .null, .null, .null] .null) (Ex : Exa Z h0 x "java/lang/String") (nax : a ≠ x) (nbx : b ≠ x) :
    Con l (⟨"java/util/ArrayList", "add", "(Ljava/lang/Object;[Ljava/lang/Object;I)V"⟩ : MethodName) jdk_38_method_24_code 4 none ({ frames := 0, cells := 0, slots := 0, locals := 0 } : Room) Z #[(.ref a), (.ref x), (.ref b), (.int (3 : Int32))] h0 (fun v h L => v = none ∧ Fr Z.heap.size L ∧ Keep h0 h [a, b] ∧ Fld Z h a "java/util/AbstractList" "modCount" "I" (.int mc) ∧ Fld Z h a "java/util/ArrayList" "elementData" "[Ljava/lang/Object;" (.ref b) ∧ Fld Z h a "java/util/ArrayList" "size" "I" (.int 4) ∧ Arv Z h b k (.object "java/lang/Object") (10 : Int32) [(.ref x0), (.ref x1), (.ref x2), (.ref x), .null, .null, .null, .null, .null, .null] .null) := by
  refine Con.of (plainFor_of_name pn_13) (Ls := #[rv a, rv x, rv b, iv (3 : Int32)]) (fun m => efOf rfl) ?_
  intro p e s m below meth c T0 X0 hx hZ hby hml hown hnm hret hlk e0
  refine go (fun _ => XS.iloadN X0.here hx rfl (hb hby d15_0) rfl) ?_
  refine go (fun _ => XS.aloadN X0.here hx rfl (hb hby d15_1) rfl rfl) ?_
  show Ends p e below _ T0 (mkF m 2 #[rv a, rv x, rv b, iv (3 : Int32)] [(.ref b), (.int (3 : Int32))])
  obtain ⟨cl301, A301, -, S301, M301, -⟩ := id Vb
  refine go (fun _ => X0.arraylength hx (cell := cl301) (by rw [e0]; exact A301.1) (State.isArrayOf_alike hZ.alike A301.2.1) (g := (mkF m 2 #[rv a, rv x, rv b, iv (3 : Int32)] [(.ref b), (.int (3 : Int32))])) rfl rfl (hb hby d15_2) _) ?_
  rw [len_of S301 M301]
  show Ends p e below _ T0 (mkF m 3 #[rv a, rv x, rv b, iv (3 : Int32)] [(.int (10 : Int32)), (.int (3 : Int32))])
  refine go (fun _ => XS.icmpYes X0.here hx rfl (pc0 := 3) (pc' := 11) rfl (hb hby d15_3) rfl (XT.ii_ne_t ((by decide) : ¬ ((3 : Int32) = (10 : Int32)))) (by decide) (by decide)) ?_
  show Ends p e below _ T0 (mkF m 11 #[rv a, rv x, rv b, iv (3 : Int32)] [])
  refine go (fun _ => XS.aloadN X0.here hx rfl (hb hby d15_11) rfl rfl) ?_
  refine go (fun _ => XS.iloadN X0.here hx rfl (hb hby d15_12) rfl) ?_
  refine go (fun _ => XS.aloadN X0.here hx rfl (hb hby d15_13) rfl rfl) ?_
  show Ends p e below _ T0 (mkF m 14 #[rv a, rv x, rv b, iv (3 : Int32)] [(.ref x), (.int (3 : Int32)), (.ref b)])
  obtain ⟨cl302, A302, q302, S302, M302, H302, G302⟩ := id Vb
  obtain ⟨T302, h302, X302, e302, W302, s302⟩ := stR X0 hx hZ e0 A302 (j := (3 : Int32)) (inb_of S302 (by decide)) rfl (Sto.ofV A302 q302 Ok (Ins.of_exa Ex (hwi hw 98 rfl))) (g := (mkF m 14 #[rv a, rv x, rv b, iv (3 : Int32)] [(.ref x), (.int (3 : Int32)), (.ref b)])) rfl rfl (hb hby d15_14)
  have N302 := Fr.snoc X302 (Fr.nil _) fb
  have O303 : Ext Z.heap h302 := xw O0 W302 fb
  have V302 : Arv Z h302 b k (.object "java/lang/Object") (10 : Int32) [(.ref x0), (.ref x1), (.ref x2), (.ref x), .null, .null, .null, .null, .null, .null] .null := Arv.set A302 q302 S302 M302 H302 G302 rfl W302 3 (by decide) (Nat.le_of_ble_eq_true rfl)
  refine go s302 ?_
  show Ends p e below _ T302 (mkF m 15 #[rv a, rv x, rv b, iv (3 : Int32)] [])
  refine go (fun _ => XS.aloadN X302.here hx rfl (hb hby d15_15) rfl rfl) ?_
  refine go (fun _ => XS.iloadN X302.here hx rfl (hb hby d15_16) rfl) ?_
  refine go (fun _ => XT.iconstV X302.here hx rfl (1 : Int32) (hb hby d15_17) (by decide)) ?_
  refine go (fun _ => XS.iadd X302.here hx rfl (hb hby d15_18) rfl) ?_
  show Ends p e below _ T302 (mkF m 19 #[rv a, rv x, rv b, iv (3 : Int32)] [(.int (4 : Int32)), (.ref a)])
  have F304 := (Exa.wr W302 E0)
  have F305 := (Fld.other W302 F3 (Or.inl nab))
  obtain ⟨T306, h306, X306, e306, W306, s306⟩ := putF X302 hx hZ hown (host := "") (Or.inl (hwi hw 75 rfl)) Via.refl e302 F305 F304 (Or.inl (hwi hw 76 rfl)) (hwi hw 45 rfl) (ty := .int) (by decide) rfl rfl (g := (mkF m 19 #[rv a, rv x, rv b, iv (3 : Int32)] [(.int (4 : Int32)), (.ref a)])) rfl rfl (hb hby d15_19)
  have N306 := Fr.snoc X306 N302 f0
  have O307 : Ext Z.heap h306 := xw O303 W306 f0
  refine go s306 ?_
  show Ends p e below _ T306 (mkF m 22 #[rv a, rv x, rv b, iv (3 : Int32)] [])
  have K308 : Keep h0 h306 [a, b] := (Keep.wr (Keep.wr (Keep.refl _ _) W302 (Or.inl (List.mem_of_getElem? (i := 1) rfl))) W306 (Or.inl (List.mem_of_getElem? (i := 0) rfl)))
  have F309 := (Fld.other W306 (Fld.other W302 F1 (Or.inl nab)) (Or.inr (slot_ne (a0 := a0) (Or.inl (hwi hw 64 rfl)) (Or.inl (hwi hw 76 rfl)) (by decide) (t := .int) (t' := .int) (by decide) (by decide))))
  have F310 := (Fld.other W306 (Fld.other W302 F2 (Or.inl nab)) (Or.inr (slot_ne (a0 := a0) (Or.inl (hwi hw 67 rfl)) (Or.inl (hwi hw 76 rfl)) (by decide) (t := (.array (.object "java/lang/Object"))) (t' := .int) (by decide) (by decide))))
  have F311 := (Fld.same W306 F305)
  have F312 := (Arv.other V302 W306 (Ne.symm nab))
  exact endV X306 hx hret (hb hby d15_22) (lvN X306 hlk e306 (fun _ => rfl) ⟨rfl, N306, K308, F309, F310, F311, F312⟩ (by decide) (by decide))
set_option maxRecDepth 65536 in
set_option maxHeartbeats 40000000 in
theorem rm_add_3 {l : Launch} {Z : State} {a0 : Array Value} (hw : ∀ d ∈ tables_1, d.before a0 Z = true) (a x b : Addr) (k : ClassId) (mc : Int32) (x0 x1 x2 : Addr) (h0 : Heap) (O0 : Ext Z.heap h0) (f0 : Z.heap.size ≤ a) (E0 : Exa Z h0 a "java/util/ArrayList") (F1 : Fld Z h0 a "java/util/AbstractList" "modCount" "I" (.int mc)) (F2 : Fld Z h0 a "java/util/ArrayList" "elementData" "[Ljava/lang/Object;" (.ref b)) (F3 : Fld Z h0 a "java/util/ArrayList" "size" "I" (.int 3)) (fb : Z.heap.size ≤ b) (nab : a ≠ b) (Ok : Ovr Z k "java/lang/Object") (Vb : Arv Z h0 b k (.object "java/lang/Object") (10 : Int32) [(.ref x0), (.ref x1), (.ref x2), .null, .null, .null, .null, .null, .null, .null] .null) (Ex : Exa Z h0 x "java/lang/String") (nax : a ≠ x) (nbx : b ≠ x) :
    Con l (⟨"java/util/ArrayList", "add", "(Ljava/lang/Object;)Z"⟩ : MethodName) jdk_38_method_25_code 2 (some .boolean) ({ frames := 1, cells := 0, slots := 0, locals := 15 } : Room) Z #[(.ref a), (.ref x)] h0 (fun v h L => v = some (.int 1) ∧ Fr Z.heap.size L ∧ Keep h0 h [a, b] ∧ Fld Z h a "java/util/AbstractList" "modCount" "I" (.int (mc + (1 : Int32))) ∧ Fld Z h a "java/util/ArrayList" "elementData" "[Ljava/lang/Object;" (.ref b) ∧ Fld Z h a "java/util/ArrayList" "size" "I" (.int 4) ∧ Arv Z h b k (.object "java/lang/Object") (10 : Int32) [(.ref x0), (.ref x1), (.ref x2), (.ref x), .null, .null, .null, .null, .null, .null] .null) := by
  refine Con.of (plainFor_of_name pn_13) (Ls := #[rv a, rv x]) (fun m => efOf rfl) ?_
  intro p e s m below meth c T0 X0 hx hZ hby hml hown hnm hret hlk e0
  refine go (fun _ => XS.aloadN X0.here hx rfl (hb hby d16_0) rfl rfl) ?_
  refine go (fun _ => XS.dup X0.here hx rfl (hb hby d16_1) rfl rfl) ?_
  show Ends p e below _ T0 (mkF m 2 #[rv a, rv x] [(.ref a), (.ref a)])
  obtain ⟨T313, X313, e313, s313⟩ := getF X0 hx hZ hown (host := "") (Or.inl (hwi hw 73 rfl)) (Via.of (hwi hw 74 rfl)) e0 F1 (g := (mkF m 2 #[rv a, rv x] [(.ref a), (.ref a)])) rfl rfl (hb hby d16_2)
  refine go s313 ?_
  show Ends p e below _ T313 (mkF m 5 #[rv a, rv x] [(.int mc), (.ref a)])
  refine go (fun _ => XT.iconstV X313.here hx rfl (1 : Int32) (hb hby d16_5) (by decide)) ?_
  refine go (fun _ => XS.iadd X313.here hx rfl (hb hby d16_6) rfl) ?_
  show Ends p e below _ T313 (mkF m 7 #[rv a, rv x] [(.int (mc + (1 : Int32))), (.ref a)])
  obtain ⟨T314, h314, X314, e314, W314, s314⟩ := putF X313 hx hZ hown (host := "") (Or.inl (hwi hw 73 rfl)) (Via.of (hwi hw 74 rfl)) e313 F1 E0 (Or.inl (hwi hw 64 rfl)) (hwi hw 45 rfl) (ty := .int) (by decide) rfl rfl (g := (mkF m 7 #[rv a, rv x] [(.int (mc + (1 : Int32))), (.ref a)])) rfl rfl (hb hby d16_7)
  have N314 := Fr.snoc X314 (Fr.nil _) f0
  have O315 : Ext Z.heap h314 := xw O0 W314 f0
  refine go s314 ?_
  show Ends p e below _ T314 (mkF m 10 #[rv a, rv x] [])
  refine go (fun _ => XS.aloadN X314.here hx rfl (hb hby d16_10) rfl rfl) ?_
  refine go (fun _ => XS.aloadN X314.here hx rfl (hb hby d16_11) rfl rfl) ?_
  refine go (fun _ => XS.aloadN X314.here hx rfl (hb hby d16_12) rfl rfl) ?_
  show Ends p e below _ T314 (mkF m 13 #[rv a, rv x] [(.ref a), (.ref x), (.ref a)])
  have F316 := (Fld.other W314 F2 (Or.inr (slot_ne (a0 := a0) (Or.inl (hwi hw 67 rfl)) (Or.inl (hwi hw 64 rfl)) (by decide) (t := (.array (.object "java/lang/Object"))) (t' := .int) (by decide) (by decide))))
  obtain ⟨T317, X317, e317, s317⟩ := getF X314 hx hZ hown (host := "") (Or.inl (hwi hw 66 rfl)) Via.refl e314 F316 (g := (mkF m 13 #[rv a, rv x] [(.ref a), (.ref x), (.ref a)])) rfl rfl (hb hby d16_13)
  refine go s317 ?_
  show Ends p e below _ T317 (mkF m 16 #[rv a, rv x] [(.ref b), (.ref x), (.ref a)])
  refine go (fun _ => XS.aloadN X317.here hx rfl (hb hby d16_16) rfl rfl) ?_
  show Ends p e below _ T317 (mkF m 17 #[rv a, rv x] [(.ref a), (.ref b), (.ref x), (.ref a)])
  have F318 := (Fld.other W314 F3 (Or.inr (slot_ne (a0 := a0) (Or.inl (hwi hw 76 rfl)) (Or.inl (hwi hw 64 rfl)) (by decide) (t := .int) (t' := .int) (by decide) (by decide))))
  obtain ⟨T319, X319, e319, s319⟩ := getF X317 hx hZ hown (host := "") (Or.inl (hwi hw 75 rfl)) Via.refl e317 F318 (g := (mkF m 17 #[rv a, rv x] [(.ref a), (.ref b), (.ref x), (.ref a)])) rfl rfl (hb hby d16_17)
  refine go s319 ?_
  show Ends p e below _ T319 (mkF m 20 #[rv a, rv x] [(.int (3 : Int32)), (.ref b), (.ref x), (.ref a)])
  have F320 := (Exa.wr W314 E0)
  have F321 := (Fld.same W314 F1)
  have F322 := (Exa.wr W314 Ex)
  have F323 := (Arv.other Vb W314 (Ne.symm nab))
  refine cPriv X319 hx hZ hown (by rw [hml]; rfl) e319 (hwi hw 77 rfl) (hwi hw 78 rfl) (hwi hw 79 rfl) (hwi hw 45 rfl) (hwi hw 46 rfl) (hwi hw 81 rfl) a F320 [(.ref x), (.ref b), (.int (3 : Int32))] [] rfl (rm_add3_3 hw a x b k (mc + (1 : Int32)) x0 x1 x2 _ O315 f0 F320 F321 F316 F318 fb nab Ok F323 F322 nax nbx) (hb hby d16_20) rfl (lenOf pd_17 rfl) (by decide) (by decide) (Nat.le_of_ble_eq_true rfl) (by decide) (by decide) ?_
  rintro v324 T324 h324 L324 X324 e324 ⟨rfl, N324, K324, F1324, F2324, F3324, V324⟩
  have N324a := Fr.app N314 N324
  have O325 : Ext Z.heap h324 := xk O315 K324 (allS f0 (allS fb all0))
  show Ends p e below _ T324 (mkF m 23 #[rv a, rv x] [])
  refine go (fun _ => XT.iconstV X324.here hx rfl (1 : Int32) (hb hby d16_23) (by decide)) ?_
  show Ends p e below _ T324 (mkF m 24 #[rv a, rv x] [(.int (1 : Int32))])
  have K326 : Keep h0 h324 [a, b] := (Keep.trans (Keep.wr (Keep.refl _ _) W314 (Or.inl (List.mem_of_getElem? (i := 0) rfl))) K324 (allS (Or.inl (List.mem_of_getElem? (i := 0) rfl)) (allS (Or.inl (List.mem_of_getElem? (i := 1) rfl)) all0)))
  exact endN X324 hx hret (by simp) (hb hby d16_24) (lvN X324 hlk e324 (fun h => by rw [hret] at h; cases h) ⟨by simp [nar], N324a, K326, F1324, F2324, F3324, V324⟩ (by decide) (by decide))
set_option maxRecDepth 65536 in
set_option maxHeartbeats 40000000 in
theorem rm_coderOf {l : Launch} {Z : State} {a0 : Array Value} (hw : ∀ d ∈ tables_1, d.before a0 Z = true) (x : Addr) (h0 : Heap) (O0 : Ext Z.heap h0) (cz : Int32) (SCS : Sta Z Z.heap "java/lang/String" "COMPACT_STRINGS" "Z" (.int cz)) (hcz : ¬ cz = (0 : Int32)) (Fc : Fld Z h0 x "java/lang/String" "coder" "B" (.int 0)) :
    Con l (⟨"java/lang/String", "coder", "()B"⟩ : MethodName) jdk_42_method_152_code 1 (some .byte) ({ frames := 0, cells := 0, slots := 0, locals := 0 } : Room) Z #[(.ref x)] h0 (fun v h L => v = some (.int 0) ∧ Fr Z.heap.size L ∧ h0 = h) := by
  refine Con.of (plainFor_of_name pn_0) (Ls := #[rv x]) (fun m => efOf rfl) ?_
  intro p e s m below meth c T0 X0 hx hZ hby hml hown hnm hret hlk e0
  obtain ⟨T327, X327, e327, s327⟩ := getS2 X0 hx hZ hown (host := "") (Or.inl (hwi hw 14 rfl)) Via.refl e0 (Sta.ext O0 SCS) (g := (mkF m 0 #[rv x] [])) rfl (hb hby d17_0)
  refine go s327 ?_
  show Ends p e below _ T327 (mkF m 3 #[rv x] [(.int cz)])
  refine go (fun _ => XS.ifNo X327.here hx rfl (hb hby d17_3) rfl (XT.i0_eq_f hcz)) ?_
  show Ends p e below _ T327 (mkF m 6 #[rv x] [])
  refine go (fun _ => XS.aloadN X327.here hx rfl (hb hby d17_6) rfl rfl) ?_
  show Ends p e below _ T327 (mkF m 7 #[rv x] [(.ref x)])
  obtain ⟨T328, X328, e328, s328⟩ := getF X327 hx hZ hown (host := "") (Or.inl (hwi hw 26 rfl)) Via.refl e327 Fc (g := (mkF m 7 #[rv x] [(.ref x)])) rfl rfl (hb hby d17_7)
  refine go s328 ?_
  show Ends p e below _ T328 (mkF m 10 #[rv x] [(.int (0 : Int32))])
  refine go (fun _ => XS.goto X328.here hx rfl (pc0 := 10) (pc' := 14) rfl (hb hby d17_10) (by decide) (by decide)) ?_
  show Ends p e below _ T328 (mkF m 14 #[rv x] [(.int (0 : Int32))])
  exact endN X328 hx hret (by simp) (hb hby d17_14) (lvN X328 hlk e328 (fun h => by rw [hret] at h; cases h) ⟨by simp [nar], (Fr.nil _), rfl⟩ (by decide) (by decide))
set_option maxRecDepth 65536 in
set_option maxHeartbeats 40000000 in
theorem rm_isLatin1 {l : Launch} {Z : State} {a0 : Array Value} (hw : ∀ d ∈ tables_1, d.before a0 Z = true) (x : Addr) (h0 : Heap) (O0 : Ext Z.heap h0) (cz : Int32) (SCS : Sta Z Z.heap "java/lang/String" "COMPACT_STRINGS" "Z" (.int cz)) (hcz : ¬ cz = (0 : Int32)) (Fc : Fld Z h0 x "java/lang/String" "coder" "B" (.int 0)) :
    Con l (⟨"java/lang/String", "isLatin1", "()Z"⟩ : MethodName) jdk_42_method_154_code 1 (some .boolean) ({ frames := 0, cells := 0, slots := 0, locals := 0 } : Room) Z #[(.ref x)] h0 (fun v h L => v = some (.int 1) ∧ Fr Z.heap.size L ∧ h0 = h) := by
  refine Con.of (plainFor_of_name pn_0) (Ls := #[rv x]) (fun m => efOf rfl) ?_
  intro p e s m below meth c T0 X0 hx hZ hby hml hown hnm hret hlk e0
  obtain ⟨T329, X329, e329, s329⟩ := getS2 X0 hx hZ hown (host := "") (Or.inl (hwi hw 14 rfl)) Via.refl e0 (Sta.ext O0 SCS) (g := (mkF m 0 #[rv x] [])) rfl (hb hby d18_0)
  refine go s329 ?_
  show Ends p e below _ T329 (mkF m 3 #[rv x] [(.int cz)])
  refine go (fun _ => XS.ifNo X329.here hx rfl (hb hby d18_3) rfl (XT.i0_eq_f hcz)) ?_
  show Ends p e below _ T329 (mkF m 6 #[rv x] [])
  refine go (fun _ => XS.aloadN X329.here hx rfl (hb hby d18_6) rfl rfl) ?_
  show Ends p e below _ T329 (mkF m 7 #[rv x] [(.ref x)])
  obtain ⟨T330, X330, e330, s330⟩ := getF X329 hx hZ hown (host := "") (Or.inl (hwi hw 26 rfl)) Via.refl e329 Fc (g := (mkF m 7 #[rv x] [(.ref x)])) rfl rfl (hb hby d18_7)
  refine go s330 ?_
  show Ends p e below _ T330 (mkF m 10 #[rv x] [(.int (0 : Int32))])
  refine go (fun _ => XS.ifNo X330.here hx rfl (hb hby d18_10) rfl (XT.i0_ne_f ((by decide) : (0 : Int32) = (0 : Int32)))) ?_
  show Ends p e below _ T330 (mkF m 13 #[rv x] [])
  refine go (fun _ => XT.iconstV X330.here hx rfl (1 : Int32) (hb hby d18_13) (by decide)) ?_
  refine go (fun _ => XS.goto X330.here hx rfl (pc0 := 14) (pc' := 18) rfl (hb hby d18_14) (by decide) (by decide)) ?_
  show Ends p e below _ T330 (mkF m 18 #[rv x] [(.int (1 : Int32))])
  exact endN X330 hx hret (by simp) (hb hby d18_18) (lvN X330 hlk e330 (fun h => by rw [hret] at h; cases h) ⟨by simp [nar], (Fr.nil _), rfl⟩ (by decide) (by decide))
set_option maxRecDepth 65536 in
set_option maxHeartbeats 40000000 in
theorem rm_length {l : Launch} {Z : State} {a0 : Array Value} (hw : ∀ d ∈ tables_1, d.before a0 Z = true) (x b : Addr) (k : ClassId) (lz : Int32) (vs : List Value) (h0 : Heap) (O0 : Ext Z.heap h0) (cz : Int32) (SCS : Sta Z Z.heap "java/lang/String" "COMPACT_STRINGS" "Z" (.int cz)) (hcz : ¬ cz = (0 : Int32)) (Fc : Fld Z h0 x "java/lang/String" "coder" "B" (.int 0)) (Ex : Exa Z h0 x "java/lang/String") (Fv : Fld Z h0 x "java/lang/String" "value" "[B" (.ref b)) (Vb : Arv Z h0 b k .byte lz vs (.int 0)) :
    Con l (⟨"java/lang/String", "length", "()I"⟩ : MethodName) jdk_42_method_54_code 1 (some .int) ({ frames := 1, cells := 0, slots := 0, locals := 13 } : Room) Z #[(.ref x)] h0 (fun v h L => v = some (.int lz) ∧ Fr Z.heap.size L ∧ h0 = h) := by
  refine Con.of (plainFor_of_name pn_0) (Ls := #[rv x]) (fun m => efOf rfl) ?_
  intro p e s m below meth c T0 X0 hx hZ hby hml hown hnm hret hlk e0
  refine go (fun _ => XS.aloadN X0.here hx rfl (hb hby d19_0) rfl rfl) ?_
  show Ends p e below _ T0 (mkF m 1 #[rv x] [(.ref x)])
  obtain ⟨T331, X331, e331, s331⟩ := getF X0 hx hZ hown (host := "") (Or.inl (hwi hw 28 rfl)) Via.refl e0 Fv (g := (mkF m 1 #[rv x] [(.ref x)])) rfl rfl (hb hby d19_1)
  refine go s331 ?_
  show Ends p e below _ T331 (mkF m 4 #[rv x] [(.ref b)])
  obtain ⟨cl332, A332, -, S332, M332, -⟩ := id Vb
  refine go (fun _ => X331.arraylength hx (cell := cl332) (by rw [e331]; exact A332.1) (State.isArrayOf_alike hZ.alike A332.2.1) (g := (mkF m 4 #[rv x] [(.ref b)])) rfl rfl (hb hby d19_4) _) ?_
  rw [len_of S332 M332]
  show Ends p e below _ T331 (mkF m 5 #[rv x] [(.int lz)])
  refine go (fun _ => XS.aloadN X331.here hx rfl (hb hby d19_5) rfl rfl) ?_
  show Ends p e below _ T331 (mkF m 6 #[rv x] [(.ref x), (.int lz)])
  refine cVirt X331 hx hZ hown (by rw [hml]; rfl) e331 (hwi hw 141 rfl) (hwi hw 142 rfl) (hwi hw 144 rfl) (hwi hw 143 rfl) (hwi hw 2 rfl) (hwi hw 145 rfl) (notFace_of_selects (args := #[]) (mvT hZ (hwi hw 144 rfl))) x Ex [] [(.int lz)] rfl (rm_coderOf hw x _ O0 cz SCS hcz Fc) (hb hby d19_6) rfl (lenOf pd_18 rfl) (by decide) (by decide) (Nat.le_of_ble_eq_true rfl) (by decide) (by decide) ?_
  rintro v333 T333 h333 L333 X333 e333 ⟨rfl, N333, rfl⟩
  have N333a := Fr.app (Fr.nil _) N333
  show Ends p e below _ T333 (mkF m 9 #[rv x] [(.int (0 : Int32)), (.int lz)])
  refine go (fun _ => XT.ishr X333.here hx rfl (hb hby d19_9) rfl) ?_
  show Ends p e below _ T333 (mkF m 10 #[rv x] [(.int (lz >>> ((0 : Int32) &&& 31)))])
  exact endI X333 hx hret (hb hby d19_10) (lvN X333 hlk e333 (fun h => by rw [hret] at h; cases h) ⟨by rw [own_sh0], N333a, rfl⟩ (by decide) (by decide))
set_option maxRecDepth 65536 in
set_option maxHeartbeats 40000000 in
theorem rm_pci {l : Launch} {Z : State} {a0 : Array Value} (hw : ∀ d ∈ tables_1, d.before a0 Z = true) (p_ n_ : Int32) (w_ : Value) (h0 : Heap) (wr_ : w_.isRef = true) (hp0 : ¬ p_ < (0 : Int32)) (hpn : p_ < n_) :
    Con l (⟨"jdk/internal/util/Preconditions", "checkIndex", "(IILjava/util/function/BiFunction;)I"⟩ : MethodName) jdk_41_method_11_code 3 (some .int) ({ frames := 0, cells := 0, slots := 0, locals := 0 } : Room) Z #[(.int p_), (.int n_), w_] h0 (fun v h L => v = some (.int p_) ∧ Fr Z.heap.size L ∧ h0 = h) := by
  refine Con.of (plainFor_of_name pn_19) (Ls := #[iv p_, iv n_, .val w_]) (fun m => by rcases ref_cases wr_ with rfl | ⟨_, rfl⟩ <;> first | rfl | (simp [entryFrame, mkF, argsToLocals, Value.category]; done)) ?_
  intro p e s m below meth c T0 X0 hx hZ hby hml hown hnm hret hlk e0
  refine go (fun _ => XS.iloadN X0.here hx rfl (hb hby d20_0) rfl) ?_
  show Ends p e below _ T0 (mkF m 1 #[iv p_, iv n_, .val w_] [(.int p_)])
  refine go (fun _ => XS.ifNo X0.here hx rfl (hb hby d20_1) rfl (XT.i0_lt_f hp0)) ?_
  show Ends p e below _ T0 (mkF m 4 #[iv p_, iv n_, .val w_] [])
  refine go (fun _ => XS.iloadN X0.here hx rfl (hb hby d20_4) rfl) ?_
  refine go (fun _ => XS.iloadN X0.here hx rfl (hb hby d20_5) rfl) ?_
  show Ends p e below _ T0 (mkF m 6 #[iv p_, iv n_, .val w_] [(.int n_), (.int p_)])
  refine go (fun _ => XS.icmpYes X0.here hx rfl (pc0 := 6) (pc' := 16) rfl (hb hby d20_6) rfl (XT.ii_lt_t hpn) (by decide) (by decide)) ?_
  show Ends p e below _ T0 (mkF m 16 #[iv p_, iv n_, .val w_] [])
  refine go (fun _ => XS.iloadN X0.here hx rfl (hb hby d20_16) rfl) ?_
  show Ends p e below _ T0 (mkF m 17 #[iv p_, iv n_, .val w_] [(.int p_)])
  exact endI X0 hx hret (hb hby d20_17) (lvN X0 hlk e0 (fun h => by rw [hret] at h; cases h) ⟨rfl, (Fr.nil _), rfl⟩ (by decide) (by decide))
set_option maxRecDepth 65536 in
set_option maxHeartbeats 40000000 in
theorem rm_oci {l : Launch} {Z : State} {a0 : Array Value} (hw : ∀ d ∈ tables_1, d.before a0 Z = true) (p_ n_ : Int32) (h0 : Heap) (hp0 : ¬ p_ < (0 : Int32)) (hpn : p_ < n_) :
    Con l (⟨"java/util/Objects", "checkIndex", "(II)I"⟩ : MethodName) jdk_31_method_17_code 2 (some .int) ({ frames := 1, cells := 0, slots := 0, locals := 14 } : Room) Z #[(.int p_), (.int n_)] h0 (fun v h L => v = some (.int p_) ∧ Fr Z.heap.size L ∧ h0 = h) := by
  refine Con.of (plainFor_of_name pn_20) (Ls := #[iv p_, iv n_]) (fun m => efOf rfl) ?_
  intro p e s m below meth c T0 X0 hx hZ hby hml hown hnm hret hlk e0
  refine go (fun _ => XS.iloadN X0.here hx rfl (hb hby d21_0) rfl) ?_
  refine go (fun _ => XS.iloadN X0.here hx rfl (hb hby d21_1) rfl) ?_
  refine go (fun _ => XS.aconstNull X0.here hx rfl (hb hby d21_2)) ?_
  show Ends p e below _ T0 (mkF m 3 #[iv p_, iv n_] [.null, (.int n_), (.int p_)])
  refine cStat X0 hx hZ hown (by rw [hml]; rfl) e0 (hwi hw 126 rfl) (hwi hw 127 rfl) (hwi hw 128 rfl) (hwi hw 129 rfl) [(.int p_), (.int n_), .null] [] rfl (rm_pci hw p_ n_ .null _ rfl hp0 hpn) (hb hby d21_3) rfl (lenOf pd_21 rfl) (by decide) (by decide) (Nat.le_of_ble_eq_true rfl) (by decide) (by decide) ?_
  rintro v334 T334 h334 L334 X334 e334 ⟨rfl, N334, rfl⟩
  have N334a := Fr.app (Fr.nil _) N334
  show Ends p e below _ T334 (mkF m 6 #[iv p_, iv n_] [(.int p_)])
  exact endI X334 hx hret (hb hby d21_6) (lvN X334 hlk e334 (fun h => by rw [hret] at h; cases h) ⟨rfl, N334a, rfl⟩ (by decide) (by decide))
set_option maxRecDepth 65536 in
set_option maxHeartbeats 40000000 in
theorem rm_sci {l : Launch} {Z : State} {a0 : Array Value} (hw : ∀ d ∈ tables_1, d.before a0 Z = true) (p_ n_ : Int32) (wS : Value) (h0 : Heap) (O0 : Ext Z.heap h0) (hsf : wS.isRef = true) (SS : Sta Z Z.heap "jdk/internal/util/Preconditions" "SIOOBE_FORMATTER" "Ljava/util/function/BiFunction;" wS) (hp0 : ¬ p_ < (0 : Int32)) (hpn : p_ < n_) :
    Con l (⟨"java/lang/String", "checkIndex", "(II)V"⟩ : MethodName) jdk_42_method_155_code 2 none ({ frames := 1, cells := 0, slots := 0, locals := 14 } : Room) Z #[(.int p_), (.int n_)] h0 (fun v h L => v = none ∧ Fr Z.heap.size L ∧ h0 = h) := by
  refine Con.of (plainFor_of_name pn_0) (Ls := #[iv p_, iv n_]) (fun m => efOf rfl) ?_
  intro p e s m below meth c T0 X0 hx hZ hby hml hown hnm hret hlk e0
  refine go (fun _ => XS.iloadN X0.here hx rfl (hb hby d22_0) rfl) ?_
  refine go (fun _ => XS.iloadN X0.here hx rfl (hb hby d22_1) rfl) ?_
  show Ends p e below _ T0 (mkF m 2 #[iv p_, iv n_] [(.int n_), (.int p_)])
  obtain ⟨T335, X335, e335, s335⟩ := getS2 X0 hx hZ hown (host := "") (Or.inl (hwi hw 162 rfl)) Via.refl e0 (Sta.ext O0 SS) (g := (mkF m 2 #[iv p_, iv n_] [(.int n_), (.int p_)])) rfl (hb hby d22_2)
  refine go s335 ?_
  show Ends p e below _ T335 (mkF m 5 #[iv p_, iv n_] [wS, (.int n_), (.int p_)])
  refine cStat X335 hx hZ hown (by rw [hml]; rfl) e335 (hwi hw 163 rfl) (hwi hw 127 rfl) (hwi hw 128 rfl) (hwi hw 129 rfl) [(.int p_), (.int n_), wS] [] rfl (rm_pci hw p_ n_ wS _ hsf hp0 hpn) (hb hby d22_5) rfl (lenOf pd_21 rfl) (by decide) (by decide) (Nat.le_of_ble_eq_true rfl) (by decide) (by decide) ?_
  rintro v336 T336 h336 L336 X336 e336 ⟨rfl, N336, rfl⟩
  have N336a := Fr.app (Fr.nil _) N336
  show Ends p e below _ T336 (mkF m 8 #[iv p_, iv n_] [(.int p_)])
  refine go (fun _ => XT.pop X336.here hx rfl (hb hby d22_8) rfl rfl) ?_
  show Ends p e below _ T336 (mkF m 9 #[iv p_, iv n_] [])
  exact endV X336 hx hret (hb hby d22_9) (lvN X336 hlk e336 (fun _ => rfl) ⟨rfl, N336a, rfl⟩ (by decide) (by decide))
set_option maxRecDepth 65536 in
set_option maxHeartbeats 40000000 in
theorem rm_l1c_0_1 {l : Launch} {Z : State} {a0 : Array Value} (hw : ∀ d ∈ tables_1, d.before a0 Z = true) (b : Addr) (k : ClassId) (y0 : Int32) (wS : Value) (h0 : Heap) (O0 : Ext Z.heap h0) (hsf : wS.isRef = true) (SS : Sta Z Z.heap "jdk/internal/util/Preconditions" "SIOOBE_FORMATTER" "Ljava/util/function/BiFunction;" wS) (Vb : Arv Z h0 b k .byte (1 : Int32) [(.int y0.toInt8.toInt32)] (.int 0)) :
    Con l (⟨"java/lang/StringLatin1", "charAt", "([BI)C"⟩ : MethodName) jdk_43_method_2_code 2 (some .char) ({ frames := 2, cells := 0, slots := 0, locals := 27 } : Room) Z #[(.ref b), (.int (0 : Int32))] h0 (fun v h L => v = some (.int (y0.toInt8.toInt32 &&& (255 : Int32)).toUInt32.toUInt16.toUInt32.toInt32) ∧ Fr Z.heap.size L ∧ h0 = h) := by
  refine Con.of (plainFor_of_name pn_6) (Ls := #[rv b, iv (0 : Int32)]) (fun m => efOf rfl) ?_
  intro p e s m below meth c T0 X0 hx hZ hby hml hown hnm hret hlk e0
  refine go (fun _ => XS.iloadN X0.here hx rfl (hb hby d23_0) rfl) ?_
  refine go (fun _ => XS.aloadN X0.here hx rfl (hb hby d23_1) rfl rfl) ?_
  show Ends p e below _ T0 (mkF m 2 #[rv b, iv (0 : Int32)] [(.ref b), (.int (0 : Int32))])
  obtain ⟨cl337, A337, -, S337, M337, -⟩ := id Vb
  refine go (fun _ => X0.arraylength hx (cell := cl337) (by rw [e0]; exact A337.1) (State.isArrayOf_alike hZ.alike A337.2.1) (g := (mkF m 2 #[rv b, iv (0 : Int32)] [(.ref b), (.int (0 : Int32))])) rfl rfl (hb hby d23_2) _) ?_
  rw [len_of S337 M337]
  show Ends p e below _ T0 (mkF m 3 #[rv b, iv (0 : Int32)] [(.int (1 : Int32)), (.int (0 : Int32))])
  refine cStat X0 hx hZ hown (by rw [hml]; rfl) e0 (hwi hw 159 rfl) (hwi hw 160 rfl) (hwi hw 2 rfl) (hwi hw 161 rfl) [(.int (0 : Int32)), (.int (1 : Int32))] [] rfl (rm_sci hw (0 : Int32) (1 : Int32) wS _ O0 hsf SS (by decide) (by decide)) (hb hby d23_3) rfl (lenOf pd_22 rfl) (by decide) (by decide) (Nat.le_of_ble_eq_true rfl) (by decide) (by decide) ?_
  rintro v338 T338 h338 L338 X338 e338 ⟨rfl, N338, rfl⟩
  have N338a := Fr.app (Fr.nil _) N338
  show Ends p e below _ T338 (mkF m 6 #[rv b, iv (0 : Int32)] [])
  refine go (fun _ => XS.aloadN X338.here hx rfl (hb hby d23_6) rfl rfl) ?_
  refine go (fun _ => XS.iloadN X338.here hx rfl (hb hby d23_7) rfl) ?_
  show Ends p e below _ T338 (mkF m 8 #[rv b, iv (0 : Int32)] [(.int (0 : Int32)), (.ref b)])
  obtain ⟨cl339, A339, -, S339, M339, H339, -⟩ := id Vb
  have B339 := inb_of S339 (j := (0 : Int32)) (by decide)
  refine go (fun _ => X338.baloadBytes hx (j := (0 : Int32)) (v := (.int y0.toInt8.toInt32)) (by rw [e338]; exact A339.1) (State.isArrayOf_alike hZ.alike A339.2.1) A339.2.2 B339 (H339.at B339 rfl) (g := (mkF m 8 #[rv b, iv (0 : Int32)] [(.int (0 : Int32)), (.ref b)])) rfl rfl (hb hby d23_8) _) ?_
  show Ends p e below _ T338 (mkF m 9 #[rv b, iv (0 : Int32)] [(.int y0.toInt8.toInt32)])
  refine go (fun _ => XT.sipushV X338.here hx rfl (255 : Int32) (hb hby d23_9) (by decide)) ?_
  refine go (fun _ => XS.iand X338.here hx rfl (hb hby d23_12) rfl) ?_
  refine go (fun _ => XT.i2c X338.here hx rfl (hb hby d23_13) rfl) ?_
  show Ends p e below _ T338 (mkF m 14 #[rv b, iv (0 : Int32)] [(.int (y0.toInt8.toInt32 &&& (255 : Int32)).toUInt32.toUInt16.toUInt32.toInt32)])
  exact endN X338 hx hret (by simp) (hb hby d23_14) (lvN X338 hlk e338 (fun h => by rw [hret] at h; cases h) ⟨by rw [own_nc], N338a, rfl⟩ (by decide) (by decide))
set_option maxRecDepth 65536 in
set_option maxHeartbeats 40000000 in
theorem rm_sc_0_1 {l : Launch} {Z : State} {a0 : Array Value} (hw : ∀ d ∈ tables_1, d.before a0 Z = true) (x b : Addr) (k : ClassId) (y0 : Int32) (wS : Value) (h0 : Heap) (O0 : Ext Z.heap h0) (cz : Int32) (SCS : Sta Z Z.heap "java/lang/String" "COMPACT_STRINGS" "Z" (.int cz)) (hcz : ¬ cz = (0 : Int32)) (hsf : wS.isRef = true) (SS : Sta Z Z.heap "jdk/internal/util/Preconditions" "SIOOBE_FORMATTER" "Ljava/util/function/BiFunction;" wS) (Fc : Fld Z h0 x "java/lang/String" "coder" "B" (.int 0)) (Ex : Exa Z h0 x "java/lang/String") (Fv : Fld Z h0 x "java/lang/String" "value" "[B" (.ref b)) (Vb : Arv Z h0 b k .byte (1 : Int32) [(.int y0.toInt8.toInt32)] (.int 0)) (h1 : ¬ (255 : Int32) < y0) (h2 : ¬ y0 < 0) :
    Con l (⟨"java/lang/String", "charAt", "(I)C"⟩ : MethodName) jdk_42_method_56_code 2 (some .char) ({ frames := 3, cells := 0, slots := 0, locals := 40 } : Room) Z #[(.ref x), (.int (0 : Int32))] h0 (fun v h L => v = some (.int y0) ∧ Fr Z.heap.size L ∧ h0 = h) := by
  refine Con.of (plainFor_of_name pn_0) (Ls := #[rv x, iv (0 : Int32)]) (fun m => efOf rfl) ?_
  intro p e s m below meth c T0 X0 hx hZ hby hml hown hnm hret hlk e0
  refine go (fun _ => XS.aloadN X0.here hx rfl (hb hby d24_0) rfl rfl) ?_
  show Ends p e below _ T0 (mkF m 1 #[rv x, iv (0 : Int32)] [(.ref x)])
  refine cVirt X0 hx hZ hown (by rw [hml]; rfl) e0 (hwi hw 151 rfl) (hwi hw 152 rfl) (hwi hw 154 rfl) (hwi hw 153 rfl) (hwi hw 2 rfl) (hwi hw 155 rfl) (notFace_of_selects (args := #[]) (mvT hZ (hwi hw 154 rfl))) x Ex [] [] rfl (rm_isLatin1 hw x _ O0 cz SCS hcz Fc) (hb hby d24_1) rfl (lenOf pd_23 rfl) (by decide) (by decide) (Nat.le_of_ble_eq_true rfl) (by decide) (by decide) ?_
  rintro v340 T340 h340 L340 X340 e340 ⟨rfl, N340, rfl⟩
  have N340a := Fr.app (Fr.nil _) N340
  show Ends p e below _ T340 (mkF m 4 #[rv x, iv (0 : Int32)] [(.int (1 : Int32))])
  refine go (fun _ => XS.ifNo X340.here hx rfl (hb hby d24_4) rfl (XT.i0_eq_f ((by decide) : ¬ ((1 : Int32) = (0 : Int32))))) ?_
  show Ends p e below _ T340 (mkF m 7 #[rv x, iv (0 : Int32)] [])
  refine go (fun _ => XS.aloadN X340.here hx rfl (hb hby d24_7) rfl rfl) ?_
  show Ends p e below _ T340 (mkF m 8 #[rv x, iv (0 : Int32)] [(.ref x)])
  obtain ⟨T341, X341, e341, s341⟩ := getF X340 hx hZ hown (host := "") (Or.inl (hwi hw 28 rfl)) Via.refl e340 Fv (g := (mkF m 8 #[rv x, iv (0 : Int32)] [(.ref x)])) rfl rfl (hb hby d24_8)
  refine go s341 ?_
  show Ends p e below _ T341 (mkF m 11 #[rv x, iv (0 : Int32)] [(.ref b)])
  refine go (fun _ => XS.iloadN X341.here hx rfl (hb hby d24_11) rfl) ?_
  show Ends p e below _ T341 (mkF m 12 #[rv x, iv (0 : Int32)] [(.int (0 : Int32)), (.ref b)])
  refine cStat X341 hx hZ hown (by rw [hml]; rfl) e341 (hwi hw 156 rfl) (hwi hw 157 rfl) (hwi hw 35 rfl) (hwi hw 158 rfl) [(.ref b), (.int (0 : Int32))] [] rfl (rm_l1c_0_1 hw b k y0 wS _ O0 hsf SS Vb) (hb hby d24_12) rfl (lenOf pd_24 rfl) (by decide) (by decide) (Nat.le_of_ble_eq_true rfl) (by decide) (by decide) ?_
  rintro v342 T342 h342 L342 X342 e342 ⟨rfl, N342, rfl⟩
  have N342a := Fr.app N340a N342
  show Ends p e below _ T342 (mkF m 15 #[rv x, iv (0 : Int32)] [(.int (y0.toInt8.toInt32 &&& (255 : Int32)).toUInt32.toUInt16.toUInt32.toInt32)])
  exact endN X342 hx hret (by simp) (hb hby d24_15) (lvN X342 hlk e342 (fun h => by rw [hret] at h; cases h) ⟨by rw [own_nc, own_back h1 h2], N342a, rfl⟩ (by decide) (by decide))
set_option maxRecDepth 65536 in
set_option maxHeartbeats 40000000 in
theorem rm_l1c_0_2 {l : Launch} {Z : State} {a0 : Array Value} (hw : ∀ d ∈ tables_1, d.before a0 Z = true) (b : Addr) (k : ClassId) (y0 y1 : Int32) (wS : Value) (h0 : Heap) (O0 : Ext Z.heap h0) (hsf : wS.isRef = true) (SS : Sta Z Z.heap "jdk/internal/util/Preconditions" "SIOOBE_FORMATTER" "Ljava/util/function/BiFunction;" wS) (Vb : Arv Z h0 b k .byte (2 : Int32) [(.int y0.toInt8.toInt32), (.int y1.toInt8.toInt32)] (.int 0)) :
    Con l (⟨"java/lang/StringLatin1", "charAt", "([BI)C"⟩ : MethodName) jdk_43_method_2_code 2 (some .char) ({ frames := 2, cells := 0, slots := 0, locals := 27 } : Room) Z #[(.ref b), (.int (0 : Int32))] h0 (fun v h L => v = some (.int (y0.toInt8.toInt32 &&& (255 : Int32)).toUInt32.toUInt16.toUInt32.toInt32) ∧ Fr Z.heap.size L ∧ h0 = h) := by
  refine Con.of (plainFor_of_name pn_6) (Ls := #[rv b, iv (0 : Int32)]) (fun m => efOf rfl) ?_
  intro p e s m below meth c T0 X0 hx hZ hby hml hown hnm hret hlk e0
  refine go (fun _ => XS.iloadN X0.here hx rfl (hb hby d23_0) rfl) ?_
  refine go (fun _ => XS.aloadN X0.here hx rfl (hb hby d23_1) rfl rfl) ?_
  show Ends p e below _ T0 (mkF m 2 #[rv b, iv (0 : Int32)] [(.ref b), (.int (0 : Int32))])
  obtain ⟨cl343, A343, -, S343, M343, -⟩ := id Vb
  refine go (fun _ => X0.arraylength hx (cell := cl343) (by rw [e0]; exact A343.1) (State.isArrayOf_alike hZ.alike A343.2.1) (g := (mkF m 2 #[rv b, iv (0 : Int32)] [(.ref b), (.int (0 : Int32))])) rfl rfl (hb hby d23_2) _) ?_
  rw [len_of S343 M343]
  show Ends p e below _ T0 (mkF m 3 #[rv b, iv (0 : Int32)] [(.int (2 : Int32)), (.int (0 : Int32))])
  refine cStat X0 hx hZ hown (by rw [hml]; rfl) e0 (hwi hw 159 rfl) (hwi hw 160 rfl) (hwi hw 2 rfl) (hwi hw 161 rfl) [(.int (0 : Int32)), (.int (2 : Int32))] [] rfl (rm_sci hw (0 : Int32) (2 : Int32) wS _ O0 hsf SS (by decide) (by decide)) (hb hby d23_3) rfl (lenOf pd_22 rfl) (by decide) (by decide) (Nat.le_of_ble_eq_true rfl) (by decide) (by decide) ?_
  rintro v344 T344 h344 L344 X344 e344 ⟨rfl, N344, rfl⟩
  have N344a := Fr.app (Fr.nil _) N344
  show Ends p e below _ T344 (mkF m 6 #[rv b, iv (0 : Int32)] [])
  refine go (fun _ => XS.aloadN X344.here hx rfl (hb hby d23_6) rfl rfl) ?_
  refine go (fun _ => XS.iloadN X344.here hx rfl (hb hby d23_7) rfl) ?_
  show Ends p e below _ T344 (mkF m 8 #[rv b, iv (0 : Int32)] [(.int (0 : Int32)), (.ref b)])
  obtain ⟨cl345, A345, -, S345, M345, H345, -⟩ := id Vb
  have B345 := inb_of S345 (j := (0 : Int32)) (by decide)
  refine go (fun _ => X344.baloadBytes hx (j := (0 : Int32)) (v := (.int y0.toInt8.toInt32)) (by rw [e344]; exact A345.1) (State.isArrayOf_alike hZ.alike A345.2.1) A345.2.2 B345 (H345.at B345 rfl) (g := (mkF m 8 #[rv b, iv (0 : Int32)] [(.int (0 : Int32)), (.ref b)])) rfl rfl (hb hby d23_8) _) ?_
  show Ends p e below _ T344 (mkF m 9 #[rv b, iv (0 : Int32)] [(.int y0.toInt8.toInt32)])
  refine go (fun _ => XT.sipushV X344.here hx rfl (255 : Int32) (hb hby d23_9) (by decide)) ?_
  refine go (fun _ => XS.iand X344.here hx rfl (hb hby d23_12) rfl) ?_
  refine go (fun _ => XT.i2c X344.here hx rfl (hb hby d23_13) rfl) ?_
  show Ends p e below _ T344 (mkF m 14 #[rv b, iv (0 : Int32)] [(.int (y0.toInt8.toInt32 &&& (255 : Int32)).toUInt32.toUInt16.toUInt32.toInt32)])
  exact endN X344 hx hret (by simp) (hb hby d23_14) (lvN X344 hlk e344 (fun h => by rw [hret] at h; cases h) ⟨by rw [own_nc], N344a, rfl⟩ (by decide) (by decide))
set_option maxRecDepth 65536 in
set_option maxHeartbeats 40000000 in
theorem rm_sc_0_2 {l : Launch} {Z : State} {a0 : Array Value} (hw : ∀ d ∈ tables_1, d.before a0 Z = true) (x b : Addr) (k : ClassId) (y0 y1 : Int32) (wS : Value) (h0 : Heap) (O0 : Ext Z.heap h0) (cz : Int32) (SCS : Sta Z Z.heap "java/lang/String" "COMPACT_STRINGS" "Z" (.int cz)) (hcz : ¬ cz = (0 : Int32)) (hsf : wS.isRef = true) (SS : Sta Z Z.heap "jdk/internal/util/Preconditions" "SIOOBE_FORMATTER" "Ljava/util/function/BiFunction;" wS) (Fc : Fld Z h0 x "java/lang/String" "coder" "B" (.int 0)) (Ex : Exa Z h0 x "java/lang/String") (Fv : Fld Z h0 x "java/lang/String" "value" "[B" (.ref b)) (Vb : Arv Z h0 b k .byte (2 : Int32) [(.int y0.toInt8.toInt32), (.int y1.toInt8.toInt32)] (.int 0)) (h1 : ¬ (255 : Int32) < y0) (h2 : ¬ y0 < 0) :
    Con l (⟨"java/lang/String", "charAt", "(I)C"⟩ : MethodName) jdk_42_method_56_code 2 (some .char) ({ frames := 3, cells := 0, slots := 0, locals := 40 } : Room) Z #[(.ref x), (.int (0 : Int32))] h0 (fun v h L => v = some (.int y0) ∧ Fr Z.heap.size L ∧ h0 = h) := by
  refine Con.of (plainFor_of_name pn_0) (Ls := #[rv x, iv (0 : Int32)]) (fun m => efOf rfl) ?_
  intro p e s m below meth c T0 X0 hx hZ hby hml hown hnm hret hlk e0
  refine go (fun _ => XS.aloadN X0.here hx rfl (hb hby d24_0) rfl rfl) ?_
  show Ends p e below _ T0 (mkF m 1 #[rv x, iv (0 : Int32)] [(.ref x)])
  refine cVirt X0 hx hZ hown (by rw [hml]; rfl) e0 (hwi hw 151 rfl) (hwi hw 152 rfl) (hwi hw 154 rfl) (hwi hw 153 rfl) (hwi hw 2 rfl) (hwi hw 155 rfl) (notFace_of_selects (args := #[]) (mvT hZ (hwi hw 154 rfl))) x Ex [] [] rfl (rm_isLatin1 hw x _ O0 cz SCS hcz Fc) (hb hby d24_1) rfl (lenOf pd_23 rfl) (by decide) (by decide) (Nat.le_of_ble_eq_true rfl) (by decide) (by decide) ?_
  rintro v346 T346 h346 L346 X346 e346 ⟨rfl, N346, rfl⟩
  have N346a := Fr.app (Fr.nil _) N346
  show Ends p e below _ T346 (mkF m 4 #[rv x, iv (0 : Int32)] [(.int (1 : Int32))])
  refine go (fun _ => XS.ifNo X346.here hx rfl (hb hby d24_4) rfl (XT.i0_eq_f ((by decide) : ¬ ((1 : Int32) = (0 : Int32))))) ?_
  show Ends p e below _ T346 (mkF m 7 #[rv x, iv (0 : Int32)] [])
  refine go (fun _ => XS.aloadN X346.here hx rfl (hb hby d24_7) rfl rfl) ?_
  show Ends p e below _ T346 (mkF m 8 #[rv x, iv (0 : Int32)] [(.ref x)])
  obtain ⟨T347, X347, e347, s347⟩ := getF X346 hx hZ hown (host := "") (Or.inl (hwi hw 28 rfl)) Via.refl e346 Fv (g := (mkF m 8 #[rv x, iv (0 : Int32)] [(.ref x)])) rfl rfl (hb hby d24_8)
  refine go s347 ?_
  show Ends p e below _ T347 (mkF m 11 #[rv x, iv (0 : Int32)] [(.ref b)])
  refine go (fun _ => XS.iloadN X347.here hx rfl (hb hby d24_11) rfl) ?_
  show Ends p e below _ T347 (mkF m 12 #[rv x, iv (0 : Int32)] [(.int (0 : Int32)), (.ref b)])
  refine cStat X347 hx hZ hown (by rw [hml]; rfl) e347 (hwi hw 156 rfl) (hwi hw 157 rfl) (hwi hw 35 rfl) (hwi hw 158 rfl) [(.ref b), (.int (0 : Int32))] [] rfl (rm_l1c_0_2 hw b k y0 y1 wS _ O0 hsf SS Vb) (hb hby d24_12) rfl (lenOf pd_24 rfl) (by decide) (by decide) (Nat.le_of_ble_eq_true rfl) (by decide) (by decide) ?_
  rintro v348 T348 h348 L348 X348 e348 ⟨rfl, N348, rfl⟩
  have N348a := Fr.app N346a N348
  show Ends p e below _ T348 (mkF m 15 #[rv x, iv (0 : Int32)] [(.int (y0.toInt8.toInt32 &&& (255 : Int32)).toUInt32.toUInt16.toUInt32.toInt32)])
  exact endN X348 hx hret (by simp) (hb hby d24_15) (lvN X348 hlk e348 (fun h => by rw [hret] at h; cases h) ⟨by rw [own_nc, own_back h1 h2], N348a, rfl⟩ (by decide) (by decide))
set_option maxRecDepth 65536 in
set_option maxHeartbeats 40000000 in
theorem rm_l1c_1_2 {l : Launch} {Z : State} {a0 : Array Value} (hw : ∀ d ∈ tables_1, d.before a0 Z = true) (b : Addr) (k : ClassId) (y0 y1 : Int32) (wS : Value) (h0 : Heap) (O0 : Ext Z.heap h0) (hsf : wS.isRef = true) (SS : Sta Z Z.heap "jdk/internal/util/Preconditions" "SIOOBE_FORMATTER" "Ljava/util/function/BiFunction;" wS) (Vb : Arv Z h0 b k .byte (2 : Int32) [(.int y0.toInt8.toInt32), (.int y1.toInt8.toInt32)] (.int 0)) :
    Con l (⟨"java/lang/StringLatin1", "charAt", "([BI)C"⟩ : MethodName) jdk_43_method_2_code 2 (some .char) ({ frames := 2, cells := 0, slots := 0, locals := 27 } : Room) Z #[(.ref b), (.int (1 : Int32))] h0 (fun v h L => v = some (.int (y1.toInt8.toInt32 &&& (255 : Int32)).toUInt32.toUInt16.toUInt32.toInt32) ∧ Fr Z.heap.size L ∧ h0 = h) := by
  refine Con.of (plainFor_of_name pn_6) (Ls := #[rv b, iv (1 : Int32)]) (fun m => efOf rfl) ?_
  intro p e s m below meth c T0 X0 hx hZ hby hml hown hnm hret hlk e0
  refine go (fun _ => XS.iloadN X0.here hx rfl (hb hby d23_0) rfl) ?_
  refine go (fun _ => XS.aloadN X0.here hx rfl (hb hby d23_1) rfl rfl) ?_
  show Ends p e below _ T0 (mkF m 2 #[rv b, iv (1 : Int32)] [(.ref b), (.int (1 : Int32))])
  obtain ⟨cl349, A349, -, S349, M349, -⟩ := id Vb
  refine go (fun _ => X0.arraylength hx (cell := cl349) (by rw [e0]; exact A349.1) (State.isArrayOf_alike hZ.alike A349.2.1) (g := (mkF m 2 #[rv b, iv (1 : Int32)] [(.ref b), (.int (1 : Int32))])) rfl rfl (hb hby d23_2) _) ?_
  rw [len_of S349 M349]
  show Ends p e below _ T0 (mkF m 3 #[rv b, iv (1 : Int32)] [(.int (2 : Int32)), (.int (1 : Int32))])
  refine cStat X0 hx hZ hown (by rw [hml]; rfl) e0 (hwi hw 159 rfl) (hwi hw 160 rfl) (hwi hw 2 rfl) (hwi hw 161 rfl) [(.int (1 : Int32)), (.int (2 : Int32))] [] rfl (rm_sci hw (1 : Int32) (2 : Int32) wS _ O0 hsf SS (by decide) (by decide)) (hb hby d23_3) rfl (lenOf pd_22 rfl) (by decide) (by decide) (Nat.le_of_ble_eq_true rfl) (by decide) (by decide) ?_
  rintro v350 T350 h350 L350 X350 e350 ⟨rfl, N350, rfl⟩
  have N350a := Fr.app (Fr.nil _) N350
  show Ends p e below _ T350 (mkF m 6 #[rv b, iv (1 : Int32)] [])
  refine go (fun _ => XS.aloadN X350.here hx rfl (hb hby d23_6) rfl rfl) ?_
  refine go (fun _ => XS.iloadN X350.here hx rfl (hb hby d23_7) rfl) ?_
  show Ends p e below _ T350 (mkF m 8 #[rv b, iv (1 : Int32)] [(.int (1 : Int32)), (.ref b)])
  obtain ⟨cl351, A351, -, S351, M351, H351, -⟩ := id Vb
  have B351 := inb_of S351 (j := (1 : Int32)) (by decide)
  refine go (fun _ => X350.baloadBytes hx (j := (1 : Int32)) (v := (.int y1.toInt8.toInt32)) (by rw [e350]; exact A351.1) (State.isArrayOf_alike hZ.alike A351.2.1) A351.2.2 B351 (H351.at B351 rfl) (g := (mkF m 8 #[rv b, iv (1 : Int32)] [(.int (1 : Int32)), (.ref b)])) rfl rfl (hb hby d23_8) _) ?_
  show Ends p e below _ T350 (mkF m 9 #[rv b, iv (1 : Int32)] [(.int y1.toInt8.toInt32)])
  refine go (fun _ => XT.sipushV X350.here hx rfl (255 : Int32) (hb hby d23_9) (by decide)) ?_
  refine go (fun _ => XS.iand X350.here hx rfl (hb hby d23_12) rfl) ?_
  refine go (fun _ => XT.i2c X350.here hx rfl (hb hby d23_13) rfl) ?_
  show Ends p e below _ T350 (mkF m 14 #[rv b, iv (1 : Int32)] [(.int (y1.toInt8.toInt32 &&& (255 : Int32)).toUInt32.toUInt16.toUInt32.toInt32)])
  exact endN X350 hx hret (by simp) (hb hby d23_14) (lvN X350 hlk e350 (fun h => by rw [hret] at h; cases h) ⟨by rw [own_nc], N350a, rfl⟩ (by decide) (by decide))
set_option maxRecDepth 65536 in
set_option maxHeartbeats 40000000 in
theorem rm_sc_1_2 {l : Launch} {Z : State} {a0 : Array Value} (hw : ∀ d ∈ tables_1, d.before a0 Z = true) (x b : Addr) (k : ClassId) (y0 y1 : Int32) (wS : Value) (h0 : Heap) (O0 : Ext Z.heap h0) (cz : Int32) (SCS : Sta Z Z.heap "java/lang/String" "COMPACT_STRINGS" "Z" (.int cz)) (hcz : ¬ cz = (0 : Int32)) (hsf : wS.isRef = true) (SS : Sta Z Z.heap "jdk/internal/util/Preconditions" "SIOOBE_FORMATTER" "Ljava/util/function/BiFunction;" wS) (Fc : Fld Z h0 x "java/lang/String" "coder" "B" (.int 0)) (Ex : Exa Z h0 x "java/lang/String") (Fv : Fld Z h0 x "java/lang/String" "value" "[B" (.ref b)) (Vb : Arv Z h0 b k .byte (2 : Int32) [(.int y0.toInt8.toInt32), (.int y1.toInt8.toInt32)] (.int 0)) (h1 : ¬ (255 : Int32) < y1) (h2 : ¬ y1 < 0) :
    Con l (⟨"java/lang/String", "charAt", "(I)C"⟩ : MethodName) jdk_42_method_56_code 2 (some .char) ({ frames := 3, cells := 0, slots := 0, locals := 40 } : Room) Z #[(.ref x), (.int (1 : Int32))] h0 (fun v h L => v = some (.int y1) ∧ Fr Z.heap.size L ∧ h0 = h) := by
  refine Con.of (plainFor_of_name pn_0) (Ls := #[rv x, iv (1 : Int32)]) (fun m => efOf rfl) ?_
  intro p e s m below meth c T0 X0 hx hZ hby hml hown hnm hret hlk e0
  refine go (fun _ => XS.aloadN X0.here hx rfl (hb hby d24_0) rfl rfl) ?_
  show Ends p e below _ T0 (mkF m 1 #[rv x, iv (1 : Int32)] [(.ref x)])
  refine cVirt X0 hx hZ hown (by rw [hml]; rfl) e0 (hwi hw 151 rfl) (hwi hw 152 rfl) (hwi hw 154 rfl) (hwi hw 153 rfl) (hwi hw 2 rfl) (hwi hw 155 rfl) (notFace_of_selects (args := #[]) (mvT hZ (hwi hw 154 rfl))) x Ex [] [] rfl (rm_isLatin1 hw x _ O0 cz SCS hcz Fc) (hb hby d24_1) rfl (lenOf pd_23 rfl) (by decide) (by decide) (Nat.le_of_ble_eq_true rfl) (by decide) (by decide) ?_
  rintro v352 T352 h352 L352 X352 e352 ⟨rfl, N352, rfl⟩
  have N352a := Fr.app (Fr.nil _) N352
  show Ends p e below _ T352 (mkF m 4 #[rv x, iv (1 : Int32)] [(.int (1 : Int32))])
  refine go (fun _ => XS.ifNo X352.here hx rfl (hb hby d24_4) rfl (XT.i0_eq_f ((by decide) : ¬ ((1 : Int32) = (0 : Int32))))) ?_
  show Ends p e below _ T352 (mkF m 7 #[rv x, iv (1 : Int32)] [])
  refine go (fun _ => XS.aloadN X352.here hx rfl (hb hby d24_7) rfl rfl) ?_
  show Ends p e below _ T352 (mkF m 8 #[rv x, iv (1 : Int32)] [(.ref x)])
  obtain ⟨T353, X353, e353, s353⟩ := getF X352 hx hZ hown (host := "") (Or.inl (hwi hw 28 rfl)) Via.refl e352 Fv (g := (mkF m 8 #[rv x, iv (1 : Int32)] [(.ref x)])) rfl rfl (hb hby d24_8)
  refine go s353 ?_
  show Ends p e below _ T353 (mkF m 11 #[rv x, iv (1 : Int32)] [(.ref b)])
  refine go (fun _ => XS.iloadN X353.here hx rfl (hb hby d24_11) rfl) ?_
  show Ends p e below _ T353 (mkF m 12 #[rv x, iv (1 : Int32)] [(.int (1 : Int32)), (.ref b)])
  refine cStat X353 hx hZ hown (by rw [hml]; rfl) e353 (hwi hw 156 rfl) (hwi hw 157 rfl) (hwi hw 35 rfl) (hwi hw 158 rfl) [(.ref b), (.int (1 : Int32))] [] rfl (rm_l1c_1_2 hw b k y0 y1 wS _ O0 hsf SS Vb) (hb hby d24_12) rfl (lenOf pd_24 rfl) (by decide) (by decide) (Nat.le_of_ble_eq_true rfl) (by decide) (by decide) ?_
  rintro v354 T354 h354 L354 X354 e354 ⟨rfl, N354, rfl⟩
  have N354a := Fr.app N352a N354
  show Ends p e below _ T354 (mkF m 15 #[rv x, iv (1 : Int32)] [(.int (y1.toInt8.toInt32 &&& (255 : Int32)).toUInt32.toUInt16.toUInt32.toInt32)])
  exact endN X354 hx hret (by simp) (hb hby d24_15) (lvN X354 hlk e354 (fun h => by rw [hret] at h; cases h) ⟨by rw [own_nc, own_back h1 h2], N354a, rfl⟩ (by decide) (by decide))
set_option maxRecDepth 65536 in
set_option maxHeartbeats 40000000 in
theorem rm_l1c_0_3 {l : Launch} {Z : State} {a0 : Array Value} (hw : ∀ d ∈ tables_1, d.before a0 Z = true) (b : Addr) (k : ClassId) (y0 y1 y2 : Int32) (wS : Value) (h0 : Heap) (O0 : Ext Z.heap h0) (hsf : wS.isRef = true) (SS : Sta Z Z.heap "jdk/internal/util/Preconditions" "SIOOBE_FORMATTER" "Ljava/util/function/BiFunction;" wS) (Vb : Arv Z h0 b k .byte (3 : Int32) [(.int y0.toInt8.toInt32), (.int y1.toInt8.toInt32), (.int y2.toInt8.toInt32)] (.int 0)) :
    Con l (⟨"java/lang/StringLatin1", "charAt", "([BI)C"⟩ : MethodName) jdk_43_method_2_code 2 (some .char) ({ frames := 2, cells := 0, slots := 0, locals := 27 } : Room) Z #[(.ref b), (.int (0 : Int32))] h0 (fun v h L => v = some (.int (y0.toInt8.toInt32 &&& (255 : Int32)).toUInt32.toUInt16.toUInt32.toInt32) ∧ Fr Z.heap.size L ∧ h0 = h) := by
  refine Con.of (plainFor_of_name pn_6) (Ls := #[rv b, iv (0 : Int32)]) (fun m => efOf rfl) ?_
  intro p e s m below meth c T0 X0 hx hZ hby hml hown hnm hret hlk e0
  refine go (fun _ => XS.iloadN X0.here hx rfl (hb hby d23_0) rfl) ?_
  refine go (fun _ => XS.aloadN X0.here hx rfl (hb hby d23_1) rfl rfl) ?_
  show Ends p e below _ T0 (mkF m 2 #[rv b, iv (0 : Int32)] [(.ref b), (.int (0 : Int32))])
  obtain ⟨cl355, A355, -, S355, M355, -⟩ := id Vb
  refine go (fun _ => X0.arraylength hx (cell := cl355) (by rw [e0]; exact A355.1) (State.isArrayOf_alike hZ.alike A355.2.1) (g := (mkF m 2 #[rv b, iv (0 : Int32)] [(.ref b), (.int (0 : Int32))])) rfl rfl (hb hby d23_2) _) ?_
  rw [len_of S355 M355]
  show Ends p e below _ T0 (mkF m 3 #[rv b, iv (0 : Int32)] [(.int (3 : Int32)), (.int (0 : Int32))])
  refine cStat X0 hx hZ hown (by rw [hml]; rfl) e0 (hwi hw 159 rfl) (hwi hw 160 rfl) (hwi hw 2 rfl) (hwi hw 161 rfl) [(.int (0 : Int32)), (.int (3 : Int32))] [] rfl (rm_sci hw (0 : Int32) (3 : Int32) wS _ O0 hsf SS (by decide) (by decide)) (hb hby d23_3) rfl (lenOf pd_22 rfl) (by decide) (by decide) (Nat.le_of_ble_eq_true rfl) (by decide) (by decide) ?_
  rintro v356 T356 h356 L356 X356 e356 ⟨rfl, N356, rfl⟩
  have N356a := Fr.app (Fr.nil _) N356
  show Ends p e below _ T356 (mkF m 6 #[rv b, iv (0 : Int32)] [])
  refine go (fun _ => XS.aloadN X356.here hx rfl (hb hby d23_6) rfl rfl) ?_
  refine go (fun _ => XS.iloadN X356.here hx rfl (hb hby d23_7) rfl) ?_
  show Ends p e below _ T356 (mkF m 8 #[rv b, iv (0 : Int32)] [(.int (0 : Int32)), (.ref b)])
  obtain ⟨cl357, A357, -, S357, M357, H357, -⟩ := id Vb
  have B357 := inb_of S357 (j := (0 : Int32)) (by decide)
  refine go (fun _ => X356.baloadBytes hx (j := (0 : Int32)) (v := (.int y0.toInt8.toInt32)) (by rw [e356]; exact A357.1) (State.isArrayOf_alike hZ.alike A357.2.1) A357.2.2 B357 (H357.at B357 rfl) (g := (mkF m 8 #[rv b, iv (0 : Int32)] [(.int (0 : Int32)), (.ref b)])) rfl rfl (hb hby d23_8) _) ?_
  show Ends p e below _ T356 (mkF m 9 #[rv b, iv (0 : Int32)] [(.int y0.toInt8.toInt32)])
  refine go (fun _ => XT.sipushV X356.here hx rfl (255 : Int32) (hb hby d23_9) (by decide)) ?_
  refine go (fun _ => XS.iand X356.here hx rfl (hb hby d23_12) rfl) ?_
  refine go (fun _ => XT.i2c X356.here hx rfl (hb hby d23_13) rfl) ?_
  show Ends p e below _ T356 (mkF m 14 #[rv b, iv (0 : Int32)] [(.int (y0.toInt8.toInt32 &&& (255 : Int32)).toUInt32.toUInt16.toUInt32.toInt32)])
  exact endN X356 hx hret (by simp) (hb hby d23_14) (lvN X356 hlk e356 (fun h => by rw [hret] at h; cases h) ⟨by rw [own_nc], N356a, rfl⟩ (by decide) (by decide))
set_option maxRecDepth 65536 in
set_option maxHeartbeats 40000000 in
theorem rm_sc_0_3 {l : Launch} {Z : State} {a0 : Array Value} (hw : ∀ d ∈ tables_1, d.before a0 Z = true) (x b : Addr) (k : ClassId) (y0 y1 y2 : Int32) (wS : Value) (h0 : Heap) (O0 : Ext Z.heap h0) (cz : Int32) (SCS : Sta Z Z.heap "java/lang/String" "COMPACT_STRINGS" "Z" (.int cz)) (hcz : ¬ cz = (0 : Int32)) (hsf : wS.isRef = true) (SS : Sta Z Z.heap "jdk/internal/util/Preconditions" "SIOOBE_FORMATTER" "Ljava/util/function/BiFunction;" wS) (Fc : Fld Z h0 x "java/lang/String" "coder" "B" (.int 0)) (Ex : Exa Z h0 x "java/lang/String") (Fv : Fld Z h0 x "java/lang/String" "value" "[B" (.ref b)) (Vb : Arv Z h0 b k .byte (3 : Int32) [(.int y0.toInt8.toInt32), (.int y1.toInt8.toInt32), (.int y2.toInt8.toInt32)] (.int 0)) (h1 : ¬ (255 : Int32) < y0) (h2 : ¬ y0 < 0) :
    Con l (⟨"java/lang/String", "charAt", "(I)C"⟩ : MethodName) jdk_42_method_56_code 2 (some .char) ({ frames := 3, cells := 0, slots := 0, locals := 40 } : Room) Z #[(.ref x), (.int (0 : Int32))] h0 (fun v h L => v = some (.int y0) ∧ Fr Z.heap.size L ∧ h0 = h) := by
  refine Con.of (plainFor_of_name pn_0) (Ls := #[rv x, iv (0 : Int32)]) (fun m => efOf rfl) ?_
  intro p e s m below meth c T0 X0 hx hZ hby hml hown hnm hret hlk e0
  refine go (fun _ => XS.aloadN X0.here hx rfl (hb hby d24_0) rfl rfl) ?_
  show Ends p e below _ T0 (mkF m 1 #[rv x, iv (0 : Int32)] [(.ref x)])
  refine cVirt X0 hx hZ hown (by rw [hml]; rfl) e0 (hwi hw 151 rfl) (hwi hw 152 rfl) (hwi hw 154 rfl) (hwi hw 153 rfl) (hwi hw 2 rfl) (hwi hw 155 rfl) (notFace_of_selects (args := #[]) (mvT hZ (hwi hw 154 rfl))) x Ex [] [] rfl (rm_isLatin1 hw x _ O0 cz SCS hcz Fc) (hb hby d24_1) rfl (lenOf pd_23 rfl) (by decide) (by decide) (Nat.le_of_ble_eq_true rfl) (by decide) (by decide) ?_
  rintro v358 T358 h358 L358 X358 e358 ⟨rfl, N358, rfl⟩
  have N358a := Fr.app (Fr.nil _) N358
  show Ends p e below _ T358 (mkF m 4 #[rv x, iv (0 : Int32)] [(.int (1 : Int32))])
  refine go (fun _ => XS.ifNo X358.here hx rfl (hb hby d24_4) rfl (XT.i0_eq_f ((by decide) : ¬ ((1 : Int32) = (0 : Int32))))) ?_
  show Ends p e below _ T358 (mkF m 7 #[rv x, iv (0 : Int32)] [])
  refine go (fun _ => XS.aloadN X358.here hx rfl (hb hby d24_7) rfl rfl) ?_
  show Ends p e below _ T358 (mkF m 8 #[rv x, iv (0 : Int32)] [(.ref x)])
  obtain ⟨T359, X359, e359, s359⟩ := getF X358 hx hZ hown (host := "") (Or.inl (hwi hw 28 rfl)) Via.refl e358 Fv (g := (mkF m 8 #[rv x, iv (0 : Int32)] [(.ref x)])) rfl rfl (hb hby d24_8)
  refine go s359 ?_
  show Ends p e below _ T359 (mkF m 11 #[rv x, iv (0 : Int32)] [(.ref b)])
  refine go (fun _ => XS.iloadN X359.here hx rfl (hb hby d24_11) rfl) ?_
  show Ends p e below _ T359 (mkF m 12 #[rv x, iv (0 : Int32)] [(.int (0 : Int32)), (.ref b)])
  refine cStat X359 hx hZ hown (by rw [hml]; rfl) e359 (hwi hw 156 rfl) (hwi hw 157 rfl) (hwi hw 35 rfl) (hwi hw 158 rfl) [(.ref b), (.int (0 : Int32))] [] rfl (rm_l1c_0_3 hw b k y0 y1 y2 wS _ O0 hsf SS Vb) (hb hby d24_12) rfl (lenOf pd_24 rfl) (by decide) (by decide) (Nat.le_of_ble_eq_true rfl) (by decide) (by decide) ?_
  rintro v360 T360 h360 L360 X360 e360 ⟨rfl, N360, rfl⟩
  have N360a := Fr.app N358a N360
  show Ends p e below _ T360 (mkF m 15 #[rv x, iv (0 : Int32)] [(.int (y0.toInt8.toInt32 &&& (255 : Int32)).toUInt32.toUInt16.toUInt32.toInt32)])
  exact endN X360 hx hret (by simp) (hb hby d24_15) (lvN X360 hlk e360 (fun h => by rw [hret] at h; cases h) ⟨by rw [own_nc, own_back h1 h2], N360a, rfl⟩ (by decide) (by decide))
set_option maxRecDepth 65536 in
set_option maxHeartbeats 40000000 in
theorem rm_l1c_1_3 {l : Launch} {Z : State} {a0 : Array Value} (hw : ∀ d ∈ tables_1, d.before a0 Z = true) (b : Addr) (k : ClassId) (y0 y1 y2 : Int32) (wS : Value) (h0 : Heap) (O0 : Ext Z.heap h0) (hsf : wS.isRef = true) (SS : Sta Z Z.heap "jdk/internal/util/Preconditions" "SIOOBE_FORMATTER" "Ljava/util/function/BiFunction;" wS) (Vb : Arv Z h0 b k .byte (3 : Int32) [(.int y0.toInt8.toInt32), (.int y1.toInt8.toInt32), (.int y2.toInt8.toInt32)] (.int 0)) :
    Con l (⟨"java/lang/StringLatin1", "charAt", "([BI)C"⟩ : MethodName) jdk_43_method_2_code 2 (some .char) ({ frames := 2, cells := 0, slots := 0, locals := 27 } : Room) Z #[(.ref b), (.int (1 : Int32))] h0 (fun v h L => v = some (.int (y1.toInt8.toInt32 &&& (255 : Int32)).toUInt32.toUInt16.toUInt32.toInt32) ∧ Fr Z.heap.size L ∧ h0 = h) := by
  refine Con.of (plainFor_of_name pn_6) (Ls := #[rv b, iv (1 : Int32)]) (fun m => efOf rfl) ?_
  intro p e s m below meth c T0 X0 hx hZ hby hml hown hnm hret hlk e0
  refine go (fun _ => XS.iloadN X0.here hx rfl (hb hby d23_0) rfl) ?_
  refine go (fun _ => XS.aloadN X0.here hx rfl (hb hby d23_1) rfl rfl) ?_
  show Ends p e below _ T0 (mkF m 2 #[rv b, iv (1 : Int32)] [(.ref b), (.int (1 : Int32))])
  obtain ⟨cl361, A361, -, S361, M361, -⟩ := id Vb
  refine go (fun _ => X0.arraylength hx (cell := cl361) (by rw [e0]; exact A361.1) (State.isArrayOf_alike hZ.alike A361.2.1) (g := (mkF m 2 #[rv b, iv (1 : Int32)] [(.ref b), (.int (1 : Int32))])) rfl rfl (hb hby d23_2) _) ?_
  rw [len_of S361 M361]
  show Ends p e below _ T0 (mkF m 3 #[rv b, iv (1 : Int32)] [(.int (3 : Int32)), (.int (1 : Int32))])
  refine cStat X0 hx hZ hown (by rw [hml]; rfl) e0 (hwi hw 159 rfl) (hwi hw 160 rfl) (hwi hw 2 rfl) (hwi hw 161 rfl) [(.int (1 : Int32)), (.int (3 : Int32))] [] rfl (rm_sci hw (1 : Int32) (3 : Int32) wS _ O0 hsf SS (by decide) (by decide)) (hb hby d23_3) rfl (lenOf pd_22 rfl) (by decide) (by decide) (Nat.le_of_ble_eq_true rfl) (by decide) (by decide) ?_
  rintro v362 T362 h362 L362 X362 e362 ⟨rfl, N362, rfl⟩
  have N362a := Fr.app (Fr.nil _) N362
  show Ends p e below _ T362 (mkF m 6 #[rv b, iv (1 : Int32)] [])
  refine go (fun _ => XS.aloadN X362.here hx rfl (hb hby d23_6) rfl rfl) ?_
  refine go (fun _ => XS.iloadN X362.here hx rfl (hb hby d23_7) rfl) ?_
  show Ends p e below _ T362 (mkF m 8 #[rv b, iv (1 : Int32)] [(.int (1 : Int32)), (.ref b)])
  obtain ⟨cl363, A363, -, S363, M363, H363, -⟩ := id Vb
  have B363 := inb_of S363 (j := (1 : Int32)) (by decide)
  refine go (fun _ => X362.baloadBytes hx (j := (1 : Int32)) (v := (.int y1.toInt8.toInt32)) (by rw [e362]; exact A363.1) (State.isArrayOf_alike hZ.alike A363.2.1) A363.2.2 B363 (H363.at B363 rfl) (g := (mkF m 8 #[rv b, iv (1 : Int32)] [(.int (1 : Int32)), (.ref b)])) rfl rfl (hb hby d23_8) _) ?_
  show Ends p e below _ T362 (mkF m 9 #[rv b, iv (1 : Int32)] [(.int y1.toInt8.toInt32)])
  refine go (fun _ => XT.sipushV X362.here hx rfl (255 : Int32) (hb hby d23_9) (by decide)) ?_
  refine go (fun _ => XS.iand X362.here hx rfl (hb hby d23_12) rfl) ?_
  refine go (fun _ => XT.i2c X362.here hx rfl (hb hby d23_13) rfl) ?_
  show Ends p e below _ T362 (mkF m 14 #[rv b, iv (1 : Int32)] [(.int (y1.toInt8.toInt32 &&& (255 : Int32)).toUInt32.toUInt16.toUInt32.toInt32)])
  exact endN X362 hx hret (by simp) (hb hby d23_14) (lvN X362 hlk e362 (fun h => by rw [hret] at h; cases h) ⟨by rw [own_nc], N362a, rfl⟩ (by decide) (by decide))
set_option maxRecDepth 65536 in
set_option maxHeartbeats 40000000 in
theorem rm_sc_1_3 {l : Launch} {Z : State} {a0 : Array Value} (hw : ∀ d ∈ tables_1, d.before a0 Z = true) (x b : Addr) (k : ClassId) (y0 y1 y2 : Int32) (wS : Value) (h0 : Heap) (O0 : Ext Z.heap h0) (cz : Int32) (SCS : Sta Z Z.heap "java/lang/String" "COMPACT_STRINGS" "Z" (.int cz)) (hcz : ¬ cz = (0 : Int32)) (hsf : wS.isRef = true) (SS : Sta Z Z.heap "jdk/internal/util/Preconditions" "SIOOBE_FORMATTER" "Ljava/util/function/BiFunction;" wS) (Fc : Fld Z h0 x "java/lang/String" "coder" "B" (.int 0)) (Ex : Exa Z h0 x "java/lang/String") (Fv : Fld Z h0 x "java/lang/String" "value" "[B" (.ref b)) (Vb : Arv Z h0 b k .byte (3 : Int32) [(.int y0.toInt8.toInt32), (.int y1.toInt8.toInt32), (.int y2.toInt8.toInt32)] (.int 0)) (h1 : ¬ (255 : Int32) < y1) (h2 : ¬ y1 < 0) :
    Con l (⟨"java/lang/String", "charAt", "(I)C"⟩ : MethodName) jdk_42_method_56_code 2 (some .char) ({ frames := 3, cells := 0, slots := 0, locals := 40 } : Room) Z #[(.ref x), (.int (1 : Int32))] h0 (fun v h L => v = some (.int y1) ∧ Fr Z.heap.size L ∧ h0 = h) := by
  refine Con.of (plainFor_of_name pn_0) (Ls := #[rv x, iv (1 : Int32)]) (fun m => efOf rfl) ?_
  intro p e s m below meth c T0 X0 hx hZ hby hml hown hnm hret hlk e0
  refine go (fun _ => XS.aloadN X0.here hx rfl (hb hby d24_0) rfl rfl) ?_
  show Ends p e below _ T0 (mkF m 1 #[rv x, iv (1 : Int32)] [(.ref x)])
  refine cVirt X0 hx hZ hown (by rw [hml]; rfl) e0 (hwi hw 151 rfl) (hwi hw 152 rfl) (hwi hw 154 rfl) (hwi hw 153 rfl) (hwi hw 2 rfl) (hwi hw 155 rfl) (notFace_of_selects (args := #[]) (mvT hZ (hwi hw 154 rfl))) x Ex [] [] rfl (rm_isLatin1 hw x _ O0 cz SCS hcz Fc) (hb hby d24_1) rfl (lenOf pd_23 rfl) (by decide) (by decide) (Nat.le_of_ble_eq_true rfl) (by decide) (by decide) ?_
  rintro v364 T364 h364 L364 X364 e364 ⟨rfl, N364, rfl⟩
  have N364a := Fr.app (Fr.nil _) N364
  show Ends p e below _ T364 (mkF m 4 #[rv x, iv (1 : Int32)] [(.int (1 : Int32))])
  refine go (fun _ => XS.ifNo X364.here hx rfl (hb hby d24_4) rfl (XT.i0_eq_f ((by decide) : ¬ ((1 : Int32) = (0 : Int32))))) ?_
  show Ends p e below _ T364 (mkF m 7 #[rv x, iv (1 : Int32)] [])
  refine go (fun _ => XS.aloadN X364.here hx rfl (hb hby d24_7) rfl rfl) ?_
  show Ends p e below _ T364 (mkF m 8 #[rv x, iv (1 : Int32)] [(.ref x)])
  obtain ⟨T365, X365, e365, s365⟩ := getF X364 hx hZ hown (host := "") (Or.inl (hwi hw 28 rfl)) Via.refl e364 Fv (g := (mkF m 8 #[rv x, iv (1 : Int32)] [(.ref x)])) rfl rfl (hb hby d24_8)
  refine go s365 ?_
  show Ends p e below _ T365 (mkF m 11 #[rv x, iv (1 : Int32)] [(.ref b)])
  refine go (fun _ => XS.iloadN X365.here hx rfl (hb hby d24_11) rfl) ?_
  show Ends p e below _ T365 (mkF m 12 #[rv x, iv (1 : Int32)] [(.int (1 : Int32)), (.ref b)])
  refine cStat X365 hx hZ hown (by rw [hml]; rfl) e365 (hwi hw 156 rfl) (hwi hw 157 rfl) (hwi hw 35 rfl) (hwi hw 158 rfl) [(.ref b), (.int (1 : Int32))] [] rfl (rm_l1c_1_3 hw b k y0 y1 y2 wS _ O0 hsf SS Vb) (hb hby d24_12) rfl (lenOf pd_24 rfl) (by decide) (by decide) (Nat.le_of_ble_eq_true rfl) (by decide) (by decide) ?_
  rintro v366 T366 h366 L366 X366 e366 ⟨rfl, N366, rfl⟩
  have N366a := Fr.app N364a N366
  show Ends p e below _ T366 (mkF m 15 #[rv x, iv (1 : Int32)] [(.int (y1.toInt8.toInt32 &&& (255 : Int32)).toUInt32.toUInt16.toUInt32.toInt32)])
  exact endN X366 hx hret (by simp) (hb hby d24_15) (lvN X366 hlk e366 (fun h => by rw [hret] at h; cases h) ⟨by rw [own_nc, own_back h1 h2], N366a, rfl⟩ (by decide) (by decide))
set_option maxRecDepth 65536 in
set_option maxHeartbeats 40000000 in
theorem rm_l1c_2_3 {l : Launch} {Z : State} {a0 : Array Value} (hw : ∀ d ∈ tables_1, d.before a0 Z = true) (b : Addr) (k : ClassId) (y0 y1 y2 : Int32) (wS : Value) (h0 : Heap) (O0 : Ext Z.heap h0) (hsf : wS.isRef = true) (SS : Sta Z Z.heap "jdk/internal/util/Preconditions" "SIOOBE_FORMATTER" "Ljava/util/function/BiFunction;" wS) (Vb : Arv Z h0 b k .byte (3 : Int32) [(.int y0.toInt8.toInt32), (.int y1.toInt8.toInt32), (.int y2.toInt8.toInt32)] (.int 0)) :
    Con l (⟨"java/lang/StringLatin1", "charAt", "([BI)C"⟩ : MethodName) jdk_43_method_2_code 2 (some .char) ({ frames := 2, cells := 0, slots := 0, locals := 27 } : Room) Z #[(.ref b), (.int (2 : Int32))] h0 (fun v h L => v = some (.int (y2.toInt8.toInt32 &&& (255 : Int32)).toUInt32.toUInt16.toUInt32.toInt32) ∧ Fr Z.heap.size L ∧ h0 = h) := by
  refine Con.of (plainFor_of_name pn_6) (Ls := #[rv b, iv (2 : Int32)]) (fun m => efOf rfl) ?_
  intro p e s m below meth c T0 X0 hx hZ hby hml hown hnm hret hlk e0
  refine go (fun _ => XS.iloadN X0.here hx rfl (hb hby d23_0) rfl) ?_
  refine go (fun _ => XS.aloadN X0.here hx rfl (hb hby d23_1) rfl rfl) ?_
  show Ends p e below _ T0 (mkF m 2 #[rv b, iv (2 : Int32)] [(.ref b), (.int (2 : Int32))])
  obtain ⟨cl367, A367, -, S367, M367, -⟩ := id Vb
  refine go (fun _ => X0.arraylength hx (cell := cl367) (by rw [e0]; exact A367.1) (State.isArrayOf_alike hZ.alike A367.2.1) (g := (mkF m 2 #[rv b, iv (2 : Int32)] [(.ref b), (.int (2 : Int32))])) rfl rfl (hb hby d23_2) _) ?_
  rw [len_of S367 M367]
  show Ends p e below _ T0 (mkF m 3 #[rv b, iv (2 : Int32)] [(.int (3 : Int32)), (.int (2 : Int32))])
  refine cStat X0 hx hZ hown (by rw [hml]; rfl) e0 (hwi hw 159 rfl) (hwi hw 160 rfl) (hwi hw 2 rfl) (hwi hw 161 rfl) [(.int (2 : Int32)), (.int (3 : Int32))] [] rfl (rm_sci hw (2 : Int32) (3 : Int32) wS _ O0 hsf SS (by decide) (by decide)) (hb hby d23_3) rfl (lenOf pd_22 rfl) (by decide) (by decide) (Nat.le_of_ble_eq_true rfl) (by decide) (by decide) ?_
  rintro v368 T368 h368 L368 X368 e368 ⟨rfl, N368, rfl⟩
  have N368a := Fr.app (Fr.nil _) N368
  show Ends p e below _ T368 (mkF m 6 #[rv b, iv (2 : Int32)] [])
  refine go (fun _ => XS.aloadN X368.here hx rfl (hb hby d23_6) rfl rfl) ?_
  refine go (fun _ => XS.iloadN X368.here hx rfl (hb hby d23_7) rfl) ?_
  show Ends p e below _ T368 (mkF m 8 #[rv b, iv (2 : Int32)] [(.int (2 : Int32)), (.ref b)])
  obtain ⟨cl369, A369, -, S369, M369, H369, -⟩ := id Vb
  have B369 := inb_of S369 (j := (2 : Int32)) (by decide)
  refine go (fun _ => X368.baloadBytes hx (j := (2 : Int32)) (v := (.int y2.toInt8.toInt32)) (by rw [e368]; exact A369.1) (State.isArrayOf_alike hZ.alike A369.2.1) A369.2.2 B369 (H369.at B369 rfl) (g := (mkF m 8 #[rv b, iv (2 : Int32)] [(.int (2 : Int32)), (.ref b)])) rfl rfl (hb hby d23_8) _) ?_
  show Ends p e below _ T368 (mkF m 9 #[rv b, iv (2 : Int32)] [(.int y2.toInt8.toInt32)])
  refine go (fun _ => XT.sipushV X368.here hx rfl (255 : Int32) (hb hby d23_9) (by decide)) ?_
  refine go (fun _ => XS.iand X368.here hx rfl (hb hby d23_12) rfl) ?_
  refine go (fun _ => XT.i2c X368.here hx rfl (hb hby d23_13) rfl) ?_
  show Ends p e below _ T368 (mkF m 14 #[rv b, iv (2 : Int32)] [(.int (y2.toInt8.toInt32 &&& (255 : Int32)).toUInt32.toUInt16.toUInt32.toInt32)])
  exact endN X368 hx hret (by simp) (hb hby d23_14) (lvN X368 hlk e368 (fun h => by rw [hret] at h; cases h) ⟨by rw [own_nc], N368a, rfl⟩ (by decide) (by decide))
set_option maxRecDepth 65536 in
set_option maxHeartbeats 40000000 in
theorem rm_sc_2_3 {l : Launch} {Z : State} {a0 : Array Value} (hw : ∀ d ∈ tables_1, d.before a0 Z = true) (x b : Addr) (k : ClassId) (y0 y1 y2 : Int32) (wS : Value) (h0 : Heap) (O0 : Ext Z.heap h0) (cz : Int32) (SCS : Sta Z Z.heap "java/lang/String" "COMPACT_STRINGS" "Z" (.int cz)) (hcz : ¬ cz = (0 : Int32)) (hsf : wS.isRef = true) (SS : Sta Z Z.heap "jdk/internal/util/Preconditions" "SIOOBE_FORMATTER" "Ljava/util/function/BiFunction;" wS) (Fc : Fld Z h0 x "java/lang/String" "coder" "B" (.int 0)) (Ex : Exa Z h0 x "java/lang/String") (Fv : Fld Z h0 x "java/lang/String" "value" "[B" (.ref b)) (Vb : Arv Z h0 b k .byte (3 : Int32) [(.int y0.toInt8.toInt32), (.int y1.toInt8.toInt32), (.int y2.toInt8.toInt32)] (.int 0)) (h1 : ¬ (255 : Int32) < y2) (h2 : ¬ y2 < 0) :
    Con l (⟨"java/lang/String", "charAt", "(I)C"⟩ : MethodName) jdk_42_method_56_code 2 (some .char) ({ frames := 3, cells := 0, slots := 0, locals := 40 } : Room) Z #[(.ref x), (.int (2 : Int32))] h0 (fun v h L => v = some (.int y2) ∧ Fr Z.heap.size L ∧ h0 = h) := by
  refine Con.of (plainFor_of_name pn_0) (Ls := #[rv x, iv (2 : Int32)]) (fun m => efOf rfl) ?_
  intro p e s m below meth c T0 X0 hx hZ hby hml hown hnm hret hlk e0
  refine go (fun _ => XS.aloadN X0.here hx rfl (hb hby d24_0) rfl rfl) ?_
  show Ends p e below _ T0 (mkF m 1 #[rv x, iv (2 : Int32)] [(.ref x)])
  refine cVirt X0 hx hZ hown (by rw [hml]; rfl) e0 (hwi hw 151 rfl) (hwi hw 152 rfl) (hwi hw 154 rfl) (hwi hw 153 rfl) (hwi hw 2 rfl) (hwi hw 155 rfl) (notFace_of_selects (args := #[]) (mvT hZ (hwi hw 154 rfl))) x Ex [] [] rfl (rm_isLatin1 hw x _ O0 cz SCS hcz Fc) (hb hby d24_1) rfl (lenOf pd_23 rfl) (by decide) (by decide) (Nat.le_of_ble_eq_true rfl) (by decide) (by decide) ?_
  rintro v370 T370 h370 L370 X370 e370 ⟨rfl, N370, rfl⟩
  have N370a := Fr.app (Fr.nil _) N370
  show Ends p e below _ T370 (mkF m 4 #[rv x, iv (2 : Int32)] [(.int (1 : Int32))])
  refine go (fun _ => XS.ifNo X370.here hx rfl (hb hby d24_4) rfl (XT.i0_eq_f ((by decide) : ¬ ((1 : Int32) = (0 : Int32))))) ?_
  show Ends p e below _ T370 (mkF m 7 #[rv x, iv (2 : Int32)] [])
  refine go (fun _ => XS.aloadN X370.here hx rfl (hb hby d24_7) rfl rfl) ?_
  show Ends p e below _ T370 (mkF m 8 #[rv x, iv (2 : Int32)] [(.ref x)])
  obtain ⟨T371, X371, e371, s371⟩ := getF X370 hx hZ hown (host := "") (Or.inl (hwi hw 28 rfl)) Via.refl e370 Fv (g := (mkF m 8 #[rv x, iv (2 : Int32)] [(.ref x)])) rfl rfl (hb hby d24_8)
  refine go s371 ?_
  show Ends p e below _ T371 (mkF m 11 #[rv x, iv (2 : Int32)] [(.ref b)])
  refine go (fun _ => XS.iloadN X371.here hx rfl (hb hby d24_11) rfl) ?_
  show Ends p e below _ T371 (mkF m 12 #[rv x, iv (2 : Int32)] [(.int (2 : Int32)), (.ref b)])
  refine cStat X371 hx hZ hown (by rw [hml]; rfl) e371 (hwi hw 156 rfl) (hwi hw 157 rfl) (hwi hw 35 rfl) (hwi hw 158 rfl) [(.ref b), (.int (2 : Int32))] [] rfl (rm_l1c_2_3 hw b k y0 y1 y2 wS _ O0 hsf SS Vb) (hb hby d24_12) rfl (lenOf pd_24 rfl) (by decide) (by decide) (Nat.le_of_ble_eq_true rfl) (by decide) (by decide) ?_
  rintro v372 T372 h372 L372 X372 e372 ⟨rfl, N372, rfl⟩
  have N372a := Fr.app N370a N372
  show Ends p e below _ T372 (mkF m 15 #[rv x, iv (2 : Int32)] [(.int (y2.toInt8.toInt32 &&& (255 : Int32)).toUInt32.toUInt16.toUInt32.toInt32)])
  exact endN X372 hx hret (by simp) (hb hby d24_15) (lvN X372 hlk e372 (fun h => by rw [hret] at h; cases h) ⟨by rw [own_nc, own_back h1 h2], N372a, rfl⟩ (by decide) (by decide))
set_option maxRecDepth 65536 in
set_option maxHeartbeats 40000000 in
theorem rm_ed {l : Launch} {Z : State} {a0 : Array Value} (hw : ∀ d ∈ tables_1, d.before a0 Z = true) (a b x : Addr) (k : ClassId) (vs : List Value) (h0 : Heap) (F2 : Fld Z h0 a "java/util/ArrayList" "elementData" "[Ljava/lang/Object;" (.ref b)) (Vb : Arv Z h0 b k (.object "java/lang/Object") (10 : Int32) (Value.ref x :: vs) .null) :
    Con l (⟨"java/util/ArrayList", "elementData", "(I)Ljava/lang/Object;"⟩ : MethodName) jdk_38_method_18_code 2 (some (.object "java/lang/Object")) ({ frames := 0, cells := 0, slots := 0, locals := 0 } : Room) Z #[(.ref a), (.int (0 : Int32))] h0 (fun v h L => v = some (.ref x) ∧ Fr Z.heap.size L ∧ h0 = h) := by
  refine Con.of (plainFor_of_name pn_13) (Ls := #[rv a, iv (0 : Int32)]) (fun m => efOf rfl) ?_
  intro p e s m below meth c T0 X0 hx hZ hby hml hown hnm hret hlk e0
  refine go (fun _ => XS.aloadN X0.here hx rfl (hb hby d25_0) rfl rfl) ?_
  show Ends p e below _ T0 (mkF m 1 #[rv a, iv (0 : Int32)] [(.ref a)])
  obtain ⟨T373, X373, e373, s373⟩ := getF X0 hx hZ hown (host := "") (Or.inl (hwi hw 66 rfl)) Via.refl e0 F2 (g := (mkF m 1 #[rv a, iv (0 : Int32)] [(.ref a)])) rfl rfl (hb hby d25_1)
  refine go s373 ?_
  show Ends p e below _ T373 (mkF m 4 #[rv a, iv (0 : Int32)] [(.ref b)])
  refine go (fun _ => XS.iloadN X373.here hx rfl (hb hby d25_4) rfl) ?_
  show Ends p e below _ T373 (mkF m 5 #[rv a, iv (0 : Int32)] [(.int (0 : Int32)), (.ref b)])
  obtain ⟨cl374, A374, -, S374, M374, H374, -⟩ := id Vb
  have B374 := inb_of S374 (j := (0 : Int32)) (by decide)
  refine go (fun _ => X373.aaload hx (j := (0 : Int32)) (v := (.ref x)) (by rw [e373]; exact A374.1) (State.isArrayOf_alike hZ.alike A374.2.1) rfl A374.2.2 B374 (H374.at B374 rfl) (g := (mkF m 5 #[rv a, iv (0 : Int32)] [(.int (0 : Int32)), (.ref b)])) rfl rfl (hb hby d25_5) _) ?_
  show Ends p e below _ T373 (mkF m 6 #[rv a, iv (0 : Int32)] [(.ref x)])
  exact endA X373 hx hret rfl rfl (hb hby d25_6) (lvN X373 hlk e373 (fun h => by rw [hret] at h; cases h) ⟨rfl, (Fr.nil _), rfl⟩ (by decide) (by decide))
set_option maxRecDepth 65536 in
set_option maxHeartbeats 40000000 in
theorem rm_get0 {l : Launch} {Z : State} {a0 : Array Value} (hw : ∀ d ∈ tables_1, d.before a0 Z = true) (a b x : Addr) (k : ClassId) (n_ : Int32) (vs : List Value) (h0 : Heap) (E0 : Exa Z h0 a "java/util/ArrayList") (F2 : Fld Z h0 a "java/util/ArrayList" "elementData" "[Ljava/lang/Object;" (.ref b)) (F3 : Fld Z h0 a "java/util/ArrayList" "size" "I" (.int n_)) (Vb : Arv Z h0 b k (.object "java/lang/Object") (10 : Int32) (Value.ref x :: vs) .null) (hn : (0 : Int32) < n_) :
    Con l (⟨"java/util/ArrayList", "get", "(I)Ljava/lang/Object;"⟩ : MethodName) jdk_38_method_20_code 2 (some (.object "java/lang/Object")) ({ frames := 2, cells := 0, slots := 0, locals := 27 } : Room) Z #[(.ref a), (.int (0 : Int32))] h0 (fun v h L => v = some (.ref x) ∧ Fr Z.heap.size L ∧ h0 = h) := by
  refine Con.of (plainFor_of_name pn_13) (Ls := #[rv a, iv (0 : Int32)]) (fun m => efOf rfl) ?_
  intro p e s m below meth c T0 X0 hx hZ hby hml hown hnm hret hlk e0
  refine go (fun _ => XS.iloadN X0.here hx rfl (hb hby d26_0) rfl) ?_
  refine go (fun _ => XS.aloadN X0.here hx rfl (hb hby d26_1) rfl rfl) ?_
  show Ends p e below _ T0 (mkF m 2 #[rv a, iv (0 : Int32)] [(.ref a), (.int (0 : Int32))])
  obtain ⟨T375, X375, e375, s375⟩ := getF X0 hx hZ hown (host := "") (Or.inl (hwi hw 75 rfl)) Via.refl e0 F3 (g := (mkF m 2 #[rv a, iv (0 : Int32)] [(.ref a), (.int (0 : Int32))])) rfl rfl (hb hby d26_2)
  refine go s375 ?_
  show Ends p e below _ T375 (mkF m 5 #[rv a, iv (0 : Int32)] [(.int n_), (.int (0 : Int32))])
  refine cStat X375 hx hZ hown (by rw [hml]; rfl) e375 (hwi hw 122 rfl) (hwi hw 123 rfl) (hwi hw 124 rfl) (hwi hw 125 rfl) [(.int (0 : Int32)), (.int n_)] [] rfl (rm_oci hw (0 : Int32) n_ _ (by decide) hn) (hb hby d26_5) rfl (lenOf pd_14 rfl) (by decide) (by decide) (Nat.le_of_ble_eq_true rfl) (by decide) (by decide) ?_
  rintro v376 T376 h376 L376 X376 e376 ⟨rfl, N376, rfl⟩
  have N376a := Fr.app (Fr.nil _) N376
  show Ends p e below _ T376 (mkF m 8 #[rv a, iv (0 : Int32)] [(.int (0 : Int32))])
  refine go (fun _ => XT.pop X376.here hx rfl (hb hby d26_8) rfl rfl) ?_
  refine go (fun _ => XS.aloadN X376.here hx rfl (hb hby d26_9) rfl rfl) ?_
  refine go (fun _ => XS.iloadN X376.here hx rfl (hb hby d26_10) rfl) ?_
  show Ends p e below _ T376 (mkF m 11 #[rv a, iv (0 : Int32)] [(.int (0 : Int32)), (.ref a)])
  refine cVirt X376 hx hZ hown (by rw [hml]; rfl) e376 (hwi hw 130 rfl) (hwi hw 131 rfl) (hwi hw 133 rfl) (hwi hw 132 rfl) (hwi hw 46 rfl) (hwi hw 134 rfl) (notFace_of_selects (args := #[]) (mvT hZ (hwi hw 133 rfl))) a E0 [(.int (0 : Int32))] [] rfl (rm_ed hw a b x k vs _ F2 Vb) (hb hby d26_11) rfl (lenOf pd_25 rfl) (by decide) (by decide) (Nat.le_of_ble_eq_true rfl) (by decide) (by decide) ?_
  rintro v377 T377 h377 L377 X377 e377 ⟨rfl, N377, rfl⟩
  have N377a := Fr.app N376a N377
  show Ends p e below _ T377 (mkF m 14 #[rv a, iv (0 : Int32)] [(.ref x)])
  exact endA X377 hx hret rfl rfl (hb hby d26_14) (lvN X377 hlk e377 (fun h => by rw [hret] at h; cases h) ⟨rfl, N377a, rfl⟩ (by decide) (by decide))
set_option maxRecDepth 65536 in
set_option maxHeartbeats 40000000 in
theorem rm_size {l : Launch} {Z : State} {a0 : Array Value} (hw : ∀ d ∈ tables_1, d.before a0 Z = true) (a : Addr) (n_ : Int32) (h0 : Heap) (F3 : Fld Z h0 a "java/util/ArrayList" "size" "I" (.int n_)) :
    Con l (⟨"java/util/ArrayList", "size", "()I"⟩ : MethodName) jdk_38_method_8_code 1 (some .int) ({ frames := 0, cells := 0, slots := 0, locals := 0 } : Room) Z #[(.ref a)] h0 (fun v h L => v = some (.int n_) ∧ Fr Z.heap.size L ∧ h0 = h) := by
  refine Con.of (plainFor_of_name pn_13) (Ls := #[rv a]) (fun m => efOf rfl) ?_
  intro p e s m below meth c T0 X0 hx hZ hby hml hown hnm hret hlk e0
  refine go (fun _ => XS.aloadN X0.here hx rfl (hb hby d27_0) rfl rfl) ?_
  show Ends p e below _ T0 (mkF m 1 #[rv a] [(.ref a)])
  obtain ⟨T378, X378, e378, s378⟩ := getF X0 hx hZ hown (host := "") (Or.inl (hwi hw 75 rfl)) Via.refl e0 F3 (g := (mkF m 1 #[rv a] [(.ref a)])) rfl rfl (hb hby d27_1)
  refine go s378 ?_
  show Ends p e below _ T378 (mkF m 4 #[rv a] [(.int n_)])
  exact endI X378 hx hret (hb hby d27_4) (lvN X378 hlk e378 (fun h => by rw [hret] at h; cases h) ⟨rfl, (Fr.nil _), rfl⟩ (by decide) (by decide))
set_option maxRecDepth 65536 in
set_option maxHeartbeats 40000000 in
theorem rm_pg {l : Launch} {Z : State} {a0 : Array Value} (hw : ∀ d ∈ tables_1, d.before a0 Z = true) (a : Addr) (x : Addr) (h0 : Heap) (O0 : Ext Z.heap h0) (f0 : Z.heap.size ≤ a) (E0 : Exa Z h0 a "com/example/admit/admit/command/Program") (F_command : Fld Z h0 a "com/example/admit/admit/command/Program" "command" "Ljava/util/List;" .null)   :
    Con l (⟨"com/example/admit/admit/command/Program", "<init>", "(Ljava/util/List;)V"⟩ : MethodName) prog_6_method_1_code 2 none ({ frames := 1, cells := 0, slots := 0, locals := 12 } : Room) Z #[(.ref a), (.ref x)] h0 (fun v h L => v = none ∧ Fr Z.heap.size L ∧ Keep h0 h [a] ∧ Fld Z h a "com/example/admit/admit/command/Program" "command" "Ljava/util/List;" (.ref x)) := by
  refine Con.of (plainFor_of_name pn_26) (Ls := #[rv a, rv x]) (fun m => efOf rfl) ?_
  intro p e s m below meth c T0 X0 hx hZ hby hml hown hnm hret hlk e0
  refine go (fun _ => XS.aloadN X0.here hx rfl (hb hby d28_0) rfl rfl) ?_
  show Ends p e below _ T0 (mkF m 1 #[rv a, rv x] [(.ref a)])
  obtain ⟨T379, X379, e379, s379⟩ := initO X0 hx hZ hown (hwi hw 105 rfl) (hwi hw 12 rfl) (hwi hw 13 rfl) e0 (g := (mkF m 1 #[rv a, rv x] [(.ref a)])) rfl (by rw [hml]; rfl) rfl (hb hby d28_1) (by decide) (W := 0) (by show 2 * 0 + _ ≤ _; exact Nat.le_of_eq rfl) (by decide)
  refine go s379 ?_
  show Ends p e below _ T379 (mkF m 4 #[rv a, rv x] [])
  refine go (fun _ => XS.aloadN X379.here hx rfl (hb hby d28_4) rfl rfl) ?_
  refine go (fun _ => XS.aloadN X379.here hx rfl (hb hby d28_5) rfl rfl) ?_
  show Ends p e below _ T379 (mkF m 6 #[rv a, rv x] [(.ref x), (.ref a)])
  obtain ⟨T380, h380, X380, e380, W380, s380⟩ := putF X379 hx hZ hown (host := "") (Or.inl (hwi hw 106 rfl)) Via.refl e379 F_command E0 (Or.inr ⟨(hwi hw 107 rfl), rfl, hnm⟩) (hwi hw 100 rfl) (ty := (.object "java/util/List")) (by decide) rfl rfl (g := (mkF m 6 #[rv a, rv x] [(.ref x), (.ref a)])) rfl rfl (hb hby d28_6)
  have N380 := Fr.snoc X380 (Fr.nil _) f0
  have O381 : Ext Z.heap h380 := xw O0 W380 f0
  refine go s380 ?_
  show Ends p e below _ T380 (mkF m 9 #[rv a, rv x] [])
  have K382 : Keep h0 h380 [a] := (Keep.wr (Keep.refl _ _) W380 (Or.inl (List.mem_of_getElem? (i := 0) rfl)))
  have F383 := (Fld.same W380 F_command)
  exact endV X380 hx hret (hb hby d28_9) (lvN X380 hlk e380 (fun _ => rfl) ⟨rfl, N380, K382, F383⟩ (by decide) (by decide))
set_option maxRecDepth 65536 in
set_option maxHeartbeats 40000000 in
theorem rm_name {l : Launch} {Z : State} {a0 : Array Value} (hw : ∀ d ∈ tables_1, d.before a0 Z = true) (q_ a b x : Addr) (k : ClassId) (n_ : Int32) (vs : List Value) (h0 : Heap) (Fq : Fld Z h0 q_ "com/example/admit/admit/command/Program" "command" "Ljava/util/List;" (.ref a)) (Ex : Exa Z h0 x "java/lang/String") (E0 : Exa Z h0 a "java/util/ArrayList") (F2 : Fld Z h0 a "java/util/ArrayList" "elementData" "[Ljava/lang/Object;" (.ref b)) (F3 : Fld Z h0 a "java/util/ArrayList" "size" "I" (.int n_)) (Vb : Arv Z h0 b k (.object "java/lang/Object") (10 : Int32) (Value.ref x :: vs) .null) (hn : (0 : Int32) < n_) :
    Con l (⟨"com/example/admit/admit/command/Program", "name", "()Ljava/lang/String;"⟩ : MethodName) prog_6_method_7_code 1 (some (.object "java/lang/String")) ({ frames := 3, cells := 0, slots := 0, locals := 40 } : Room) Z #[(.ref q_)] h0 (fun v h L => v = some (.ref x) ∧ Fr Z.heap.size L ∧ h0 = h) := by
  refine Con.of (plainFor_of_name pn_26) (Ls := #[rv q_]) (fun m => efOf rfl) ?_
  intro p e s m below meth c T0 X0 hx hZ hby hml hown hnm hret hlk e0
  refine go (fun _ => XS.aloadN X0.here hx rfl (hb hby d29_0) rfl rfl) ?_
  show Ends p e below _ T0 (mkF m 1 #[rv q_] [(.ref q_)])
  obtain ⟨T384, X384, e384, s384⟩ := getF X0 hx hZ hown (host := "") (Or.inl (hwi hw 106 rfl)) Via.refl e0 Fq (g := (mkF m 1 #[rv q_] [(.ref q_)])) rfl rfl (hb hby d29_1)
  refine go s384 ?_
  show Ends p e below _ T384 (mkF m 4 #[rv q_] [(.ref a)])
  refine go (fun _ => XT.iconstV X384.here hx rfl (0 : Int32) (hb hby d29_4) (by decide)) ?_
  show Ends p e below _ T384 (mkF m 5 #[rv q_] [(.int (0 : Int32)), (.ref a)])
  refine cFace X384 hx hZ hown (by rw [hml]; rfl) e384 (hwi hw 113 rfl) (hwi hw 114 rfl) (mvT hZ (hwi hw 115 rfl)) (hwi hw 116 rfl) (hwi hw 117 rfl) (hwi hw 118 rfl) (mvT hZ (hwi hw 119 rfl)) (hwi hw 120 rfl) (hwi hw 46 rfl) (hwi hw 121 rfl) a E0 [(.int (0 : Int32))] [] rfl (rm_get0 hw a b x k n_ vs _ E0 F2 F3 Vb hn) (hb hby d29_5) rfl (lenOf pd_25 rfl) (by decide) (by decide) (Nat.le_of_ble_eq_true rfl) (by decide) (by decide) ?_
  rintro v385 T385 h385 L385 X385 e385 ⟨rfl, N385, rfl⟩
  have N385a := Fr.app (Fr.nil _) N385
  show Ends p e below _ T385 (mkF m 10 #[rv q_] [(.ref x)])
  obtain ⟨T386, X386, e386, s386⟩ := castY X385 hx hZ hown (hwi hw 135 rfl) e385 (Ins.self Ex) (g := (mkF m 10 #[rv q_] [(.ref x)])) rfl rfl (hb hby d29_10)
  refine go s386 ?_
  show Ends p e below _ T386 (mkF m 13 #[rv q_] [(.ref x)])
  exact endA X386 hx hret rfl rfl (hb hby d29_13) (lvN X386 hlk e386 (fun h => by rw [hret] at h; cases h) ⟨rfl, N385a, rfl⟩ (by decide) (by decide))
set_option maxRecDepth 65536 in
set_option maxHeartbeats 40000000 in
theorem rm_law {l : Launch} {Z : State} {a0 : Array Value} (hw : ∀ d ∈ tables_1, d.before a0 Z = true) (i0 i1 : Int32) (aD : Addr) (kD : ClassId) (wS : Value) (h0 : Heap) (O0 : Ext Z.heap h0) (cz : Int32) (SCS : Sta Z Z.heap "java/lang/String" "COMPACT_STRINGS" "Z" (.int cz)) (hcz : ¬ cz = (0 : Int32)) (SD : Sta Z Z.heap "java/util/ArrayList" "DEFAULTCAPACITY_EMPTY_ELEMENTDATA" "[Ljava/lang/Object;" (.ref aD)) (VD : Arv Z Z.heap aD kD (.object "java/lang/Object") (0 : Int32) [] .null) (hsf : wS.isRef = true) (SS : Sta Z Z.heap "jdk/internal/util/Preconditions" "SIOOBE_FORMATTER" "Ljava/util/function/BiFunction;" wS) :
    ConW l x code maxLocals ret room_1 Z own_EL #[(.int i0), (.int i1)] h0 (fun v h L => v = some (.int 1) ∧ Fr Z.heap.size L) := by
  refine ConW.of (plainFor_of_name pn_27) (Ls := #[iv i0, iv i1, .unset, .unset, .unset, .unset, .unset, .unset, .unset, .unset, .unset, .unset, .unset, .unset, .unset]) (fun m => efOf rfl) ?_
  intro p e s m below meth c T0 X0 hx hZ hby hml hown hnm hret hlk e0 hs0 hS hk H0
  have hml : c.maxLocals = 15 := hml
  refine go (fun _ => XS.iloadN X0.here hx rfl (hb hby at_0) rfl) ?_
  refine go (fun _ => XT.sipushV X0.here hx rfl (255 : Int32) (hb hby at_1) (by decide)) ?_
  refine go (fun _ => XS.iand X0.here hx rfl (hb hby at_4) rfl) ?_
  refine go (fun _ => XT.i2c X0.here hx rfl (hb hby at_5) rfl) ?_
  show Ends p e below _ T0 (mkF m 6 #[iv i0, iv i1, .unset, .unset, .unset, .unset, .unset, .unset, .unset, .unset, .unset, .unset, .unset, .unset, .unset] [(.int (i0 &&& (255 : Int32)).toUInt32.toUInt16.toUInt32.toInt32)])
  obtain ⟨ch387, hch387⟩ : ∃ z : Int32, z = (i0 &&& (255 : Int32)).toUInt32.toUInt16.toUInt32.toInt32 := ⟨_, rfl⟩
  have lc387 : ¬ (255 : Int32) < ch387 := by rw [hch387]; exact (own_ch _).1
  have nc387 : nar .char ch387 = ch387 := by rw [hch387]; exact own_nc _
  rw [← hch387]
  show Ends p e below _ T0 (mkF m 6 #[iv i0, iv i1, .unset, .unset, .unset, .unset, .unset, .unset, .unset, .unset, .unset, .unset, .unset, .unset, .unset] [(.int ch387)])
  have gc387 : ¬ ch387 < 0 := by rw [hch387]; exact (own_ch _).2
  refine go (fun _ => XS.istoreN X0.here hx rfl (hb hby at_6) rfl (l' := #[iv i0, iv i1, iv ch387, .unset, .unset, .unset, .unset, .unset, .unset, .unset, .unset, .unset, .unset, .unset, .unset]) rfl) ?_
  refine go (fun _ => XS.iloadN X0.here hx rfl (hb hby at_7) rfl) ?_
  refine go (fun _ => XT.bipushV X0.here hx rfl (8 : Int32) (hb hby at_8) (by decide)) ?_
  refine go (fun _ => XT.iushr X0.here hx rfl (hb hby at_10) rfl) ?_
  refine go (fun _ => XT.sipushV X0.here hx rfl (255 : Int32) (hb hby at_11) (by decide)) ?_
  refine go (fun _ => XS.iand X0.here hx rfl (hb hby at_14) rfl) ?_
  show Ends p e below _ T0 (mkF m 15 #[iv i0, iv i1, iv ch387, .unset, .unset, .unset, .unset, .unset, .unset, .unset, .unset, .unset, .unset, .unset, .unset] [(.int ((XT.ushr i0 (8 : Int32)) &&& (255 : Int32)))])
  refine go (fun _ => XT.i2c X0.here hx rfl (hb hby at_15) rfl) ?_
  show Ends p e below _ T0 (mkF m 16 #[iv i0, iv i1, iv ch387, .unset, .unset, .unset, .unset, .unset, .unset, .unset, .unset, .unset, .unset, .unset, .unset] [(.int ((XT.ushr i0 (8 : Int32)) &&& (255 : Int32)).toUInt32.toUInt16.toUInt32.toInt32)])
  obtain ⟨ch388, hch388⟩ : ∃ z : Int32, z = ((XT.ushr i0 (8 : Int32)) &&& (255 : Int32)).toUInt32.toUInt16.toUInt32.toInt32 := ⟨_, rfl⟩
  have lc388 : ¬ (255 : Int32) < ch388 := by rw [hch388]; exact (own_ch _).1
  have nc388 : nar .char ch388 = ch388 := by rw [hch388]; exact own_nc _
  rw [← hch388]
  show Ends p e below _ T0 (mkF m 16 #[iv i0, iv i1, iv ch387, .unset, .unset, .unset, .unset, .unset, .unset, .unset, .unset, .unset, .unset, .unset, .unset] [(.int ch388)])
  have gc388 : ¬ ch388 < 0 := by rw [hch388]; exact (own_ch _).2
  refine go (fun _ => XS.istoreN X0.here hx rfl (hb hby at_16) rfl (l' := #[iv i0, iv i1, iv ch387, iv ch388, .unset, .unset, .unset, .unset, .unset, .unset, .unset, .unset, .unset, .unset, .unset]) rfl) ?_
  refine go (fun _ => XS.iloadN X0.here hx rfl (hb hby at_17) rfl) ?_
  refine go (fun _ => XT.bipushV X0.here hx rfl (16 : Int32) (hb hby at_18) (by decide)) ?_
  refine go (fun _ => XT.iushr X0.here hx rfl (hb hby at_20) rfl) ?_
  refine go (fun _ => XT.sipushV X0.here hx rfl (255 : Int32) (hb hby at_21) (by decide)) ?_
  refine go (fun _ => XS.iand X0.here hx rfl (hb hby at_24) rfl) ?_
  show Ends p e below _ T0 (mkF m 25 #[iv i0, iv i1, iv ch387, iv ch388, .unset, .unset, .unset, .unset, .unset, .unset, .unset, .unset, .unset, .unset, .unset] [(.int ((XT.ushr i0 (16 : Int32)) &&& (255 : Int32)))])
  refine go (fun _ => XT.i2c X0.here hx rfl (hb hby at_25) rfl) ?_
  show Ends p e below _ T0 (mkF m 26 #[iv i0, iv i1, iv ch387, iv ch388, .unset, .unset, .unset, .unset, .unset, .unset, .unset, .unset, .unset, .unset, .unset] [(.int ((XT.ushr i0 (16 : Int32)) &&& (255 : Int32)).toUInt32.toUInt16.toUInt32.toInt32)])
  obtain ⟨ch389, hch389⟩ : ∃ z : Int32, z = ((XT.ushr i0 (16 : Int32)) &&& (255 : Int32)).toUInt32.toUInt16.toUInt32.toInt32 := ⟨_, rfl⟩
  have lc389 : ¬ (255 : Int32) < ch389 := by rw [hch389]; exact (own_ch _).1
  have nc389 : nar .char ch389 = ch389 := by rw [hch389]; exact own_nc _
  rw [← hch389]
  show Ends p e below _ T0 (mkF m 26 #[iv i0, iv i1, iv ch387, iv ch388, .unset, .unset, .unset, .unset, .unset, .unset, .unset, .unset, .unset, .unset, .unset] [(.int ch389)])
  have gc389 : ¬ ch389 < 0 := by rw [hch389]; exact (own_ch _).2
  refine go (fun _ => XS.istore X0.here hx rfl (hb hby at_26) rfl (l' := #[iv i0, iv i1, iv ch387, iv ch388, iv ch389, .unset, .unset, .unset, .unset, .unset, .unset, .unset, .unset, .unset, .unset]) rfl) ?_
  refine go (fun _ => XS.iloadN X0.here hx rfl (hb hby at_28) rfl) ?_
  refine go (fun _ => XT.bipushV X0.here hx rfl (24 : Int32) (hb hby at_29) (by decide)) ?_
  refine go (fun _ => XT.iushr X0.here hx rfl (hb hby at_31) rfl) ?_
  refine go (fun _ => XT.sipushV X0.here hx rfl (255 : Int32) (hb hby at_32) (by decide)) ?_
  refine go (fun _ => XS.iand X0.here hx rfl (hb hby at_35) rfl) ?_
  show Ends p e below _ T0 (mkF m 36 #[iv i0, iv i1, iv ch387, iv ch388, iv ch389, .unset, .unset, .unset, .unset, .unset, .unset, .unset, .unset, .unset, .unset] [(.int ((XT.ushr i0 (24 : Int32)) &&& (255 : Int32)))])
  refine go (fun _ => XT.i2c X0.here hx rfl (hb hby at_36) rfl) ?_
  show Ends p e below _ T0 (mkF m 37 #[iv i0, iv i1, iv ch387, iv ch388, iv ch389, .unset, .unset, .unset, .unset, .unset, .unset, .unset, .unset, .unset, .unset] [(.int ((XT.ushr i0 (24 : Int32)) &&& (255 : Int32)).toUInt32.toUInt16.toUInt32.toInt32)])
  obtain ⟨ch390, hch390⟩ : ∃ z : Int32, z = ((XT.ushr i0 (24 : Int32)) &&& (255 : Int32)).toUInt32.toUInt16.toUInt32.toInt32 := ⟨_, rfl⟩
  have lc390 : ¬ (255 : Int32) < ch390 := by rw [hch390]; exact (own_ch _).1
  have nc390 : nar .char ch390 = ch390 := by rw [hch390]; exact own_nc _
  rw [← hch390]
  show Ends p e below _ T0 (mkF m 37 #[iv i0, iv i1, iv ch387, iv ch388, iv ch389, .unset, .unset, .unset, .unset, .unset, .unset, .unset, .unset, .unset, .unset] [(.int ch390)])
  have gc390 : ¬ ch390 < 0 := by rw [hch390]; exact (own_ch _).2
  refine go (fun _ => XS.istore X0.here hx rfl (hb hby at_37) rfl (l' := #[iv i0, iv i1, iv ch387, iv ch388, iv ch389, iv ch390, .unset, .unset, .unset, .unset, .unset, .unset, .unset, .unset, .unset]) rfl) ?_
  refine go (fun _ => XS.iloadN X0.here hx rfl (hb hby at_39) rfl) ?_
  refine go (fun _ => XT.iconstV X0.here hx rfl (3 : Int32) (hb hby at_40) (by decide)) ?_
  refine go (fun _ => XS.iand X0.here hx rfl (hb hby at_41) rfl) ?_
  show Ends p e below _ T0 (mkF m 42 #[iv i0, iv i1, iv ch387, iv ch388, iv ch389, iv ch390, .unset, .unset, .unset, .unset, .unset, .unset, .unset, .unset, .unset] [(.int (i1 &&& (3 : Int32)))])
  rcases own_q4 i1 with q391 | q391 | q391 | q391
  · rw [q391]
    show Ends p e below _ T0 (mkF m 42 #[iv i0, iv i1, iv ch387, iv ch388, iv ch389, iv ch390, .unset, .unset, .unset, .unset, .unset, .unset, .unset, .unset, .unset] [(.int (0 : Int32))])
    refine go (fun _ => XS.istore X0.here hx rfl (hb hby at_42) rfl (l' := #[iv i0, iv i1, iv ch387, iv ch388, iv ch389, iv ch390, iv (0 : Int32), .unset, .unset, .unset, .unset, .unset, .unset, .unset, .unset]) rfl) ?_
    refine go (fun _ => XS.iloadN X0.here hx rfl (hb hby at_44) rfl) ?_
    refine go (fun _ => XT.iconstV X0.here hx rfl (2 : Int32) (hb hby at_45) (by decide)) ?_
    refine go (fun _ => XT.iushr X0.here hx rfl (hb hby at_46) rfl) ?_
    refine go (fun _ => XT.iconstV X0.here hx rfl (3 : Int32) (hb hby at_47) (by decide)) ?_
    refine go (fun _ => XS.iand X0.here hx rfl (hb hby at_48) rfl) ?_
    show Ends p e below _ T0 (mkF m 49 #[iv i0, iv i1, iv ch387, iv ch388, iv ch389, iv ch390, iv (0 : Int32), .unset, .unset, .unset, .unset, .unset, .unset, .unset, .unset] [(.int ((XT.ushr i1 (2 : Int32)) &&& (3 : Int32)))])
    refine go (fun _ => XT.iconstV X0.here hx rfl (1 : Int32) (hb hby at_49) (by decide)) ?_
    refine go (fun _ => XS.iadd X0.here hx rfl (hb hby at_50) rfl) ?_
    refine go (fun _ => XS.istore X0.here hx rfl (hb hby at_51) rfl (l' := #[iv i0, iv i1, iv ch387, iv ch388, iv ch389, iv ch390, iv (0 : Int32), iv (((XT.ushr i1 (2 : Int32)) &&& (3 : Int32)) + (1 : Int32)), .unset, .unset, .unset, .unset, .unset, .unset, .unset]) rfl) ?_
    refine go (fun _ => XS.iload X0.here hx rfl (hb hby at_53) rfl) ?_
    show Ends p e below _ T0 (mkF m 55 #[iv i0, iv i1, iv ch387, iv ch388, iv ch389, iv ch390, iv (0 : Int32), iv (((XT.ushr i1 (2 : Int32)) &&& (3 : Int32)) + (1 : Int32)), .unset, .unset, .unset, .unset, .unset, .unset, .unset] [(.int (0 : Int32))])
    refine go (fun _ => XS.ifNo X0.here hx rfl (hb hby at_55) rfl (XT.i0_ne_f ((by decide) : (0 : Int32) = (0 : Int32)))) ?_
    show Ends p e below _ T0 (mkF m 58 #[iv i0, iv i1, iv ch387, iv ch388, iv ch389, iv ch390, iv (0 : Int32), iv (((XT.ushr i1 (2 : Int32)) &&& (3 : Int32)) + (1 : Int32)), .unset, .unset, .unset, .unset, .unset, .unset, .unset] [])
    obtain ⟨T392, h392, X392, e392, E392, A392, D392, U392, s392⟩ := newO X0 hx hZ hown (hwi hw 0 rfl) (hwi hw 1 rfl) (hwi hw 2 rfl) e0 (g := (mkF m 58 #[iv i0, iv i1, iv ch387, iv ch388, iv ch389, iv ch390, iv (0 : Int32), iv (((XT.ushr i1 (2 : Int32)) &&& (3 : Int32)) + (1 : Int32)), .unset, .unset, .unset, .unset, .unset, .unset, .unset] [])) rfl (hb hby at_58) (by decide) (by decide)
    obtain ⟨a392, g392⟩ : ∃ z : Addr, z = h0.size := ⟨_, rfl⟩
    have f392 : Z.heap.size ≤ a392 := by rw [g392]; exact (O0).1
    rw [← g392] at A392 D392 U392 s392
    have C393 : CHr Z own_EL s.vm h0 s.vm h392 := CHr.ext E392 H0.1
    have hk := Nat.le_trans hk C393.2.1
    have H393 := H0.trans C393
    have O394 : Ext Z.heap h392 := xx O0 E392
    have SF392 : Safe Z own_EL s.vm h392 a392 := Safe.ext E392 H0.1 (Safe.new (by rw [g392]; exact Nat.le_refl _))
    refine go s392 ?_
    show Ends p e below _ T392 (mkF m 61 #[iv i0, iv i1, iv ch387, iv ch388, iv ch389, iv ch390, iv (0 : Int32), iv (((XT.ushr i1 (2 : Int32)) &&& (3 : Int32)) + (1 : Int32)), .unset, .unset, .unset, .unset, .unset, .unset, .unset] [(.ref a392)])
    refine go (fun _ => XS.dup X392.here hx rfl (hb hby at_61) rfl rfl) ?_
    refine go (fun _ => XT.iconstV X392.here hx rfl (0 : Int32) (hb hby at_62) (by decide)) ?_
    show Ends p e below _ T392 (mkF m 63 #[iv i0, iv i1, iv ch387, iv ch388, iv ch389, iv ch390, iv (0 : Int32), iv (((XT.ushr i1 (2 : Int32)) &&& (3 : Int32)) + (1 : Int32)), .unset, .unset, .unset, .unset, .unset, .unset, .unset] [(.int (0 : Int32)), (.ref a392), (.ref a392)])
    obtain ⟨T395, h395, k395, X395, e395, E395, A395, s395⟩ := newP X392 hx hZ (hwi hw 3 rfl) e392 (g := (mkF m 63 #[iv i0, iv i1, iv ch387, iv ch388, iv ch389, iv ch390, iv (0 : Int32), iv (((XT.ushr i1 (2 : Int32)) &&& (3 : Int32)) + (1 : Int32)), .unset, .unset, .unset, .unset, .unset, .unset, .unset] [(.int (0 : Int32)), (.ref a392), (.ref a392)])) rfl (hb hby at_63) rfl (by decide) (cap := 0) (by decide) (by decide) (by decide) (by decide)
    obtain ⟨a395, g395⟩ : ∃ z : Addr, z = h392.size := ⟨_, rfl⟩
    have n396 : a392 ≠ a395 := fun q => absurd (A392.lt) (by rw [q, g395]; exact Nat.lt_irrefl _)
    have f395 : Z.heap.size ≤ a395 := by rw [g395]; exact (O394).1
    rw [← g395] at A395 s395
    have C397 : CHr Z own_EL s.vm h392 s.vm h395 := CHr.ext E395 H393.1
    have hk := Nat.le_trans hk C397.2.1
    have H397 := H393.trans C397
    have O398 : Ext Z.heap h395 := xx O394 E395
    have SF395 : Safe Z own_EL s.vm h395 a395 := Safe.ext E395 H393.1 (Safe.new (by rw [g395]; exact Nat.le_refl _))
    have V395 : Arv Z h395 a395 k395 .char (0 : Int32) [] (.int 0) := Arv.pad (Arv.new A395 (by decide)) (pad_rep [] _ 0)
    refine go s395 ?_
    show Ends p e below _ T395 (mkF m 65 #[iv i0, iv i1, iv ch387, iv ch388, iv ch389, iv ch390, iv (0 : Int32), iv (((XT.ushr i1 (2 : Int32)) &&& (3 : Int32)) + (1 : Int32)), .unset, .unset, .unset, .unset, .unset, .unset, .unset] [(.ref a395), (.ref a392), (.ref a392)])
    have F399 := (Exa.ext E395 A392)
    have F400 := (Fld.ext E395 (D392 (Or.inr (hwi hw 29 rfl)) (ty := (.array .byte)) (by decide)))
    have F401 := (Fld.ext E395 (D392 (Or.inr (hwi hw 27 rfl)) (ty := .byte) (by decide)))
    refine cInitW X395 hx hZ hown (by rw [hml]; rfl) e395 (own_EW hw) hS hk H397.1 (hwi hw 4 rfl) (hwi hw 5 rfl) (hwi hw 2 rfl) (hwi hw 6 rfl) a392 [(.ref a395)] [(.ref a392)] rfl (rm_new1_0 hw a392 a395 k395 _ O398 f392 F399 F400 F401 V395 n396) (hb hby at_65) rfl (lenOf pd_28 rfl) rfl (by decide) (by decide) (Nat.le_of_ble_eq_true rfl) (by decide) (by decide) ?_
    rintro v402 T402 h402 L402 k402w X402 e402 hS hk hZ hown C402w ⟨b402, k402, rfl, N402, K402, Fv402, Fc402, V402, nb402⟩
    have N402a := Fr.app (Fr.nil _) N402
    have H403 := H397.trans C402w
    have O404 : Ext Z.heap h402 := xk O398 K402 (allS f392 all0)
    show Ends p e below _ T402 (mkF m 68 #[iv i0, iv i1, iv ch387, iv ch388, iv ch389, iv ch390, iv (0 : Int32), iv (((XT.ushr i1 (2 : Int32)) &&& (3 : Int32)) + (1 : Int32)), .unset, .unset, .unset, .unset, .unset, .unset, .unset] [(.ref a392)])
    refine go (fun _ => XS.astore X402.here hx rfl (hb hby at_68) rfl rfl (l' := #[iv i0, iv i1, iv ch387, iv ch388, iv ch389, iv ch390, iv (0 : Int32), iv (((XT.ushr i1 (2 : Int32)) &&& (3 : Int32)) + (1 : Int32)), rv a392, .unset, .unset, .unset, .unset, .unset, .unset]) rfl) ?_
    refine go (fun _ => XS.goto X402.here hx rfl (pc0 := 70) (pc' := 142) rfl (hb hby at_70) (by decide) (by decide)) ?_
    refine go (fun _ => XS.iload X402.here hx rfl (hb hby at_142) rfl) ?_
    show Ends p e below _ T402 (mkF m 144 #[iv i0, iv i1, iv ch387, iv ch388, iv ch389, iv ch390, iv (0 : Int32), iv (((XT.ushr i1 (2 : Int32)) &&& (3 : Int32)) + (1 : Int32)), rv a392, .unset, .unset, .unset, .unset, .unset, .unset] [(.int ch390)])
    refine cStat X402 hx hZ hown (by rw [hml]; rfl) e402 (hwi hw 30 rfl) (hwi hw 31 rfl) (hwi hw 2 rfl) (hwi hw 32 rfl) [(.int ch390)] [] rfl (rm_cvalueOf hw ch390 _ O404 lc390 cz SCS hcz) (hb hby at_144) rfl (lenOf pd_29 rfl) (by decide) (by decide) (Nat.le_of_ble_eq_true rfl) (by decide) (by decide) ?_
    rintro v405 T405 h405 L405 X405 e405 ⟨a405, b405, k405, rfl, N405, K405, ga405, gb405, nn405, E405, Fv405, Fc405, V405⟩
    have N405a := Fr.app N402a N405
    have F406 := (Exa.keep F399 K402)
    have n407 : a392 ≠ a405 := Nat.ne_of_lt (Nat.lt_of_lt_of_le (F406.lt) ga405)
    have F408 := (Arv.keep V395 K402 (ninS (Ne.symm n396) nin0))
    have n409 : a395 ≠ a405 := Nat.ne_of_lt (Nat.lt_of_lt_of_le (F408.lt) ga405)
    have n410 : b402 ≠ a405 := Nat.ne_of_lt (Nat.lt_of_lt_of_le (V402.lt) ga405)
    have f411 : Z.heap.size ≤ a405 := Nat.le_trans (O404).1 ga405
    have n412 : a392 ≠ b405 := Nat.ne_of_lt (Nat.lt_of_lt_of_le (F406.lt) gb405)
    have n413 : a395 ≠ b405 := Nat.ne_of_lt (Nat.lt_of_lt_of_le (F408.lt) gb405)
    have n414 : b402 ≠ b405 := Nat.ne_of_lt (Nat.lt_of_lt_of_le (V402.lt) gb405)
    have f415 : Z.heap.size ≤ b405 := Nat.le_trans (O404).1 gb405
    have C416 : CHr Z own_EL T402.vm h402 T402.vm h405 := CHr.keep K405 sf0 H403.1
    have hk := Nat.le_trans hk C416.2.1
    have H416 := H403.trans C416
    have O417 : Ext Z.heap h405 := xk O404 K405 all0
    show Ends p e below _ T405 (mkF m 147 #[iv i0, iv i1, iv ch387, iv ch388, iv ch389, iv ch390, iv (0 : Int32), iv (((XT.ushr i1 (2 : Int32)) &&& (3 : Int32)) + (1 : Int32)), rv a392, .unset, .unset, .unset, .unset, .unset, .unset] [(.ref a405)])
    refine go (fun _ => XS.astore X405.here hx rfl (hb hby at_147) rfl rfl (l' := #[iv i0, iv i1, iv ch387, iv ch388, iv ch389, iv ch390, iv (0 : Int32), iv (((XT.ushr i1 (2 : Int32)) &&& (3 : Int32)) + (1 : Int32)), rv a392, rv a405, .unset, .unset, .unset, .unset, .unset]) rfl) ?_
    show Ends p e below _ T405 (mkF m 149 #[iv i0, iv i1, iv ch387, iv ch388, iv ch389, iv ch390, iv (0 : Int32), iv (((XT.ushr i1 (2 : Int32)) &&& (3 : Int32)) + (1 : Int32)), rv a392, rv a405, .unset, .unset, .unset, .unset, .unset] [])
    obtain ⟨T418, h418, X418, e418, E418, A418, D418, U418, s418⟩ := newO X405 hx hZ hown (hwi hw 0 rfl) (hwi hw 1 rfl) (hwi hw 2 rfl) e405 (g := (mkF m 149 #[iv i0, iv i1, iv ch387, iv ch388, iv ch389, iv ch390, iv (0 : Int32), iv (((XT.ushr i1 (2 : Int32)) &&& (3 : Int32)) + (1 : Int32)), rv a392, rv a405, .unset, .unset, .unset, .unset, .unset] [])) rfl (hb hby at_149) (by decide) (by decide)
    have F419 := (Exa.keep F406 K405)
    have F420 := (Arv.keep F408 K405 nin0)
    have F421 := (Arv.keep V402 K405 nin0)
    obtain ⟨a418, g418⟩ : ∃ z : Addr, z = h405.size := ⟨_, rfl⟩
    have n422 : a392 ≠ a418 := fun q => absurd (F419.lt) (by rw [q, g418]; exact Nat.lt_irrefl _)
    have n423 : a395 ≠ a418 := fun q => absurd (F420.lt) (by rw [q, g418]; exact Nat.lt_irrefl _)
    have n424 : a405 ≠ a418 := fun q => absurd (E405.lt) (by rw [q, g418]; exact Nat.lt_irrefl _)
    have n425 : b402 ≠ a418 := fun q => absurd (F421.lt) (by rw [q, g418]; exact Nat.lt_irrefl _)
    have n426 : b405 ≠ a418 := fun q => absurd (V405.lt) (by rw [q, g418]; exact Nat.lt_irrefl _)
    have f418 : Z.heap.size ≤ a418 := by rw [g418]; exact (O417).1
    rw [← g418] at A418 D418 U418 s418
    have C427 : CHr Z own_EL T402.vm h405 T402.vm h418 := CHr.ext E418 H416.1
    have hk := Nat.le_trans hk C427.2.1
    have H427 := H416.trans C427
    have O428 : Ext Z.heap h418 := xx O417 E418
    have SF418 : Safe Z own_EL T402.vm h418 a418 := Safe.ext E418 H416.1 (Safe.new (by rw [g418]; exact Nat.le_refl _))
    refine go s418 ?_
    show Ends p e below _ T418 (mkF m 152 #[iv i0, iv i1, iv ch387, iv ch388, iv ch389, iv ch390, iv (0 : Int32), iv (((XT.ushr i1 (2 : Int32)) &&& (3 : Int32)) + (1 : Int32)), rv a392, rv a405, .unset, .unset, .unset, .unset, .unset] [(.ref a418)])
    refine go (fun _ => XS.dup X418.here hx rfl (hb hby at_152) rfl rfl) ?_
    refine go (fun _ => XT.iconstV X418.here hx rfl (2 : Int32) (hb hby at_153) (by decide)) ?_
    show Ends p e below _ T418 (mkF m 154 #[iv i0, iv i1, iv ch387, iv ch388, iv ch389, iv ch390, iv (0 : Int32), iv (((XT.ushr i1 (2 : Int32)) &&& (3 : Int32)) + (1 : Int32)), rv a392, rv a405, .unset, .unset, .unset, .unset, .unset] [(.int (2 : Int32)), (.ref a418), (.ref a418)])
    obtain ⟨T429, h429, k429, X429, e429, E429, A429, s429⟩ := newP X418 hx hZ (hwi hw 3 rfl) e418 (g := (mkF m 154 #[iv i0, iv i1, iv ch387, iv ch388, iv ch389, iv ch390, iv (0 : Int32), iv (((XT.ushr i1 (2 : Int32)) &&& (3 : Int32)) + (1 : Int32)), rv a392, rv a405, .unset, .unset, .unset, .unset, .unset] [(.int (2 : Int32)), (.ref a418), (.ref a418)])) rfl (hb hby at_154) rfl (by decide) (cap := 2) (by decide) (by decide) (by decide) (by decide)
    have F430 := (Exa.ext E418 F419)
    have F431 := (Arv.ext F420 E418)
    have F432 := (Exa.ext E418 E405)
    have F433 := (Arv.ext F421 E418)
    have F434 := (Arv.ext V405 E418)
    obtain ⟨a429, g429⟩ : ∃ z : Addr, z = h418.size := ⟨_, rfl⟩
    have n435 : a392 ≠ a429 := fun q => absurd (F430.lt) (by rw [q, g429]; exact Nat.lt_irrefl _)
    have n436 : a395 ≠ a429 := fun q => absurd (F431.lt) (by rw [q, g429]; exact Nat.lt_irrefl _)
    have n437 : a405 ≠ a429 := fun q => absurd (F432.lt) (by rw [q, g429]; exact Nat.lt_irrefl _)
    have n438 : a418 ≠ a429 := fun q => absurd (A418.lt) (by rw [q, g429]; exact Nat.lt_irrefl _)
    have n439 : b402 ≠ a429 := fun q => absurd (F433.lt) (by rw [q, g429]; exact Nat.lt_irrefl _)
    have n440 : b405 ≠ a429 := fun q => absurd (F434.lt) (by rw [q, g429]; exact Nat.lt_irrefl _)
    have f429 : Z.heap.size ≤ a429 := by rw [g429]; exact (O428).1
    rw [← g429] at A429 s429
    have C441 : CHr Z own_EL T402.vm h418 T402.vm h429 := CHr.ext E429 H427.1
    have hk := Nat.le_trans hk C441.2.1
    have H441 := H427.trans C441
    have O442 : Ext Z.heap h429 := xx O428 E429
    have SF429 : Safe Z own_EL T402.vm h429 a429 := Safe.ext E429 H427.1 (Safe.new (by rw [g429]; exact Nat.le_refl _))
    have V429 : Arv Z h429 a429 k429 .char (2 : Int32) [(.int (0 : Int32)), (.int (0 : Int32))] (.int 0) := Arv.pad (Arv.new A429 (by decide)) (pad_rep [] _ 2)
    refine go s429 ?_
    show Ends p e below _ T429 (mkF m 156 #[iv i0, iv i1, iv ch387, iv ch388, iv ch389, iv ch390, iv (0 : Int32), iv (((XT.ushr i1 (2 : Int32)) &&& (3 : Int32)) + (1 : Int32)), rv a392, rv a405, .unset, .unset, .unset, .unset, .unset] [(.ref a429), (.ref a418), (.ref a418)])
    refine go (fun _ => XS.dup X429.here hx rfl (hb hby at_156) rfl rfl) ?_
    refine go (fun _ => XT.iconstV X429.here hx rfl (0 : Int32) (hb hby at_157) (by decide)) ?_
    refine go (fun _ => XS.iloadN X429.here hx rfl (hb hby at_158) rfl) ?_
    show Ends p e below _ T429 (mkF m 159 #[iv i0, iv i1, iv ch387, iv ch388, iv ch389, iv ch390, iv (0 : Int32), iv (((XT.ushr i1 (2 : Int32)) &&& (3 : Int32)) + (1 : Int32)), rv a392, rv a405, .unset, .unset, .unset, .unset, .unset] [(.int ch388), (.int (0 : Int32)), (.ref a429), (.ref a429), (.ref a418), (.ref a418)])
    obtain ⟨cl443, A443, q443, S443, M443, H443, G443⟩ := id V429
    obtain ⟨T443, h443, X443, e443, W443, s443⟩ := stC X429 hx hZ e429 A443 (j := (0 : Int32)) (inb_of S443 (by decide)) (g := (mkF m 159 #[iv i0, iv i1, iv ch387, iv ch388, iv ch389, iv ch390, iv (0 : Int32), iv (((XT.ushr i1 (2 : Int32)) &&& (3 : Int32)) + (1 : Int32)), rv a392, rv a405, .unset, .unset, .unset, .unset, .unset] [(.int ch388), (.int (0 : Int32)), (.ref a429), (.ref a429), (.ref a418), (.ref a418)])) rfl rfl (hb hby at_159)
    have r443 : nar .char ch388 = ch388 := nc388
    rw [r443] at W443
    have N443 := Fr.snoc X443 N405a f429
    have C444 : CHr Z own_EL T402.vm h429 T402.vm h443 := CHr.wr W443 SF429 H441.1
    have hk := Nat.le_trans hk C444.2.1
    have H444 := H441.trans C444
    have O445 : Ext Z.heap h443 := xw O442 W443 f429
    have V443 : Arv Z h443 a429 k429 .char (2 : Int32) [(.int ch388), (.int (0 : Int32))] (.int 0) := Arv.set A443 q443 S443 M443 H443 G443 (by first | rfl | exact fits_nar_char ch388 | (rw [← r443]; exact fits_nar_char ch388)) W443 0 (by decide) (Nat.le_of_ble_eq_true rfl)
    refine go s443 ?_
    show Ends p e below _ T443 (mkF m 160 #[iv i0, iv i1, iv ch387, iv ch388, iv ch389, iv ch390, iv (0 : Int32), iv (((XT.ushr i1 (2 : Int32)) &&& (3 : Int32)) + (1 : Int32)), rv a392, rv a405, .unset, .unset, .unset, .unset, .unset] [(.ref a429), (.ref a418), (.ref a418)])
    refine go (fun _ => XS.dup X443.here hx rfl (hb hby at_160) rfl rfl) ?_
    refine go (fun _ => XT.iconstV X443.here hx rfl (1 : Int32) (hb hby at_161) (by decide)) ?_
    refine go (fun _ => XS.iloadN X443.here hx rfl (hb hby at_162) rfl) ?_
    show Ends p e below _ T443 (mkF m 163 #[iv i0, iv i1, iv ch387, iv ch388, iv ch389, iv ch390, iv (0 : Int32), iv (((XT.ushr i1 (2 : Int32)) &&& (3 : Int32)) + (1 : Int32)), rv a392, rv a405, .unset, .unset, .unset, .unset, .unset] [(.int ch387), (.int (1 : Int32)), (.ref a429), (.ref a429), (.ref a418), (.ref a418)])
    obtain ⟨cl446, A446, q446, S446, M446, H446, G446⟩ := id V443
    obtain ⟨T446, h446, X446, e446, W446, s446⟩ := stC X443 hx hZ e443 A446 (j := (1 : Int32)) (inb_of S446 (by decide)) (g := (mkF m 163 #[iv i0, iv i1, iv ch387, iv ch388, iv ch389, iv ch390, iv (0 : Int32), iv (((XT.ushr i1 (2 : Int32)) &&& (3 : Int32)) + (1 : Int32)), rv a392, rv a405, .unset, .unset, .unset, .unset, .unset] [(.int ch387), (.int (1 : Int32)), (.ref a429), (.ref a429), (.ref a418), (.ref a418)])) rfl rfl (hb hby at_163)
    have r446 : nar .char ch387 = ch387 := nc387
    rw [r446] at W446
    have N446 := Fr.snoc X446 N443 f429
    have F448 := (Safe.wr W443 SF429 H441.1 SF429)
    have C447 : CHr Z own_EL T402.vm h443 T402.vm h446 := CHr.wr W446 F448 H444.1
    have hk := Nat.le_trans hk C447.2.1
    have H447 := H444.trans C447
    have O449 : Ext Z.heap h446 := xw O445 W446 f429
    have V446 : Arv Z h446 a429 k429 .char (2 : Int32) [(.int ch388), (.int ch387)] (.int 0) := Arv.set A446 q446 S446 M446 H446 G446 (by first | rfl | exact fits_nar_char ch387 | (rw [← r446]; exact fits_nar_char ch387)) W446 1 (by decide) (Nat.le_of_ble_eq_true rfl)
    refine go s446 ?_
    show Ends p e below _ T446 (mkF m 164 #[iv i0, iv i1, iv ch387, iv ch388, iv ch389, iv ch390, iv (0 : Int32), iv (((XT.ushr i1 (2 : Int32)) &&& (3 : Int32)) + (1 : Int32)), rv a392, rv a405, .unset, .unset, .unset, .unset, .unset] [(.ref a429), (.ref a418), (.ref a418)])
    have F450 := (Exa.wr W446 (Exa.wr W443 (Exa.ext E429 A418)))
    have F451 := (Fld.other W446 (Fld.other W443 (Fld.ext E429 (D418 (Or.inr (hwi hw 29 rfl)) (ty := (.array .byte)) (by decide))) (Or.inl n438)) (Or.inl n438))
    have F452 := (Fld.other W446 (Fld.other W443 (Fld.ext E429 (D418 (Or.inr (hwi hw 27 rfl)) (ty := .byte) (by decide))) (Or.inl n438)) (Or.inl n438))
    refine cInit X446 hx hZ hown (by rw [hml]; rfl) e446 (hwi hw 4 rfl) (hwi hw 5 rfl) (hwi hw 2 rfl) (hwi hw 6 rfl) a418 [(.ref a429)] [(.ref a418)] rfl (rm_new1_2 hw a418 a429 k429 ch388 ch387 _ O449 f418 n438 F450 F451 F452 cz SCS hcz V446 lc388 lc387) (hb hby at_164) rfl (lenOf pd_28 rfl) rfl (by decide) (by decide) (Nat.le_of_ble_eq_true rfl) (by decide) (by decide) ?_
    rintro v453 T453 h453 L453 X453 e453 ⟨b453, k453, rfl, N453, K453, g453, Fv453, Fc453, V453⟩
    have N453a := Fr.app N446 N453
    have F454 := (Exa.wr W446 (Exa.wr W443 (Exa.ext E429 F430)))
    have n455 : a392 ≠ b453 := Nat.ne_of_lt (Nat.lt_of_lt_of_le (F454.lt) g453)
    have F456 := (Arv.other (Arv.other (Arv.ext F431 E429) W443 n436) W446 n436)
    have n457 : a395 ≠ b453 := Nat.ne_of_lt (Nat.lt_of_lt_of_le (F456.lt) g453)
    have F458 := (Exa.wr W446 (Exa.wr W443 (Exa.ext E429 F432)))
    have n459 : a405 ≠ b453 := Nat.ne_of_lt (Nat.lt_of_lt_of_le (F458.lt) g453)
    have n460 : a418 ≠ b453 := Nat.ne_of_lt (Nat.lt_of_lt_of_le (F450.lt) g453)
    have n461 : a429 ≠ b453 := Nat.ne_of_lt (Nat.lt_of_lt_of_le (V446.lt) g453)
    have F462 := (Arv.other (Arv.other (Arv.ext F433 E429) W443 n439) W446 n439)
    have n463 : b402 ≠ b453 := Nat.ne_of_lt (Nat.lt_of_lt_of_le (F462.lt) g453)
    have F464 := (Arv.other (Arv.other (Arv.ext F434 E429) W443 n440) W446 n440)
    have n465 : b405 ≠ b453 := Nat.ne_of_lt (Nat.lt_of_lt_of_le (F464.lt) g453)
    have f466 : Z.heap.size ≤ b453 := Nat.le_trans (O449).1 g453
    have F468 := (Safe.wr W446 F448 H444.1 (Safe.wr W443 SF429 H441.1 (Safe.ext E429 H427.1 SF418)))
    have sf467 : ∀ x ∈ [a418], Safe Z own_EL T402.vm h446 x := (sfS F468 sf0)
    have C467 : CHr Z own_EL T402.vm h446 T402.vm h453 := CHr.keep K453 sf467 H447.1
    have hk := Nat.le_trans hk C467.2.1
    have H467 := H447.trans C467
    have O469 : Ext Z.heap h453 := xk O449 K453 (allS f418 all0)
    show Ends p e below _ T453 (mkF m 167 #[iv i0, iv i1, iv ch387, iv ch388, iv ch389, iv ch390, iv (0 : Int32), iv (((XT.ushr i1 (2 : Int32)) &&& (3 : Int32)) + (1 : Int32)), rv a392, rv a405, .unset, .unset, .unset, .unset, .unset] [(.ref a418)])
    refine go (fun _ => XS.astore X453.here hx rfl (hb hby at_167) rfl rfl (l' := #[iv i0, iv i1, iv ch387, iv ch388, iv ch389, iv ch390, iv (0 : Int32), iv (((XT.ushr i1 (2 : Int32)) &&& (3 : Int32)) + (1 : Int32)), rv a392, rv a405, rv a418, .unset, .unset, .unset, .unset]) rfl) ?_
    refine go (fun _ => XS.iload X453.here hx rfl (hb hby at_169) rfl) ?_
    show Ends p e below _ T453 (mkF m 171 #[iv i0, iv i1, iv ch387, iv ch388, iv ch389, iv ch390, iv (0 : Int32), iv (((XT.ushr i1 (2 : Int32)) &&& (3 : Int32)) + (1 : Int32)), rv a392, rv a405, rv a418, .unset, .unset, .unset, .unset] [(.int ch389)])
    refine cStat X453 hx hZ hown (by rw [hml]; rfl) e453 (hwi hw 30 rfl) (hwi hw 31 rfl) (hwi hw 2 rfl) (hwi hw 32 rfl) [(.int ch389)] [] rfl (rm_cvalueOf hw ch389 _ O469 lc389 cz SCS hcz) (hb hby at_171) rfl (lenOf pd_29 rfl) (by decide) (by decide) (Nat.le_of_ble_eq_true rfl) (by decide) (by decide) ?_
    rintro v470 T470 h470 L470 X470 e470 ⟨a470, b470, k470, rfl, N470, K470, ga470, gb470, nn470, E470, Fv470, Fc470, V470⟩
    have N470a := Fr.app N453a N470
    have F471 := (Exa.keep F454 K453)
    have n472 : a392 ≠ a470 := Nat.ne_of_lt (Nat.lt_of_lt_of_le (F471.lt) ga470)
    have F473 := (Arv.keep F456 K453 (ninS n423 nin0))
    have n474 : a395 ≠ a470 := Nat.ne_of_lt (Nat.lt_of_lt_of_le (F473.lt) ga470)
    have F475 := (Exa.keep F458 K453)
    have n476 : a405 ≠ a470 := Nat.ne_of_lt (Nat.lt_of_lt_of_le (F475.lt) ga470)
    have F477 := (Exa.keep F450 K453)
    have n478 : a418 ≠ a470 := Nat.ne_of_lt (Nat.lt_of_lt_of_le (F477.lt) ga470)
    have F479 := (Arv.keep V446 K453 (ninS (Ne.symm n438) nin0))
    have n480 : a429 ≠ a470 := Nat.ne_of_lt (Nat.lt_of_lt_of_le (F479.lt) ga470)
    have F481 := (Arv.keep F462 K453 (ninS n425 nin0))
    have n482 : b402 ≠ a470 := Nat.ne_of_lt (Nat.lt_of_lt_of_le (F481.lt) ga470)
    have F483 := (Arv.keep F464 K453 (ninS n426 nin0))
    have n484 : b405 ≠ a470 := Nat.ne_of_lt (Nat.lt_of_lt_of_le (F483.lt) ga470)
    have n485 : b453 ≠ a470 := Nat.ne_of_lt (Nat.lt_of_lt_of_le (V453.lt) ga470)
    have f486 : Z.heap.size ≤ a470 := Nat.le_trans (O469).1 ga470
    have n487 : a392 ≠ b470 := Nat.ne_of_lt (Nat.lt_of_lt_of_le (F471.lt) gb470)
    have n488 : a395 ≠ b470 := Nat.ne_of_lt (Nat.lt_of_lt_of_le (F473.lt) gb470)
    have n489 : a405 ≠ b470 := Nat.ne_of_lt (Nat.lt_of_lt_of_le (F475.lt) gb470)
    have n490 : a418 ≠ b470 := Nat.ne_of_lt (Nat.lt_of_lt_of_le (F477.lt) gb470)
    have n491 : a429 ≠ b470 := Nat.ne_of_lt (Nat.lt_of_lt_of_le (F479.lt) gb470)
    have n492 : b402 ≠ b470 := Nat.ne_of_lt (Nat.lt_of_lt_of_le (F481.lt) gb470)
    have n493 : b405 ≠ b470 := Nat.ne_of_lt (Nat.lt_of_lt_of_le (F483.lt) gb470)
    have n494 : b453 ≠ b470 := Nat.ne_of_lt (Nat.lt_of_lt_of_le (V453.lt) gb470)
    have f495 : Z.heap.size ≤ b470 := Nat.le_trans (O469).1 gb470
    have C496 : CHr Z own_EL T402.vm h453 T402.vm h470 := CHr.keep K470 sf0 H467.1
    have hk := Nat.le_trans hk C496.2.1
    have H496 := H467.trans C496
    have O497 : Ext Z.heap h470 := xk O469 K470 all0
    show Ends p e below _ T470 (mkF m 174 #[iv i0, iv i1, iv ch387, iv ch388, iv ch389, iv ch390, iv (0 : Int32), iv (((XT.ushr i1 (2 : Int32)) &&& (3 : Int32)) + (1 : Int32)), rv a392, rv a405, rv a418, .unset, .unset, .unset, .unset] [(.ref a470)])
    refine go (fun _ => XS.astore X470.here hx rfl (hb hby at_174) rfl rfl (l' := #[iv i0, iv i1, iv ch387, iv ch388, iv ch389, iv ch390, iv (0 : Int32), iv (((XT.ushr i1 (2 : Int32)) &&& (3 : Int32)) + (1 : Int32)), rv a392, rv a405, rv a418, rv a470, .unset, .unset, .unset]) rfl) ?_
    show Ends p e below _ T470 (mkF m 176 #[iv i0, iv i1, iv ch387, iv ch388, iv ch389, iv ch390, iv (0 : Int32), iv (((XT.ushr i1 (2 : Int32)) &&& (3 : Int32)) + (1 : Int32)), rv a392, rv a405, rv a418, rv a470, .unset, .unset, .unset] [])
    obtain ⟨T498, h498, X498, e498, E498, A498, D498, U498, s498⟩ := newO X470 hx hZ hown (hwi hw 44 rfl) (hwi hw 45 rfl) (hwi hw 46 rfl) e470 (g := (mkF m 176 #[iv i0, iv i1, iv ch387, iv ch388, iv ch389, iv ch390, iv (0 : Int32), iv (((XT.ushr i1 (2 : Int32)) &&& (3 : Int32)) + (1 : Int32)), rv a392, rv a405, rv a418, rv a470, .unset, .unset, .unset] [])) rfl (hb hby at_176) (by decide) (by decide)
    have F499 := (Exa.keep F471 K470)
    have F500 := (Arv.keep F473 K470 nin0)
    have F501 := (Exa.keep F475 K470)
    have F502 := (Exa.keep F477 K470)
    have F503 := (Arv.keep F479 K470 nin0)
    have F504 := (Arv.keep F481 K470 nin0)
    have F505 := (Arv.keep F483 K470 nin0)
    have F506 := (Arv.keep V453 K470 nin0)
    obtain ⟨a498, g498⟩ : ∃ z : Addr, z = h470.size := ⟨_, rfl⟩
    have n507 : a392 ≠ a498 := fun q => absurd (F499.lt) (by rw [q, g498]; exact Nat.lt_irrefl _)
    have n508 : a395 ≠ a498 := fun q => absurd (F500.lt) (by rw [q, g498]; exact Nat.lt_irrefl _)
    have n509 : a405 ≠ a498 := fun q => absurd (F501.lt) (by rw [q, g498]; exact Nat.lt_irrefl _)
    have n510 : a418 ≠ a498 := fun q => absurd (F502.lt) (by rw [q, g498]; exact Nat.lt_irrefl _)
    have n511 : a429 ≠ a498 := fun q => absurd (F503.lt) (by rw [q, g498]; exact Nat.lt_irrefl _)
    have n512 : a470 ≠ a498 := fun q => absurd (E470.lt) (by rw [q, g498]; exact Nat.lt_irrefl _)
    have n513 : b402 ≠ a498 := fun q => absurd (F504.lt) (by rw [q, g498]; exact Nat.lt_irrefl _)
    have n514 : b405 ≠ a498 := fun q => absurd (F505.lt) (by rw [q, g498]; exact Nat.lt_irrefl _)
    have n515 : b453 ≠ a498 := fun q => absurd (F506.lt) (by rw [q, g498]; exact Nat.lt_irrefl _)
    have n516 : b470 ≠ a498 := fun q => absurd (V470.lt) (by rw [q, g498]; exact Nat.lt_irrefl _)
    have f498 : Z.heap.size ≤ a498 := by rw [g498]; exact (O497).1
    rw [← g498] at A498 D498 U498 s498
    have C517 : CHr Z own_EL T402.vm h470 T402.vm h498 := CHr.ext E498 H496.1
    have hk := Nat.le_trans hk C517.2.1
    have H517 := H496.trans C517
    have O518 : Ext Z.heap h498 := xx O497 E498
    have SF498 : Safe Z own_EL T402.vm h498 a498 := Safe.ext E498 H496.1 (Safe.new (by rw [g498]; exact Nat.le_refl _))
    refine go s498 ?_
    show Ends p e below _ T498 (mkF m 179 #[iv i0, iv i1, iv ch387, iv ch388, iv ch389, iv ch390, iv (0 : Int32), iv (((XT.ushr i1 (2 : Int32)) &&& (3 : Int32)) + (1 : Int32)), rv a392, rv a405, rv a418, rv a470, .unset, .unset, .unset] [(.ref a498)])
    refine go (fun _ => XS.dup X498.here hx rfl (hb hby at_179) rfl rfl) ?_
    show Ends p e below _ T498 (mkF m 180 #[iv i0, iv i1, iv ch387, iv ch388, iv ch389, iv ch390, iv (0 : Int32), iv (((XT.ushr i1 (2 : Int32)) &&& (3 : Int32)) + (1 : Int32)), rv a392, rv a405, rv a418, rv a470, .unset, .unset, .unset] [(.ref a498), (.ref a498)])
    have F519 := (D498 (Or.inl (hwi hw 64 rfl)) (ty := .int) (by decide))
    have F520 := (D498 (Or.inl (hwi hw 67 rfl)) (ty := (.array (.object "java/lang/Object"))) (by decide))
    have F521 := (D498 (Or.inl (hwi hw 76 rfl)) (ty := .int) (by decide))
    refine cInit X498 hx hZ hown (by rw [hml]; rfl) e498 (hwi hw 47 rfl) (hwi hw 48 rfl) (hwi hw 46 rfl) (hwi hw 49 rfl) a498 [] [(.ref a498)] rfl (rm_alinit hw a498 aD kD _ O518 f498 A498 F519 F520 F521 SD VD) (hb hby at_180) rfl (lenOf pd_12 rfl) rfl (by decide) (by decide) (Nat.le_of_ble_eq_true rfl) (by decide) (by decide) ?_
    rintro v522 T522 h522 L522 X522 e522 ⟨rfl, N522, K522, F1522, F2522, F3522⟩
    have N522a := Fr.app N470a N522
    have sf523 : ∀ x ∈ [a498], Safe Z own_EL T402.vm h498 x := (sfS SF498 sf0)
    have C523 : CHr Z own_EL T402.vm h498 T402.vm h522 := CHr.keep K522 sf523 H517.1
    have hk := Nat.le_trans hk C523.2.1
    have H523 := H517.trans C523
    have O524 : Ext Z.heap h522 := xk O518 K522 (allS f498 all0)
    show Ends p e below _ T522 (mkF m 183 #[iv i0, iv i1, iv ch387, iv ch388, iv ch389, iv ch390, iv (0 : Int32), iv (((XT.ushr i1 (2 : Int32)) &&& (3 : Int32)) + (1 : Int32)), rv a392, rv a405, rv a418, rv a470, .unset, .unset, .unset] [(.ref a498)])
    refine go (fun _ => XS.astore X522.here hx rfl (hb hby at_183) rfl rfl (l' := #[iv i0, iv i1, iv ch387, iv ch388, iv ch389, iv ch390, iv (0 : Int32), iv (((XT.ushr i1 (2 : Int32)) &&& (3 : Int32)) + (1 : Int32)), rv a392, rv a405, rv a418, rv a470, rv a498, .unset, .unset]) rfl) ?_
    refine go (fun _ => XS.aload X522.here hx rfl (hb hby at_185) rfl rfl) ?_
    refine go (fun _ => XS.aload X522.here hx rfl (hb hby at_187) rfl rfl) ?_
    show Ends p e below _ T522 (mkF m 189 #[iv i0, iv i1, iv ch387, iv ch388, iv ch389, iv ch390, iv (0 : Int32), iv (((XT.ushr i1 (2 : Int32)) &&& (3 : Int32)) + (1 : Int32)), rv a392, rv a405, rv a418, rv a470, rv a498, .unset, .unset] [(.ref a392), (.ref a498)])
    have F525 := (Exa.keep A498 K522)
    have F526 := (Exa.keep (Exa.ext E498 F499) K522)
    refine cVirt X522 hx hZ hown (by rw [hml]; rfl) e522 (hwi hw 68 rfl) (hwi hw 69 rfl) (hwi hw 71 rfl) (hwi hw 70 rfl) (hwi hw 46 rfl) (hwi hw 72 rfl) (notFace_of_selects (args := #[]) (mvT hZ (hwi hw 71 rfl))) a498 F525 [(.ref a392)] [] rfl (rm_add_0 hw a498 a392 (0 : Int32) aD kD _ O524 f498 F525 F1522 F2522 F3522 SD VD F526 (Ne.symm n507)) (hb hby at_189) rfl (lenOf pd_30 rfl) (by decide) (by decide) (Nat.le_of_ble_eq_true rfl) (by decide) (by decide) ?_
    rintro v527 T527 h527 L527 X527 e527 ⟨b527, k527, rfl, N527, K527, g527, O527, F1527, F2527, F3527, V527⟩
    have N527a := Fr.app N522a N527
    have n528 : a392 ≠ b527 := Nat.ne_of_lt (Nat.lt_of_lt_of_le (F526.lt) g527)
    have F529 := (Arv.keep (Arv.ext F500 E498) K522 (ninS n508 nin0))
    have n530 : a395 ≠ b527 := Nat.ne_of_lt (Nat.lt_of_lt_of_le (F529.lt) g527)
    have F531 := (Exa.keep (Exa.ext E498 F501) K522)
    have n532 : a405 ≠ b527 := Nat.ne_of_lt (Nat.lt_of_lt_of_le (F531.lt) g527)
    have F533 := (Exa.keep (Exa.ext E498 F502) K522)
    have n534 : a418 ≠ b527 := Nat.ne_of_lt (Nat.lt_of_lt_of_le (F533.lt) g527)
    have F535 := (Arv.keep (Arv.ext F503 E498) K522 (ninS n511 nin0))
    have n536 : a429 ≠ b527 := Nat.ne_of_lt (Nat.lt_of_lt_of_le (F535.lt) g527)
    have F537 := (Exa.keep (Exa.ext E498 E470) K522)
    have n538 : a470 ≠ b527 := Nat.ne_of_lt (Nat.lt_of_lt_of_le (F537.lt) g527)
    have n539 : a498 ≠ b527 := Nat.ne_of_lt (Nat.lt_of_lt_of_le (F525.lt) g527)
    have F540 := (Arv.keep (Arv.ext F504 E498) K522 (ninS n513 nin0))
    have n541 : b402 ≠ b527 := Nat.ne_of_lt (Nat.lt_of_lt_of_le (F540.lt) g527)
    have F542 := (Arv.keep (Arv.ext F505 E498) K522 (ninS n514 nin0))
    have n543 : b405 ≠ b527 := Nat.ne_of_lt (Nat.lt_of_lt_of_le (F542.lt) g527)
    have F544 := (Arv.keep (Arv.ext F506 E498) K522 (ninS n515 nin0))
    have n545 : b453 ≠ b527 := Nat.ne_of_lt (Nat.lt_of_lt_of_le (F544.lt) g527)
    have F546 := (Arv.keep (Arv.ext V470 E498) K522 (ninS n516 nin0))
    have n547 : b470 ≠ b527 := Nat.ne_of_lt (Nat.lt_of_lt_of_le (F546.lt) g527)
    have f548 : Z.heap.size ≤ b527 := Nat.le_trans (O524).1 g527
    have F550 := (Safe.keep K522 sf523 H517.1 SF498)
    have sf549 : ∀ x ∈ [a498], Safe Z own_EL T402.vm h522 x := (sfS F550 sf0)
    have C549 : CHr Z own_EL T402.vm h522 T402.vm h527 := CHr.keep K527 sf549 H523.1
    have hk := Nat.le_trans hk C549.2.1
    have H549 := H523.trans C549
    have O551 : Ext Z.heap h527 := xk O524 K527 (allS f498 all0)
    show Ends p e below _ T527 (mkF m 192 #[iv i0, iv i1, iv ch387, iv ch388, iv ch389, iv ch390, iv (0 : Int32), iv (((XT.ushr i1 (2 : Int32)) &&& (3 : Int32)) + (1 : Int32)), rv a392, rv a405, rv a418, rv a470, rv a498, .unset, .unset] [(.int (1 : Int32))])
    refine go (fun _ => XT.pop X527.here hx rfl (hb hby at_192) rfl rfl) ?_
    show Ends p e below _ T527 (mkF m 193 #[iv i0, iv i1, iv ch387, iv ch388, iv ch389, iv ch390, iv (0 : Int32), iv (((XT.ushr i1 (2 : Int32)) &&& (3 : Int32)) + (1 : Int32)), rv a392, rv a405, rv a418, rv a470, rv a498, .unset, .unset] [])
    rcases own_q4 (XT.ushr i1 (2 : Int32)) with q552 | q552 | q552 | q552
    · rw [q552]
      show Ends p e below _ T527 (mkF m 193 #[iv i0, iv i1, iv ch387, iv ch388, iv ch389, iv ch390, iv (0 : Int32), iv (1 : Int32), rv a392, rv a405, rv a418, rv a470, rv a498, .unset, .unset] [])
      refine go (fun _ => XS.iload X527.here hx rfl (hb hby at_193) rfl) ?_
      refine go (fun _ => XT.iconstV X527.here hx rfl (1 : Int32) (hb hby at_195) (by decide)) ?_
      show Ends p e below _ T527 (mkF m 196 #[iv i0, iv i1, iv ch387, iv ch388, iv ch389, iv ch390, iv (0 : Int32), iv (1 : Int32), rv a392, rv a405, rv a418, rv a470, rv a498, .unset, .unset] [(.int (1 : Int32)), (.int (1 : Int32))])
      refine go (fun _ => XS.icmpYes X527.here hx rfl (pc0 := 196) (pc' := 207) rfl (hb hby at_196) rfl (XT.ii_le_t ((by decide) : ¬ ((1 : Int32) < (1 : Int32)))) (by decide) (by decide)) ?_
      show Ends p e below _ T527 (mkF m 207 #[iv i0, iv i1, iv ch387, iv ch388, iv ch389, iv ch390, iv (0 : Int32), iv (1 : Int32), rv a392, rv a405, rv a418, rv a470, rv a498, .unset, .unset] [])
      refine go (fun _ => XS.iload X527.here hx rfl (hb hby at_207) rfl) ?_
      refine go (fun _ => XT.iconstV X527.here hx rfl (2 : Int32) (hb hby at_209) (by decide)) ?_
      show Ends p e below _ T527 (mkF m 210 #[iv i0, iv i1, iv ch387, iv ch388, iv ch389, iv ch390, iv (0 : Int32), iv (1 : Int32), rv a392, rv a405, rv a418, rv a470, rv a498, .unset, .unset] [(.int (2 : Int32)), (.int (1 : Int32))])
      refine go (fun _ => XS.icmpYes X527.here hx rfl (pc0 := 210) (pc' := 221) rfl (hb hby at_210) rfl (XT.ii_le_t ((by decide) : ¬ ((2 : Int32) < (1 : Int32)))) (by decide) (by decide)) ?_
      show Ends p e below _ T527 (mkF m 221 #[iv i0, iv i1, iv ch387, iv ch388, iv ch389, iv ch390, iv (0 : Int32), iv (1 : Int32), rv a392, rv a405, rv a418, rv a470, rv a498, .unset, .unset] [])
      refine go (fun _ => XS.iload X527.here hx rfl (hb hby at_221) rfl) ?_
      refine go (fun _ => XT.iconstV X527.here hx rfl (3 : Int32) (hb hby at_223) (by decide)) ?_
      show Ends p e below _ T527 (mkF m 224 #[iv i0, iv i1, iv ch387, iv ch388, iv ch389, iv ch390, iv (0 : Int32), iv (1 : Int32), rv a392, rv a405, rv a418, rv a470, rv a498, .unset, .unset] [(.int (3 : Int32)), (.int (1 : Int32))])
      refine go (fun _ => XS.icmpYes X527.here hx rfl (pc0 := 224) (pc' := 235) rfl (hb hby at_224) rfl (XT.ii_le_t ((by decide) : ¬ ((3 : Int32) < (1 : Int32)))) (by decide) (by decide)) ?_
      show Ends p e below _ T527 (mkF m 235 #[iv i0, iv i1, iv ch387, iv ch388, iv ch389, iv ch390, iv (0 : Int32), iv (1 : Int32), rv a392, rv a405, rv a418, rv a470, rv a498, .unset, .unset] [])
      obtain ⟨T553, h553, X553, e553, E553, A553, D553, U553, s553⟩ := newO X527 hx hZ hown (hwi hw 99 rfl) (hwi hw 100 rfl) (hwi hw 101 rfl) e527 (g := (mkF m 235 #[iv i0, iv i1, iv ch387, iv ch388, iv ch389, iv ch390, iv (0 : Int32), iv (1 : Int32), rv a392, rv a405, rv a418, rv a470, rv a498, .unset, .unset] [])) rfl (hb hby at_235) (by decide) (by decide)
      have F554 := (Exa.keep F526 K527)
      have F555 := (Arv.keep F529 K527 (ninS n508 nin0))
      have F556 := (Exa.keep F531 K527)
      have F557 := (Exa.keep F533 K527)
      have F558 := (Arv.keep F535 K527 (ninS n511 nin0))
      have F559 := (Exa.keep F537 K527)
      have F560 := (Exa.keep F525 K527)
      have F561 := (Arv.keep F540 K527 (ninS n513 nin0))
      have F562 := (Arv.keep F542 K527 (ninS n514 nin0))
      have F563 := (Arv.keep F544 K527 (ninS n515 nin0))
      have F564 := (Arv.keep F546 K527 (ninS n516 nin0))
      obtain ⟨a553, g553⟩ : ∃ z : Addr, z = h527.size := ⟨_, rfl⟩
      have n565 : a392 ≠ a553 := fun q => absurd (F554.lt) (by rw [q, g553]; exact Nat.lt_irrefl _)
      have n566 : a395 ≠ a553 := fun q => absurd (F555.lt) (by rw [q, g553]; exact Nat.lt_irrefl _)
      have n567 : a405 ≠ a553 := fun q => absurd (F556.lt) (by rw [q, g553]; exact Nat.lt_irrefl _)
      have n568 : a418 ≠ a553 := fun q => absurd (F557.lt) (by rw [q, g553]; exact Nat.lt_irrefl _)
      have n569 : a429 ≠ a553 := fun q => absurd (F558.lt) (by rw [q, g553]; exact Nat.lt_irrefl _)
      have n570 : a470 ≠ a553 := fun q => absurd (F559.lt) (by rw [q, g553]; exact Nat.lt_irrefl _)
      have n571 : a498 ≠ a553 := fun q => absurd (F560.lt) (by rw [q, g553]; exact Nat.lt_irrefl _)
      have n572 : b402 ≠ a553 := fun q => absurd (F561.lt) (by rw [q, g553]; exact Nat.lt_irrefl _)
      have n573 : b405 ≠ a553 := fun q => absurd (F562.lt) (by rw [q, g553]; exact Nat.lt_irrefl _)
      have n574 : b453 ≠ a553 := fun q => absurd (F563.lt) (by rw [q, g553]; exact Nat.lt_irrefl _)
      have n575 : b470 ≠ a553 := fun q => absurd (F564.lt) (by rw [q, g553]; exact Nat.lt_irrefl _)
      have n576 : b527 ≠ a553 := fun q => absurd (V527.lt) (by rw [q, g553]; exact Nat.lt_irrefl _)
      have f553 : Z.heap.size ≤ a553 := by rw [g553]; exact (O551).1
      rw [← g553] at A553 D553 U553 s553
      have C577 : CHr Z own_EL T402.vm h527 T402.vm h553 := CHr.ext E553 H549.1
      have hk := Nat.le_trans hk C577.2.1
      have H577 := H549.trans C577
      have O578 : Ext Z.heap h553 := xx O551 E553
      have SF553 : Safe Z own_EL T402.vm h553 a553 := Safe.ext E553 H549.1 (Safe.new (by rw [g553]; exact Nat.le_refl _))
      refine go s553 ?_
      show Ends p e below _ T553 (mkF m 238 #[iv i0, iv i1, iv ch387, iv ch388, iv ch389, iv ch390, iv (0 : Int32), iv (1 : Int32), rv a392, rv a405, rv a418, rv a470, rv a498, .unset, .unset] [(.ref a553)])
      refine go (fun _ => XS.dup X553.here hx rfl (hb hby at_238) rfl rfl) ?_
      refine go (fun _ => XS.aload X553.here hx rfl (hb hby at_239) rfl rfl) ?_
      show Ends p e below _ T553 (mkF m 241 #[iv i0, iv i1, iv ch387, iv ch388, iv ch389, iv ch390, iv (0 : Int32), iv (1 : Int32), rv a392, rv a405, rv a418, rv a470, rv a498, .unset, .unset] [(.ref a498), (.ref a553), (.ref a553)])
      have F579 := (D553 (Or.inr (hwi hw 107 rfl)) (ty := (.object "java/util/List")) (by decide))
      refine cInit X553 hx hZ hown (by rw [hml]; rfl) e553 (hwi hw 102 rfl) (hwi hw 103 rfl) (hwi hw 101 rfl) (hwi hw 104 rfl) a553 [(.ref a498)] [(.ref a553)] rfl (rm_pg hw a553 a498 _ O578 f553 A553 F579  ) (hb hby at_241) rfl (lenOf pd_31 rfl) rfl (by decide) (by decide) (Nat.le_of_ble_eq_true rfl) (by decide) (by decide) ?_
      rintro v580 T580 h580 L580 X580 e580 ⟨rfl, N580, K580, F580_0⟩
      have N580a := Fr.app N527a N580
      have sf581 : ∀ x ∈ [a553], Safe Z own_EL T402.vm h553 x := (sfS SF553 sf0)
      have C581 : CHr Z own_EL T402.vm h553 T402.vm h580 := CHr.keep K580 sf581 H577.1
      have hk := Nat.le_trans hk C581.2.1
      have H581 := H577.trans C581
      have O582 : Ext Z.heap h580 := xk O578 K580 (allS f553 all0)
      show Ends p e below _ T580 (mkF m 244 #[iv i0, iv i1, iv ch387, iv ch388, iv ch389, iv ch390, iv (0 : Int32), iv (1 : Int32), rv a392, rv a405, rv a418, rv a470, rv a498, .unset, .unset] [(.ref a553)])
      refine go (fun _ => XS.astore X580.here hx rfl (hb hby at_244) rfl rfl (l' := #[iv i0, iv i1, iv ch387, iv ch388, iv ch389, iv ch390, iv (0 : Int32), iv (1 : Int32), rv a392, rv a405, rv a418, rv a470, rv a498, rv a553, .unset]) rfl) ?_
      refine go (fun _ => XS.aload X580.here hx rfl (hb hby at_246) rfl rfl) ?_
      show Ends p e below _ T580 (mkF m 248 #[iv i0, iv i1, iv ch387, iv ch388, iv ch389, iv ch390, iv (0 : Int32), iv (1 : Int32), rv a392, rv a405, rv a418, rv a470, rv a498, rv a553, .unset] [(.ref a553)])
      have F583 := (Exa.keep (Exa.ext E553 F554) K580)
      have F584 := (Exa.keep (Exa.ext E553 F560) K580)
      have F585 := (Fld.keep (Fld.ext E553 F2527) K580 (ninS n571 nin0))
      have F586 := (Fld.keep (Fld.ext E553 F3527) K580 (ninS n571 nin0))
      have F587 := (Arv.keep (Arv.ext V527 E553) K580 (ninS n576 nin0))
      have F589 := (Exa.keep A553 K580)
      refine cVirt X580 hx hZ hown (by rw [hml]; rfl) e580 (hwi hw 108 rfl) (hwi hw 109 rfl) (hwi hw 111 rfl) (hwi hw 110 rfl) (hwi hw 101 rfl) (hwi hw 112 rfl) (notFace_of_selects (args := #[]) (mvT hZ (hwi hw 111 rfl))) a553 F589 [] [] rfl (rm_name hw a553 a498 b527 a392 k527 (1 : Int32) _ _ F580_0 F583 F584 F585 F586 F587 (by decide)) (hb hby at_248) rfl (lenOf pd_32 rfl) (by decide) (by decide) (Nat.le_of_ble_eq_true rfl) (by decide) (by decide) ?_
      rintro v588 T588 h588 L588 X588 e588 ⟨rfl, N588, rfl⟩
      have N588a := Fr.app N580a N588
      show Ends p e below _ T588 (mkF m 251 #[iv i0, iv i1, iv ch387, iv ch388, iv ch389, iv ch390, iv (0 : Int32), iv (1 : Int32), rv a392, rv a405, rv a418, rv a470, rv a498, rv a553, .unset] [(.ref a392)])
      refine go (fun _ => XS.astore X588.here hx rfl (hb hby at_251) rfl rfl (l' := #[iv i0, iv i1, iv ch387, iv ch388, iv ch389, iv ch390, iv (0 : Int32), iv (1 : Int32), rv a392, rv a405, rv a418, rv a470, rv a498, rv a553, rv a392]) rfl) ?_
      refine go (fun _ => XS.aload X588.here hx rfl (hb hby at_253) rfl rfl) ?_
      show Ends p e below _ T588 (mkF m 255 #[iv i0, iv i1, iv ch387, iv ch388, iv ch389, iv ch390, iv (0 : Int32), iv (1 : Int32), rv a392, rv a405, rv a418, rv a470, rv a498, rv a553, rv a392] [(.ref a392)])
      refine go (fun _ => XS.ifnullNo X588.here hx rfl (hb hby at_255) rfl) ?_
      show Ends p e below _ T588 (mkF m 258 #[iv i0, iv i1, iv ch387, iv ch388, iv ch389, iv ch390, iv (0 : Int32), iv (1 : Int32), rv a392, rv a405, rv a418, rv a470, rv a498, rv a553, rv a392] [])
      refine go (fun _ => XS.aload X588.here hx rfl (hb hby at_258) rfl rfl) ?_
      show Ends p e below _ T588 (mkF m 260 #[iv i0, iv i1, iv ch387, iv ch388, iv ch389, iv ch390, iv (0 : Int32), iv (1 : Int32), rv a392, rv a405, rv a418, rv a470, rv a498, rv a553, rv a392] [(.ref a392)])
      have F590 := (Fld.keep (Fld.ext E553 (Fld.keep (Fld.keep (Fld.ext E498 (Fld.keep (Fld.keep (Fld.other W446 (Fld.other W443 (Fld.ext E429 (Fld.ext E418 (Fld.keep Fc402 K405 nin0))) (Or.inl n435)) (Or.inl n435)) K453 (ninS n422 nin0)) K470 nin0)) K522 (ninS n507 nin0)) K527 (ninS n507 nin0))) K580 (ninS n565 nin0))
      have F591 := (Fld.keep (Fld.ext E553 (Fld.keep (Fld.keep (Fld.ext E498 (Fld.keep (Fld.keep (Fld.other W446 (Fld.other W443 (Fld.ext E429 (Fld.ext E418 (Fld.keep Fv402 K405 nin0))) (Or.inl n435)) (Or.inl n435)) K453 (ninS n422 nin0)) K470 nin0)) K522 (ninS n507 nin0)) K527 (ninS n507 nin0))) K580 (ninS n565 nin0))
      have F592 := (Arv.keep (Arv.ext F561 E553) K580 (ninS n572 nin0))
      refine cVirt X588 hx hZ hown (by rw [hml]; rfl) e588 (hwi hw 136 rfl) (hwi hw 137 rfl) (hwi hw 139 rfl) (hwi hw 138 rfl) (hwi hw 2 rfl) (hwi hw 140 rfl) (notFace_of_selects (args := #[]) (mvT hZ (hwi hw 139 rfl))) a392 F583 [] [] rfl (rm_length hw a392 b402 k402 (0 : Int32) _ _ O582 cz SCS hcz F590 F583 F591 F592) (hb hby at_260) rfl (lenOf pd_33 rfl) (by decide) (by decide) (Nat.le_of_ble_eq_true rfl) (by decide) (by decide) ?_
      rintro v593 T593 h593 L593 X593 e593 ⟨rfl, N593, rfl⟩
      have N593a := Fr.app N588a N593
      show Ends p e below _ T593 (mkF m 263 #[iv i0, iv i1, iv ch387, iv ch388, iv ch389, iv ch390, iv (0 : Int32), iv (1 : Int32), rv a392, rv a405, rv a418, rv a470, rv a498, rv a553, rv a392] [(.int (0 : Int32))])
      refine go (fun _ => XS.iload X593.here hx rfl (hb hby at_263) rfl) ?_
      show Ends p e below _ T593 (mkF m 265 #[iv i0, iv i1, iv ch387, iv ch388, iv ch389, iv ch390, iv (0 : Int32), iv (1 : Int32), rv a392, rv a405, rv a418, rv a470, rv a498, rv a553, rv a392] [(.int (0 : Int32)), (.int (0 : Int32))])
      refine go (fun _ => XS.icmpYes X593.here hx rfl (pc0 := 265) (pc' := 270) rfl (hb hby at_265) rfl (XT.ii_eq_t ((by decide) : (0 : Int32) = (0 : Int32))) (by decide) (by decide)) ?_
      show Ends p e below _ T593 (mkF m 270 #[iv i0, iv i1, iv ch387, iv ch388, iv ch389, iv ch390, iv (0 : Int32), iv (1 : Int32), rv a392, rv a405, rv a418, rv a470, rv a498, rv a553, rv a392] [])
      refine go (fun _ => XS.iload X593.here hx rfl (hb hby at_270) rfl) ?_
      refine go (fun _ => XT.iconstV X593.here hx rfl (1 : Int32) (hb hby at_272) (by decide)) ?_
      show Ends p e below _ T593 (mkF m 273 #[iv i0, iv i1, iv ch387, iv ch388, iv ch389, iv ch390, iv (0 : Int32), iv (1 : Int32), rv a392, rv a405, rv a418, rv a470, rv a498, rv a553, rv a392] [(.int (1 : Int32)), (.int (0 : Int32))])
      refine go (fun _ => XS.icmpYes X593.here hx rfl (pc0 := 273) (pc' := 288) rfl (hb hby at_273) rfl (XT.ii_lt_t ((by decide) : (0 : Int32) < (1 : Int32))) (by decide) (by decide)) ?_
      show Ends p e below _ T593 (mkF m 288 #[iv i0, iv i1, iv ch387, iv ch388, iv ch389, iv ch390, iv (0 : Int32), iv (1 : Int32), rv a392, rv a405, rv a418, rv a470, rv a498, rv a553, rv a392] [])
      refine go (fun _ => XS.iload X593.here hx rfl (hb hby at_288) rfl) ?_
      refine go (fun _ => XT.iconstV X593.here hx rfl (2 : Int32) (hb hby at_290) (by decide)) ?_
      show Ends p e below _ T593 (mkF m 291 #[iv i0, iv i1, iv ch387, iv ch388, iv ch389, iv ch390, iv (0 : Int32), iv (1 : Int32), rv a392, rv a405, rv a418, rv a470, rv a498, rv a553, rv a392] [(.int (2 : Int32)), (.int (0 : Int32))])
      refine go (fun _ => XS.icmpYes X593.here hx rfl (pc0 := 291) (pc' := 306) rfl (hb hby at_291) rfl (XT.ii_lt_t ((by decide) : (0 : Int32) < (2 : Int32))) (by decide) (by decide)) ?_
      show Ends p e below _ T593 (mkF m 306 #[iv i0, iv i1, iv ch387, iv ch388, iv ch389, iv ch390, iv (0 : Int32), iv (1 : Int32), rv a392, rv a405, rv a418, rv a470, rv a498, rv a553, rv a392] [])
      refine go (fun _ => XS.iload X593.here hx rfl (hb hby at_306) rfl) ?_
      refine go (fun _ => XT.iconstV X593.here hx rfl (3 : Int32) (hb hby at_308) (by decide)) ?_
      show Ends p e below _ T593 (mkF m 309 #[iv i0, iv i1, iv ch387, iv ch388, iv ch389, iv ch390, iv (0 : Int32), iv (1 : Int32), rv a392, rv a405, rv a418, rv a470, rv a498, rv a553, rv a392] [(.int (3 : Int32)), (.int (0 : Int32))])
      refine go (fun _ => XS.icmpYes X593.here hx rfl (pc0 := 309) (pc' := 325) rfl (hb hby at_309) rfl (XT.ii_lt_t ((by decide) : (0 : Int32) < (3 : Int32))) (by decide) (by decide)) ?_
      show Ends p e below _ T593 (mkF m 325 #[iv i0, iv i1, iv ch387, iv ch388, iv ch389, iv ch390, iv (0 : Int32), iv (1 : Int32), rv a392, rv a405, rv a418, rv a470, rv a498, rv a553, rv a392] [])
      refine go (fun _ => XS.aload X593.here hx rfl (hb hby at_325) rfl rfl) ?_
      show Ends p e below _ T593 (mkF m 327 #[iv i0, iv i1, iv ch387, iv ch388, iv ch389, iv ch390, iv (0 : Int32), iv (1 : Int32), rv a392, rv a405, rv a418, rv a470, rv a498, rv a553, rv a392] [(.ref a498)])
      refine cVirt X593 hx hZ hown (by rw [hml]; rfl) e593 (hwi hw 164 rfl) (hwi hw 165 rfl) (hwi hw 167 rfl) (hwi hw 166 rfl) (hwi hw 46 rfl) (hwi hw 168 rfl) (notFace_of_selects (args := #[]) (mvT hZ (hwi hw 167 rfl))) a498 F584 [] [] rfl (rm_size hw a498 (1 : Int32) _ F586) (hb hby at_327) rfl (lenOf pd_33 rfl) (by decide) (by decide) (Nat.le_of_ble_eq_true rfl) (by decide) (by decide) ?_
      rintro v594 T594 h594 L594 X594 e594 ⟨rfl, N594, rfl⟩
      have N594a := Fr.app N593a N594
      show Ends p e below _ T594 (mkF m 330 #[iv i0, iv i1, iv ch387, iv ch388, iv ch389, iv ch390, iv (0 : Int32), iv (1 : Int32), rv a392, rv a405, rv a418, rv a470, rv a498, rv a553, rv a392] [(.int (1 : Int32))])
      refine go (fun _ => XS.iload X594.here hx rfl (hb hby at_330) rfl) ?_
      show Ends p e below _ T594 (mkF m 332 #[iv i0, iv i1, iv ch387, iv ch388, iv ch389, iv ch390, iv (0 : Int32), iv (1 : Int32), rv a392, rv a405, rv a418, rv a470, rv a498, rv a553, rv a392] [(.int (1 : Int32)), (.int (1 : Int32))])
      refine go (fun _ => XS.icmpNo X594.here hx rfl (hb hby at_332) rfl (XT.ii_ne_f ((by decide) : (1 : Int32) = (1 : Int32)))) ?_
      show Ends p e below _ T594 (mkF m 335 #[iv i0, iv i1, iv ch387, iv ch388, iv ch389, iv ch390, iv (0 : Int32), iv (1 : Int32), rv a392, rv a405, rv a418, rv a470, rv a498, rv a553, rv a392] [])
      refine go (fun _ => XT.iconstV X594.here hx rfl (1 : Int32) (hb hby at_335) (by decide)) ?_
      refine go (fun _ => XS.goto X594.here hx rfl (pc0 := 336) (pc' := 340) rfl (hb hby at_336) (by decide) (by decide)) ?_
      show Ends p e below _ T594 (mkF m 340 #[iv i0, iv i1, iv ch387, iv ch388, iv ch389, iv ch390, iv (0 : Int32), iv (1 : Int32), rv a392, rv a405, rv a418, rv a470, rv a498, rv a553, rv a392] [(.int (1 : Int32))])
      exact endN X594 hx hret (by simp) (hb hby at_340) (lvW X594 hlk hZ (own_EW hw) hs0 hS hk H581 e594 (fun h => by rw [hret] at h; cases h) ⟨rfl, N594a⟩ (by decide) (by decide))
    · rw [q552]
      show Ends p e below _ T527 (mkF m 193 #[iv i0, iv i1, iv ch387, iv ch388, iv ch389, iv ch390, iv (0 : Int32), iv (2 : Int32), rv a392, rv a405, rv a418, rv a470, rv a498, .unset, .unset] [])
      refine go (fun _ => XS.iload X527.here hx rfl (hb hby at_193) rfl) ?_
      refine go (fun _ => XT.iconstV X527.here hx rfl (1 : Int32) (hb hby at_195) (by decide)) ?_
      show Ends p e below _ T527 (mkF m 196 #[iv i0, iv i1, iv ch387, iv ch388, iv ch389, iv ch390, iv (0 : Int32), iv (2 : Int32), rv a392, rv a405, rv a418, rv a470, rv a498, .unset, .unset] [(.int (1 : Int32)), (.int (2 : Int32))])
      refine go (fun _ => XS.icmpNo X527.here hx rfl (hb hby at_196) rfl (XT.ii_le_f ((by decide) : (1 : Int32) < (2 : Int32)))) ?_
      show Ends p e below _ T527 (mkF m 199 #[iv i0, iv i1, iv ch387, iv ch388, iv ch389, iv ch390, iv (0 : Int32), iv (2 : Int32), rv a392, rv a405, rv a418, rv a470, rv a498, .unset, .unset] [])
      refine go (fun _ => XS.aload X527.here hx rfl (hb hby at_199) rfl rfl) ?_
      refine go (fun _ => XS.aload X527.here hx rfl (hb hby at_201) rfl rfl) ?_
      show Ends p e below _ T527 (mkF m 203 #[iv i0, iv i1, iv ch387, iv ch388, iv ch389, iv ch390, iv (0 : Int32), iv (2 : Int32), rv a392, rv a405, rv a418, rv a470, rv a498, .unset, .unset] [(.ref a405), (.ref a498)])
      have F595 := (Exa.keep F525 K527)
      have F596 := (Exa.keep F531 K527)
      refine cVirt X527 hx hZ hown (by rw [hml]; rfl) e527 (hwi hw 68 rfl) (hwi hw 69 rfl) (hwi hw 71 rfl) (hwi hw 70 rfl) (hwi hw 46 rfl) (hwi hw 72 rfl) (notFace_of_selects (args := #[]) (mvT hZ (hwi hw 71 rfl))) a498 F595 [(.ref a405)] [] rfl (rm_add_1 hw a498 a405 b527 k527 (1 : Int32) a392 _ O551 f498 F595 F1527 F2527 F3527 f548 n539 O527 V527 F596 (Ne.symm n509) (Ne.symm n532)) (hb hby at_203) rfl (lenOf pd_30 rfl) (by decide) (by decide) (Nat.le_of_ble_eq_true rfl) (by decide) (by decide) ?_
      rintro v597 T597 h597 L597 X597 e597 ⟨rfl, N597, K597, F1597, F2597, F3597, V597⟩
      have N597a := Fr.app N527a N597
      have F599 := (Safe.keep K527 sf549 H523.1 F550)
      have sf598 : ∀ x ∈ [a498, b527], Safe Z own_EL T402.vm h527 x := (sfS F599 (sfS (Safe.arv hZ.alike V527 (by decide)) sf0))
      have C598 : CHr Z own_EL T402.vm h527 T402.vm h597 := CHr.keep K597 sf598 H549.1
      have hk := Nat.le_trans hk C598.2.1
      have H598 := H549.trans C598
      have O600 : Ext Z.heap h597 := xk O551 K597 (allS f498 (allS f548 all0))
      show Ends p e below _ T597 (mkF m 206 #[iv i0, iv i1, iv ch387, iv ch388, iv ch389, iv ch390, iv (0 : Int32), iv (2 : Int32), rv a392, rv a405, rv a418, rv a470, rv a498, .unset, .unset] [(.int (1 : Int32))])
      refine go (fun _ => XT.pop X597.here hx rfl (hb hby at_206) rfl rfl) ?_
      refine go (fun _ => XS.iload X597.here hx rfl (hb hby at_207) rfl) ?_
      refine go (fun _ => XT.iconstV X597.here hx rfl (2 : Int32) (hb hby at_209) (by decide)) ?_
      show Ends p e below _ T597 (mkF m 210 #[iv i0, iv i1, iv ch387, iv ch388, iv ch389, iv ch390, iv (0 : Int32), iv (2 : Int32), rv a392, rv a405, rv a418, rv a470, rv a498, .unset, .unset] [(.int (2 : Int32)), (.int (2 : Int32))])
      refine go (fun _ => XS.icmpYes X597.here hx rfl (pc0 := 210) (pc' := 221) rfl (hb hby at_210) rfl (XT.ii_le_t ((by decide) : ¬ ((2 : Int32) < (2 : Int32)))) (by decide) (by decide)) ?_
      show Ends p e below _ T597 (mkF m 221 #[iv i0, iv i1, iv ch387, iv ch388, iv ch389, iv ch390, iv (0 : Int32), iv (2 : Int32), rv a392, rv a405, rv a418, rv a470, rv a498, .unset, .unset] [])
      refine go (fun _ => XS.iload X597.here hx rfl (hb hby at_221) rfl) ?_
      refine go (fun _ => XT.iconstV X597.here hx rfl (3 : Int32) (hb hby at_223) (by decide)) ?_
      show Ends p e below _ T597 (mkF m 224 #[iv i0, iv i1, iv ch387, iv ch388, iv ch389, iv ch390, iv (0 : Int32), iv (2 : Int32), rv a392, rv a405, rv a418, rv a470, rv a498, .unset, .unset] [(.int (3 : Int32)), (.int (2 : Int32))])
      refine go (fun _ => XS.icmpYes X597.here hx rfl (pc0 := 224) (pc' := 235) rfl (hb hby at_224) rfl (XT.ii_le_t ((by decide) : ¬ ((3 : Int32) < (2 : Int32)))) (by decide) (by decide)) ?_
      show Ends p e below _ T597 (mkF m 235 #[iv i0, iv i1, iv ch387, iv ch388, iv ch389, iv ch390, iv (0 : Int32), iv (2 : Int32), rv a392, rv a405, rv a418, rv a470, rv a498, .unset, .unset] [])
      obtain ⟨T601, h601, X601, e601, E601, A601, D601, U601, s601⟩ := newO X597 hx hZ hown (hwi hw 99 rfl) (hwi hw 100 rfl) (hwi hw 101 rfl) e597 (g := (mkF m 235 #[iv i0, iv i1, iv ch387, iv ch388, iv ch389, iv ch390, iv (0 : Int32), iv (2 : Int32), rv a392, rv a405, rv a418, rv a470, rv a498, .unset, .unset] [])) rfl (hb hby at_235) (by decide) (by decide)
      have F602 := (Exa.keep (Exa.keep F526 K527) K597)
      have F603 := (Arv.keep (Arv.keep F529 K527 (ninS n508 nin0)) K597 (ninS n508 (ninS n530 nin0)))
      have F604 := (Exa.keep F596 K597)
      have F605 := (Exa.keep (Exa.keep F533 K527) K597)
      have F606 := (Arv.keep (Arv.keep F535 K527 (ninS n511 nin0)) K597 (ninS n511 (ninS n536 nin0)))
      have F607 := (Exa.keep (Exa.keep F537 K527) K597)
      have F608 := (Exa.keep F595 K597)
      have F609 := (Arv.keep (Arv.keep F540 K527 (ninS n513 nin0)) K597 (ninS n513 (ninS n541 nin0)))
      have F610 := (Arv.keep (Arv.keep F542 K527 (ninS n514 nin0)) K597 (ninS n514 (ninS n543 nin0)))
      have F611 := (Arv.keep (Arv.keep F544 K527 (ninS n515 nin0)) K597 (ninS n515 (ninS n545 nin0)))
      have F612 := (Arv.keep (Arv.keep F546 K527 (ninS n516 nin0)) K597 (ninS n516 (ninS n547 nin0)))
      obtain ⟨a601, g601⟩ : ∃ z : Addr, z = h597.size := ⟨_, rfl⟩
      have n613 : a392 ≠ a601 := fun q => absurd (F602.lt) (by rw [q, g601]; exact Nat.lt_irrefl _)
      have n614 : a395 ≠ a601 := fun q => absurd (F603.lt) (by rw [q, g601]; exact Nat.lt_irrefl _)
      have n615 : a405 ≠ a601 := fun q => absurd (F604.lt) (by rw [q, g601]; exact Nat.lt_irrefl _)
      have n616 : a418 ≠ a601 := fun q => absurd (F605.lt) (by rw [q, g601]; exact Nat.lt_irrefl _)
      have n617 : a429 ≠ a601 := fun q => absurd (F606.lt) (by rw [q, g601]; exact Nat.lt_irrefl _)
      have n618 : a470 ≠ a601 := fun q => absurd (F607.lt) (by rw [q, g601]; exact Nat.lt_irrefl _)
      have n619 : a498 ≠ a601 := fun q => absurd (F608.lt) (by rw [q, g601]; exact Nat.lt_irrefl _)
      have n620 : b402 ≠ a601 := fun q => absurd (F609.lt) (by rw [q, g601]; exact Nat.lt_irrefl _)
      have n621 : b405 ≠ a601 := fun q => absurd (F610.lt) (by rw [q, g601]; exact Nat.lt_irrefl _)
      have n622 : b453 ≠ a601 := fun q => absurd (F611.lt) (by rw [q, g601]; exact Nat.lt_irrefl _)
      have n623 : b470 ≠ a601 := fun q => absurd (F612.lt) (by rw [q, g601]; exact Nat.lt_irrefl _)
      have n624 : b527 ≠ a601 := fun q => absurd (V597.lt) (by rw [q, g601]; exact Nat.lt_irrefl _)
      have f601 : Z.heap.size ≤ a601 := by rw [g601]; exact (O600).1
      rw [← g601] at A601 D601 U601 s601
      have C625 : CHr Z own_EL T402.vm h597 T402.vm h601 := CHr.ext E601 H598.1
      have hk := Nat.le_trans hk C625.2.1
      have H625 := H598.trans C625
      have O626 : Ext Z.heap h601 := xx O600 E601
      have SF601 : Safe Z own_EL T402.vm h601 a601 := Safe.ext E601 H598.1 (Safe.new (by rw [g601]; exact Nat.le_refl _))
      refine go s601 ?_
      show Ends p e below _ T601 (mkF m 238 #[iv i0, iv i1, iv ch387, iv ch388, iv ch389, iv ch390, iv (0 : Int32), iv (2 : Int32), rv a392, rv a405, rv a418, rv a470, rv a498, .unset, .unset] [(.ref a601)])
      refine go (fun _ => XS.dup X601.here hx rfl (hb hby at_238) rfl rfl) ?_
      refine go (fun _ => XS.aload X601.here hx rfl (hb hby at_239) rfl rfl) ?_
      show Ends p e below _ T601 (mkF m 241 #[iv i0, iv i1, iv ch387, iv ch388, iv ch389, iv ch390, iv (0 : Int32), iv (2 : Int32), rv a392, rv a405, rv a418, rv a470, rv a498, .unset, .unset] [(.ref a498), (.ref a601), (.ref a601)])
      have F627 := (D601 (Or.inr (hwi hw 107 rfl)) (ty := (.object "java/util/List")) (by decide))
      refine cInit X601 hx hZ hown (by rw [hml]; rfl) e601 (hwi hw 102 rfl) (hwi hw 103 rfl) (hwi hw 101 rfl) (hwi hw 104 rfl) a601 [(.ref a498)] [(.ref a601)] rfl (rm_pg hw a601 a498 _ O626 f601 A601 F627  ) (hb hby at_241) rfl (lenOf pd_31 rfl) rfl (by decide) (by decide) (Nat.le_of_ble_eq_true rfl) (by decide) (by decide) ?_
      rintro v628 T628 h628 L628 X628 e628 ⟨rfl, N628, K628, F628_0⟩
      have N628a := Fr.app N597a N628
      have sf629 : ∀ x ∈ [a601], Safe Z own_EL T402.vm h601 x := (sfS SF601 sf0)
      have C629 : CHr Z own_EL T402.vm h601 T402.vm h628 := CHr.keep K628 sf629 H625.1
      have hk := Nat.le_trans hk C629.2.1
      have H629 := H625.trans C629
      have O630 : Ext Z.heap h628 := xk O626 K628 (allS f601 all0)
      show Ends p e below _ T628 (mkF m 244 #[iv i0, iv i1, iv ch387, iv ch388, iv ch389, iv ch390, iv (0 : Int32), iv (2 : Int32), rv a392, rv a405, rv a418, rv a470, rv a498, .unset, .unset] [(.ref a601)])
      refine go (fun _ => XS.astore X628.here hx rfl (hb hby at_244) rfl rfl (l' := #[iv i0, iv i1, iv ch387, iv ch388, iv ch389, iv ch390, iv (0 : Int32), iv (2 : Int32), rv a392, rv a405, rv a418, rv a470, rv a498, rv a601, .unset]) rfl) ?_
      refine go (fun _ => XS.aload X628.here hx rfl (hb hby at_246) rfl rfl) ?_
      show Ends p e below _ T628 (mkF m 248 #[iv i0, iv i1, iv ch387, iv ch388, iv ch389, iv ch390, iv (0 : Int32), iv (2 : Int32), rv a392, rv a405, rv a418, rv a470, rv a498, rv a601, .unset] [(.ref a601)])
      have F631 := (Exa.keep (Exa.ext E601 F602) K628)
      have F632 := (Exa.keep (Exa.ext E601 F608) K628)
      have F633 := (Fld.keep (Fld.ext E601 F2597) K628 (ninS n619 nin0))
      have F634 := (Fld.keep (Fld.ext E601 F3597) K628 (ninS n619 nin0))
      have F635 := (Arv.keep (Arv.ext V597 E601) K628 (ninS n624 nin0))
      have F637 := (Exa.keep A601 K628)
      refine cVirt X628 hx hZ hown (by rw [hml]; rfl) e628 (hwi hw 108 rfl) (hwi hw 109 rfl) (hwi hw 111 rfl) (hwi hw 110 rfl) (hwi hw 101 rfl) (hwi hw 112 rfl) (notFace_of_selects (args := #[]) (mvT hZ (hwi hw 111 rfl))) a601 F637 [] [] rfl (rm_name hw a601 a498 b527 a392 k527 (2 : Int32) _ _ F628_0 F631 F632 F633 F634 F635 (by decide)) (hb hby at_248) rfl (lenOf pd_32 rfl) (by decide) (by decide) (Nat.le_of_ble_eq_true rfl) (by decide) (by decide) ?_
      rintro v636 T636 h636 L636 X636 e636 ⟨rfl, N636, rfl⟩
      have N636a := Fr.app N628a N636
      show Ends p e below _ T636 (mkF m 251 #[iv i0, iv i1, iv ch387, iv ch388, iv ch389, iv ch390, iv (0 : Int32), iv (2 : Int32), rv a392, rv a405, rv a418, rv a470, rv a498, rv a601, .unset] [(.ref a392)])
      refine go (fun _ => XS.astore X636.here hx rfl (hb hby at_251) rfl rfl (l' := #[iv i0, iv i1, iv ch387, iv ch388, iv ch389, iv ch390, iv (0 : Int32), iv (2 : Int32), rv a392, rv a405, rv a418, rv a470, rv a498, rv a601, rv a392]) rfl) ?_
      refine go (fun _ => XS.aload X636.here hx rfl (hb hby at_253) rfl rfl) ?_
      show Ends p e below _ T636 (mkF m 255 #[iv i0, iv i1, iv ch387, iv ch388, iv ch389, iv ch390, iv (0 : Int32), iv (2 : Int32), rv a392, rv a405, rv a418, rv a470, rv a498, rv a601, rv a392] [(.ref a392)])
      refine go (fun _ => XS.ifnullNo X636.here hx rfl (hb hby at_255) rfl) ?_
      show Ends p e below _ T636 (mkF m 258 #[iv i0, iv i1, iv ch387, iv ch388, iv ch389, iv ch390, iv (0 : Int32), iv (2 : Int32), rv a392, rv a405, rv a418, rv a470, rv a498, rv a601, rv a392] [])
      refine go (fun _ => XS.aload X636.here hx rfl (hb hby at_258) rfl rfl) ?_
      show Ends p e below _ T636 (mkF m 260 #[iv i0, iv i1, iv ch387, iv ch388, iv ch389, iv ch390, iv (0 : Int32), iv (2 : Int32), rv a392, rv a405, rv a418, rv a470, rv a498, rv a601, rv a392] [(.ref a392)])
      have F638 := (Fld.keep (Fld.ext E601 (Fld.keep (Fld.keep (Fld.keep (Fld.ext E498 (Fld.keep (Fld.keep (Fld.other W446 (Fld.other W443 (Fld.ext E429 (Fld.ext E418 (Fld.keep Fc402 K405 nin0))) (Or.inl n435)) (Or.inl n435)) K453 (ninS n422 nin0)) K470 nin0)) K522 (ninS n507 nin0)) K527 (ninS n507 nin0)) K597 (ninS n507 (ninS n528 nin0)))) K628 (ninS n613 nin0))
      have F639 := (Fld.keep (Fld.ext E601 (Fld.keep (Fld.keep (Fld.keep (Fld.ext E498 (Fld.keep (Fld.keep (Fld.other W446 (Fld.other W443 (Fld.ext E429 (Fld.ext E418 (Fld.keep Fv402 K405 nin0))) (Or.inl n435)) (Or.inl n435)) K453 (ninS n422 nin0)) K470 nin0)) K522 (ninS n507 nin0)) K527 (ninS n507 nin0)) K597 (ninS n507 (ninS n528 nin0)))) K628 (ninS n613 nin0))
      have F640 := (Arv.keep (Arv.ext F609 E601) K628 (ninS n620 nin0))
      refine cVirt X636 hx hZ hown (by rw [hml]; rfl) e636 (hwi hw 136 rfl) (hwi hw 137 rfl) (hwi hw 139 rfl) (hwi hw 138 rfl) (hwi hw 2 rfl) (hwi hw 140 rfl) (notFace_of_selects (args := #[]) (mvT hZ (hwi hw 139 rfl))) a392 F631 [] [] rfl (rm_length hw a392 b402 k402 (0 : Int32) _ _ O630 cz SCS hcz F638 F631 F639 F640) (hb hby at_260) rfl (lenOf pd_33 rfl) (by decide) (by decide) (Nat.le_of_ble_eq_true rfl) (by decide) (by decide) ?_
      rintro v641 T641 h641 L641 X641 e641 ⟨rfl, N641, rfl⟩
      have N641a := Fr.app N636a N641
      show Ends p e below _ T641 (mkF m 263 #[iv i0, iv i1, iv ch387, iv ch388, iv ch389, iv ch390, iv (0 : Int32), iv (2 : Int32), rv a392, rv a405, rv a418, rv a470, rv a498, rv a601, rv a392] [(.int (0 : Int32))])
      refine go (fun _ => XS.iload X641.here hx rfl (hb hby at_263) rfl) ?_
      show Ends p e below _ T641 (mkF m 265 #[iv i0, iv i1, iv ch387, iv ch388, iv ch389, iv ch390, iv (0 : Int32), iv (2 : Int32), rv a392, rv a405, rv a418, rv a470, rv a498, rv a601, rv a392] [(.int (0 : Int32)), (.int (0 : Int32))])
      refine go (fun _ => XS.icmpYes X641.here hx rfl (pc0 := 265) (pc' := 270) rfl (hb hby at_265) rfl (XT.ii_eq_t ((by decide) : (0 : Int32) = (0 : Int32))) (by decide) (by decide)) ?_
      show Ends p e below _ T641 (mkF m 270 #[iv i0, iv i1, iv ch387, iv ch388, iv ch389, iv ch390, iv (0 : Int32), iv (2 : Int32), rv a392, rv a405, rv a418, rv a470, rv a498, rv a601, rv a392] [])
      refine go (fun _ => XS.iload X641.here hx rfl (hb hby at_270) rfl) ?_
      refine go (fun _ => XT.iconstV X641.here hx rfl (1 : Int32) (hb hby at_272) (by decide)) ?_
      show Ends p e below _ T641 (mkF m 273 #[iv i0, iv i1, iv ch387, iv ch388, iv ch389, iv ch390, iv (0 : Int32), iv (2 : Int32), rv a392, rv a405, rv a418, rv a470, rv a498, rv a601, rv a392] [(.int (1 : Int32)), (.int (0 : Int32))])
      refine go (fun _ => XS.icmpYes X641.here hx rfl (pc0 := 273) (pc' := 288) rfl (hb hby at_273) rfl (XT.ii_lt_t ((by decide) : (0 : Int32) < (1 : Int32))) (by decide) (by decide)) ?_
      show Ends p e below _ T641 (mkF m 288 #[iv i0, iv i1, iv ch387, iv ch388, iv ch389, iv ch390, iv (0 : Int32), iv (2 : Int32), rv a392, rv a405, rv a418, rv a470, rv a498, rv a601, rv a392] [])
      refine go (fun _ => XS.iload X641.here hx rfl (hb hby at_288) rfl) ?_
      refine go (fun _ => XT.iconstV X641.here hx rfl (2 : Int32) (hb hby at_290) (by decide)) ?_
      show Ends p e below _ T641 (mkF m 291 #[iv i0, iv i1, iv ch387, iv ch388, iv ch389, iv ch390, iv (0 : Int32), iv (2 : Int32), rv a392, rv a405, rv a418, rv a470, rv a498, rv a601, rv a392] [(.int (2 : Int32)), (.int (0 : Int32))])
      refine go (fun _ => XS.icmpYes X641.here hx rfl (pc0 := 291) (pc' := 306) rfl (hb hby at_291) rfl (XT.ii_lt_t ((by decide) : (0 : Int32) < (2 : Int32))) (by decide) (by decide)) ?_
      show Ends p e below _ T641 (mkF m 306 #[iv i0, iv i1, iv ch387, iv ch388, iv ch389, iv ch390, iv (0 : Int32), iv (2 : Int32), rv a392, rv a405, rv a418, rv a470, rv a498, rv a601, rv a392] [])
      refine go (fun _ => XS.iload X641.here hx rfl (hb hby at_306) rfl) ?_
      refine go (fun _ => XT.iconstV X641.here hx rfl (3 : Int32) (hb hby at_308) (by decide)) ?_
      show Ends p e below _ T641 (mkF m 309 #[iv i0, iv i1, iv ch387, iv ch388, iv ch389, iv ch390, iv (0 : Int32), iv (2 : Int32), rv a392, rv a405, rv a418, rv a470, rv a498, rv a601, rv a392] [(.int (3 : Int32)), (.int (0 : Int32))])
      refine go (fun _ => XS.icmpYes X641.here hx rfl (pc0 := 309) (pc' := 325) rfl (hb hby at_309) rfl (XT.ii_lt_t ((by decide) : (0 : Int32) < (3 : Int32))) (by decide) (by decide)) ?_
      show Ends p e below _ T641 (mkF m 325 #[iv i0, iv i1, iv ch387, iv ch388, iv ch389, iv ch390, iv (0 : Int32), iv (2 : Int32), rv a392, rv a405, rv a418, rv a470, rv a498, rv a601, rv a392] [])
      refine go (fun _ => XS.aload X641.here hx rfl (hb hby at_325) rfl rfl) ?_
      show Ends p e below _ T641 (mkF m 327 #[iv i0, iv i1, iv ch387, iv ch388, iv ch389, iv ch390, iv (0 : Int32), iv (2 : Int32), rv a392, rv a405, rv a418, rv a470, rv a498, rv a601, rv a392] [(.ref a498)])
      refine cVirt X641 hx hZ hown (by rw [hml]; rfl) e641 (hwi hw 164 rfl) (hwi hw 165 rfl) (hwi hw 167 rfl) (hwi hw 166 rfl) (hwi hw 46 rfl) (hwi hw 168 rfl) (notFace_of_selects (args := #[]) (mvT hZ (hwi hw 167 rfl))) a498 F632 [] [] rfl (rm_size hw a498 (2 : Int32) _ F634) (hb hby at_327) rfl (lenOf pd_33 rfl) (by decide) (by decide) (Nat.le_of_ble_eq_true rfl) (by decide) (by decide) ?_
      rintro v642 T642 h642 L642 X642 e642 ⟨rfl, N642, rfl⟩
      have N642a := Fr.app N641a N642
      show Ends p e below _ T642 (mkF m 330 #[iv i0, iv i1, iv ch387, iv ch388, iv ch389, iv ch390, iv (0 : Int32), iv (2 : Int32), rv a392, rv a405, rv a418, rv a470, rv a498, rv a601, rv a392] [(.int (2 : Int32))])
      refine go (fun _ => XS.iload X642.here hx rfl (hb hby at_330) rfl) ?_
      show Ends p e below _ T642 (mkF m 332 #[iv i0, iv i1, iv ch387, iv ch388, iv ch389, iv ch390, iv (0 : Int32), iv (2 : Int32), rv a392, rv a405, rv a418, rv a470, rv a498, rv a601, rv a392] [(.int (2 : Int32)), (.int (2 : Int32))])
      refine go (fun _ => XS.icmpNo X642.here hx rfl (hb hby at_332) rfl (XT.ii_ne_f ((by decide) : (2 : Int32) = (2 : Int32)))) ?_
      show Ends p e below _ T642 (mkF m 335 #[iv i0, iv i1, iv ch387, iv ch388, iv ch389, iv ch390, iv (0 : Int32), iv (2 : Int32), rv a392, rv a405, rv a418, rv a470, rv a498, rv a601, rv a392] [])
      refine go (fun _ => XT.iconstV X642.here hx rfl (1 : Int32) (hb hby at_335) (by decide)) ?_
      refine go (fun _ => XS.goto X642.here hx rfl (pc0 := 336) (pc' := 340) rfl (hb hby at_336) (by decide) (by decide)) ?_
      show Ends p e below _ T642 (mkF m 340 #[iv i0, iv i1, iv ch387, iv ch388, iv ch389, iv ch390, iv (0 : Int32), iv (2 : Int32), rv a392, rv a405, rv a418, rv a470, rv a498, rv a601, rv a392] [(.int (1 : Int32))])
      exact endN X642 hx hret (by simp) (hb hby at_340) (lvW X642 hlk hZ (own_EW hw) hs0 hS hk H629 e642 (fun h => by rw [hret] at h; cases h) ⟨rfl, N642a⟩ (by decide) (by decide))
    · rw [q552]
      show Ends p e below _ T527 (mkF m 193 #[iv i0, iv i1, iv ch387, iv ch388, iv ch389, iv ch390, iv (0 : Int32), iv (3 : Int32), rv a392, rv a405, rv a418, rv a470, rv a498, .unset, .unset] [])
      refine go (fun _ => XS.iload X527.here hx rfl (hb hby at_193) rfl) ?_
      refine go (fun _ => XT.iconstV X527.here hx rfl (1 : Int32) (hb hby at_195) (by decide)) ?_
      show Ends p e below _ T527 (mkF m 196 #[iv i0, iv i1, iv ch387, iv ch388, iv ch389, iv ch390, iv (0 : Int32), iv (3 : Int32), rv a392, rv a405, rv a418, rv a470, rv a498, .unset, .unset] [(.int (1 : Int32)), (.int (3 : Int32))])
      refine go (fun _ => XS.icmpNo X527.here hx rfl (hb hby at_196) rfl (XT.ii_le_f ((by decide) : (1 : Int32) < (3 : Int32)))) ?_
      show Ends p e below _ T527 (mkF m 199 #[iv i0, iv i1, iv ch387, iv ch388, iv ch389, iv ch390, iv (0 : Int32), iv (3 : Int32), rv a392, rv a405, rv a418, rv a470, rv a498, .unset, .unset] [])
      refine go (fun _ => XS.aload X527.here hx rfl (hb hby at_199) rfl rfl) ?_
      refine go (fun _ => XS.aload X527.here hx rfl (hb hby at_201) rfl rfl) ?_
      show Ends p e below _ T527 (mkF m 203 #[iv i0, iv i1, iv ch387, iv ch388, iv ch389, iv ch390, iv (0 : Int32), iv (3 : Int32), rv a392, rv a405, rv a418, rv a470, rv a498, .unset, .unset] [(.ref a405), (.ref a498)])
      have F643 := (Exa.keep F525 K527)
      have F644 := (Exa.keep F531 K527)
      refine cVirt X527 hx hZ hown (by rw [hml]; rfl) e527 (hwi hw 68 rfl) (hwi hw 69 rfl) (hwi hw 71 rfl) (hwi hw 70 rfl) (hwi hw 46 rfl) (hwi hw 72 rfl) (notFace_of_selects (args := #[]) (mvT hZ (hwi hw 71 rfl))) a498 F643 [(.ref a405)] [] rfl (rm_add_1 hw a498 a405 b527 k527 (1 : Int32) a392 _ O551 f498 F643 F1527 F2527 F3527 f548 n539 O527 V527 F644 (Ne.symm n509) (Ne.symm n532)) (hb hby at_203) rfl (lenOf pd_30 rfl) (by decide) (by decide) (Nat.le_of_ble_eq_true rfl) (by decide) (by decide) ?_
      rintro v645 T645 h645 L645 X645 e645 ⟨rfl, N645, K645, F1645, F2645, F3645, V645⟩
      have N645a := Fr.app N527a N645
      have F647 := (Safe.keep K527 sf549 H523.1 F550)
      have sf646 : ∀ x ∈ [a498, b527], Safe Z own_EL T402.vm h527 x := (sfS F647 (sfS (Safe.arv hZ.alike V527 (by decide)) sf0))
      have C646 : CHr Z own_EL T402.vm h527 T402.vm h645 := CHr.keep K645 sf646 H549.1
      have hk := Nat.le_trans hk C646.2.1
      have H646 := H549.trans C646
      have O648 : Ext Z.heap h645 := xk O551 K645 (allS f498 (allS f548 all0))
      show Ends p e below _ T645 (mkF m 206 #[iv i0, iv i1, iv ch387, iv ch388, iv ch389, iv ch390, iv (0 : Int32), iv (3 : Int32), rv a392, rv a405, rv a418, rv a470, rv a498, .unset, .unset] [(.int (1 : Int32))])
      refine go (fun _ => XT.pop X645.here hx rfl (hb hby at_206) rfl rfl) ?_
      refine go (fun _ => XS.iload X645.here hx rfl (hb hby at_207) rfl) ?_
      refine go (fun _ => XT.iconstV X645.here hx rfl (2 : Int32) (hb hby at_209) (by decide)) ?_
      show Ends p e below _ T645 (mkF m 210 #[iv i0, iv i1, iv ch387, iv ch388, iv ch389, iv ch390, iv (0 : Int32), iv (3 : Int32), rv a392, rv a405, rv a418, rv a470, rv a498, .unset, .unset] [(.int (2 : Int32)), (.int (3 : Int32))])
      refine go (fun _ => XS.icmpNo X645.here hx rfl (hb hby at_210) rfl (XT.ii_le_f ((by decide) : (2 : Int32) < (3 : Int32)))) ?_
      show Ends p e below _ T645 (mkF m 213 #[iv i0, iv i1, iv ch387, iv ch388, iv ch389, iv ch390, iv (0 : Int32), iv (3 : Int32), rv a392, rv a405, rv a418, rv a470, rv a498, .unset, .unset] [])
      refine go (fun _ => XS.aload X645.here hx rfl (hb hby at_213) rfl rfl) ?_
      refine go (fun _ => XS.aload X645.here hx rfl (hb hby at_215) rfl rfl) ?_
      show Ends p e below _ T645 (mkF m 217 #[iv i0, iv i1, iv ch387, iv ch388, iv ch389, iv ch390, iv (0 : Int32), iv (3 : Int32), rv a392, rv a405, rv a418, rv a470, rv a498, .unset, .unset] [(.ref a418), (.ref a498)])
      have F649 := (Exa.keep F643 K645)
      have F650 := (Exa.keep (Exa.keep F533 K527) K645)
      refine cVirt X645 hx hZ hown (by rw [hml]; rfl) e645 (hwi hw 68 rfl) (hwi hw 69 rfl) (hwi hw 71 rfl) (hwi hw 70 rfl) (hwi hw 46 rfl) (hwi hw 72 rfl) (notFace_of_selects (args := #[]) (mvT hZ (hwi hw 71 rfl))) a498 F649 [(.ref a418)] [] rfl (rm_add_2 hw a498 a418 b527 k527 (2 : Int32) a392 a405 _ O648 f498 F649 F1645 F2645 F3645 f548 n539 O527 V645 F650 (Ne.symm n510) (Ne.symm n534)) (hb hby at_217) rfl (lenOf pd_30 rfl) (by decide) (by decide) (Nat.le_of_ble_eq_true rfl) (by decide) (by decide) ?_
      rintro v651 T651 h651 L651 X651 e651 ⟨rfl, N651, K651, F1651, F2651, F3651, V651⟩
      have N651a := Fr.app N645a N651
      have F653 := (Safe.keep K645 sf646 H549.1 F647)
      have sf652 : ∀ x ∈ [a498, b527], Safe Z own_EL T402.vm h645 x := (sfS F653 (sfS (Safe.arv hZ.alike V645 (by decide)) sf0))
      have C652 : CHr Z own_EL T402.vm h645 T402.vm h651 := CHr.keep K651 sf652 H646.1
      have hk := Nat.le_trans hk C652.2.1
      have H652 := H646.trans C652
      have O654 : Ext Z.heap h651 := xk O648 K651 (allS f498 (allS f548 all0))
      show Ends p e below _ T651 (mkF m 220 #[iv i0, iv i1, iv ch387, iv ch388, iv ch389, iv ch390, iv (0 : Int32), iv (3 : Int32), rv a392, rv a405, rv a418, rv a470, rv a498, .unset, .unset] [(.int (1 : Int32))])
      refine go (fun _ => XT.pop X651.here hx rfl (hb hby at_220) rfl rfl) ?_
      refine go (fun _ => XS.iload X651.here hx rfl (hb hby at_221) rfl) ?_
      refine go (fun _ => XT.iconstV X651.here hx rfl (3 : Int32) (hb hby at_223) (by decide)) ?_
      show Ends p e below _ T651 (mkF m 224 #[iv i0, iv i1, iv ch387, iv ch388, iv ch389, iv ch390, iv (0 : Int32), iv (3 : Int32), rv a392, rv a405, rv a418, rv a470, rv a498, .unset, .unset] [(.int (3 : Int32)), (.int (3 : Int32))])
      refine go (fun _ => XS.icmpYes X651.here hx rfl (pc0 := 224) (pc' := 235) rfl (hb hby at_224) rfl (XT.ii_le_t ((by decide) : ¬ ((3 : Int32) < (3 : Int32)))) (by decide) (by decide)) ?_
      show Ends p e below _ T651 (mkF m 235 #[iv i0, iv i1, iv ch387, iv ch388, iv ch389, iv ch390, iv (0 : Int32), iv (3 : Int32), rv a392, rv a405, rv a418, rv a470, rv a498, .unset, .unset] [])
      obtain ⟨T655, h655, X655, e655, E655, A655, D655, U655, s655⟩ := newO X651 hx hZ hown (hwi hw 99 rfl) (hwi hw 100 rfl) (hwi hw 101 rfl) e651 (g := (mkF m 235 #[iv i0, iv i1, iv ch387, iv ch388, iv ch389, iv ch390, iv (0 : Int32), iv (3 : Int32), rv a392, rv a405, rv a418, rv a470, rv a498, .unset, .unset] [])) rfl (hb hby at_235) (by decide) (by decide)
      have F656 := (Exa.keep (Exa.keep (Exa.keep F526 K527) K645) K651)
      have F657 := (Arv.keep (Arv.keep (Arv.keep F529 K527 (ninS n508 nin0)) K645 (ninS n508 (ninS n530 nin0))) K651 (ninS n508 (ninS n530 nin0)))
      have F658 := (Exa.keep (Exa.keep F644 K645) K651)
      have F659 := (Exa.keep F650 K651)
      have F660 := (Arv.keep (Arv.keep (Arv.keep F535 K527 (ninS n511 nin0)) K645 (ninS n511 (ninS n536 nin0))) K651 (ninS n511 (ninS n536 nin0)))
      have F661 := (Exa.keep (Exa.keep (Exa.keep F537 K527) K645) K651)
      have F662 := (Exa.keep F649 K651)
      have F663 := (Arv.keep (Arv.keep (Arv.keep F540 K527 (ninS n513 nin0)) K645 (ninS n513 (ninS n541 nin0))) K651 (ninS n513 (ninS n541 nin0)))
      have F664 := (Arv.keep (Arv.keep (Arv.keep F542 K527 (ninS n514 nin0)) K645 (ninS n514 (ninS n543 nin0))) K651 (ninS n514 (ninS n543 nin0)))
      have F665 := (Arv.keep (Arv.keep (Arv.keep F544 K527 (ninS n515 nin0)) K645 (ninS n515 (ninS n545 nin0))) K651 (ninS n515 (ninS n545 nin0)))
      have F666 := (Arv.keep (Arv.keep (Arv.keep F546 K527 (ninS n516 nin0)) K645 (ninS n516 (ninS n547 nin0))) K651 (ninS n516 (ninS n547 nin0)))
      obtain ⟨a655, g655⟩ : ∃ z : Addr, z = h651.size := ⟨_, rfl⟩
      have n667 : a392 ≠ a655 := fun q => absurd (F656.lt) (by rw [q, g655]; exact Nat.lt_irrefl _)
      have n668 : a395 ≠ a655 := fun q => absurd (F657.lt) (by rw [q, g655]; exact Nat.lt_irrefl _)
      have n669 : a405 ≠ a655 := fun q => absurd (F658.lt) (by rw [q, g655]; exact Nat.lt_irrefl _)
      have n670 : a418 ≠ a655 := fun q => absurd (F659.lt) (by rw [q, g655]; exact Nat.lt_irrefl _)
      have n671 : a429 ≠ a655 := fun q => absurd (F660.lt) (by rw [q, g655]; exact Nat.lt_irrefl _)
      have n672 : a470 ≠ a655 := fun q => absurd (F661.lt) (by rw [q, g655]; exact Nat.lt_irrefl _)
      have n673 : a498 ≠ a655 := fun q => absurd (F662.lt) (by rw [q, g655]; exact Nat.lt_irrefl _)
      have n674 : b402 ≠ a655 := fun q => absurd (F663.lt) (by rw [q, g655]; exact Nat.lt_irrefl _)
      have n675 : b405 ≠ a655 := fun q => absurd (F664.lt) (by rw [q, g655]; exact Nat.lt_irrefl _)
      have n676 : b453 ≠ a655 := fun q => absurd (F665.lt) (by rw [q, g655]; exact Nat.lt_irrefl _)
      have n677 : b470 ≠ a655 := fun q => absurd (F666.lt) (by rw [q, g655]; exact Nat.lt_irrefl _)
      have n678 : b527 ≠ a655 := fun q => absurd (V651.lt) (by rw [q, g655]; exact Nat.lt_irrefl _)
      have f655 : Z.heap.size ≤ a655 := by rw [g655]; exact (O654).1
      rw [← g655] at A655 D655 U655 s655
      have C679 : CHr Z own_EL T402.vm h651 T402.vm h655 := CHr.ext E655 H652.1
      have hk := Nat.le_trans hk C679.2.1
      have H679 := H652.trans C679
      have O680 : Ext Z.heap h655 := xx O654 E655
      have SF655 : Safe Z own_EL T402.vm h655 a655 := Safe.ext E655 H652.1 (Safe.new (by rw [g655]; exact Nat.le_refl _))
      refine go s655 ?_
      show Ends p e below _ T655 (mkF m 238 #[iv i0, iv i1, iv ch387, iv ch388, iv ch389, iv ch390, iv (0 : Int32), iv (3 : Int32), rv a392, rv a405, rv a418, rv a470, rv a498, .unset, .unset] [(.ref a655)])
      refine go (fun _ => XS.dup X655.here hx rfl (hb hby at_238) rfl rfl) ?_
      refine go (fun _ => XS.aload X655.here hx rfl (hb hby at_239) rfl rfl) ?_
      show Ends p e below _ T655 (mkF m 241 #[iv i0, iv i1, iv ch387, iv ch388, iv ch389, iv ch390, iv (0 : Int32), iv (3 : Int32), rv a392, rv a405, rv a418, rv a470, rv a498, .unset, .unset] [(.ref a498), (.ref a655), (.ref a655)])
      have F681 := (D655 (Or.inr (hwi hw 107 rfl)) (ty := (.object "java/util/List")) (by decide))
      refine cInit X655 hx hZ hown (by rw [hml]; rfl) e655 (hwi hw 102 rfl) (hwi hw 103 rfl) (hwi hw 101 rfl) (hwi hw 104 rfl) a655 [(.ref a498)] [(.ref a655)] rfl (rm_pg hw a655 a498 _ O680 f655 A655 F681  ) (hb hby at_241) rfl (lenOf pd_31 rfl) rfl (by decide) (by decide) (Nat.le_of_ble_eq_true rfl) (by decide) (by decide) ?_
      rintro v682 T682 h682 L682 X682 e682 ⟨rfl, N682, K682, F682_0⟩
      have N682a := Fr.app N651a N682
      have sf683 : ∀ x ∈ [a655], Safe Z own_EL T402.vm h655 x := (sfS SF655 sf0)
      have C683 : CHr Z own_EL T402.vm h655 T402.vm h682 := CHr.keep K682 sf683 H679.1
      have hk := Nat.le_trans hk C683.2.1
      have H683 := H679.trans C683
      have O684 : Ext Z.heap h682 := xk O680 K682 (allS f655 all0)
      show Ends p e below _ T682 (mkF m 244 #[iv i0, iv i1, iv ch387, iv ch388, iv ch389, iv ch390, iv (0 : Int32), iv (3 : Int32), rv a392, rv a405, rv a418, rv a470, rv a498, .unset, .unset] [(.ref a655)])
      refine go (fun _ => XS.astore X682.here hx rfl (hb hby at_244) rfl rfl (l' := #[iv i0, iv i1, iv ch387, iv ch388, iv ch389, iv ch390, iv (0 : Int32), iv (3 : Int32), rv a392, rv a405, rv a418, rv a470, rv a498, rv a655, .unset]) rfl) ?_
      refine go (fun _ => XS.aload X682.here hx rfl (hb hby at_246) rfl rfl) ?_
      show Ends p e below _ T682 (mkF m 248 #[iv i0, iv i1, iv ch387, iv ch388, iv ch389, iv ch390, iv (0 : Int32), iv (3 : Int32), rv a392, rv a405, rv a418, rv a470, rv a498, rv a655, .unset] [(.ref a655)])
      have F685 := (Exa.keep (Exa.ext E655 F656) K682)
      have F686 := (Exa.keep (Exa.ext E655 F662) K682)
      have F687 := (Fld.keep (Fld.ext E655 F2651) K682 (ninS n673 nin0))
      have F688 := (Fld.keep (Fld.ext E655 F3651) K682 (ninS n673 nin0))
      have F689 := (Arv.keep (Arv.ext V651 E655) K682 (ninS n678 nin0))
      have F691 := (Exa.keep A655 K682)
      refine cVirt X682 hx hZ hown (by rw [hml]; rfl) e682 (hwi hw 108 rfl) (hwi hw 109 rfl) (hwi hw 111 rfl) (hwi hw 110 rfl) (hwi hw 101 rfl) (hwi hw 112 rfl) (notFace_of_selects (args := #[]) (mvT hZ (hwi hw 111 rfl))) a655 F691 [] [] rfl (rm_name hw a655 a498 b527 a392 k527 (3 : Int32) _ _ F682_0 F685 F686 F687 F688 F689 (by decide)) (hb hby at_248) rfl (lenOf pd_32 rfl) (by decide) (by decide) (Nat.le_of_ble_eq_true rfl) (by decide) (by decide) ?_
      rintro v690 T690 h690 L690 X690 e690 ⟨rfl, N690, rfl⟩
      have N690a := Fr.app N682a N690
      show Ends p e below _ T690 (mkF m 251 #[iv i0, iv i1, iv ch387, iv ch388, iv ch389, iv ch390, iv (0 : Int32), iv (3 : Int32), rv a392, rv a405, rv a418, rv a470, rv a498, rv a655, .unset] [(.ref a392)])
      refine go (fun _ => XS.astore X690.here hx rfl (hb hby at_251) rfl rfl (l' := #[iv i0, iv i1, iv ch387, iv ch388, iv ch389, iv ch390, iv (0 : Int32), iv (3 : Int32), rv a392, rv a405, rv a418, rv a470, rv a498, rv a655, rv a392]) rfl) ?_
      refine go (fun _ => XS.aload X690.here hx rfl (hb hby at_253) rfl rfl) ?_
      show Ends p e below _ T690 (mkF m 255 #[iv i0, iv i1, iv ch387, iv ch388, iv ch389, iv ch390, iv (0 : Int32), iv (3 : Int32), rv a392, rv a405, rv a418, rv a470, rv a498, rv a655, rv a392] [(.ref a392)])
      refine go (fun _ => XS.ifnullNo X690.here hx rfl (hb hby at_255) rfl) ?_
      show Ends p e below _ T690 (mkF m 258 #[iv i0, iv i1, iv ch387, iv ch388, iv ch389, iv ch390, iv (0 : Int32), iv (3 : Int32), rv a392, rv a405, rv a418, rv a470, rv a498, rv a655, rv a392] [])
      refine go (fun _ => XS.aload X690.here hx rfl (hb hby at_258) rfl rfl) ?_
      show Ends p e below _ T690 (mkF m 260 #[iv i0, iv i1, iv ch387, iv ch388, iv ch389, iv ch390, iv (0 : Int32), iv (3 : Int32), rv a392, rv a405, rv a418, rv a470, rv a498, rv a655, rv a392] [(.ref a392)])
      have F692 := (Fld.keep (Fld.ext E655 (Fld.keep (Fld.keep (Fld.keep (Fld.keep (Fld.ext E498 (Fld.keep (Fld.keep (Fld.other W446 (Fld.other W443 (Fld.ext E429 (Fld.ext E418 (Fld.keep Fc402 K405 nin0))) (Or.inl n435)) (Or.inl n435)) K453 (ninS n422 nin0)) K470 nin0)) K522 (ninS n507 nin0)) K527 (ninS n507 nin0)) K645 (ninS n507 (ninS n528 nin0))) K651 (ninS n507 (ninS n528 nin0)))) K682 (ninS n667 nin0))
      have F693 := (Fld.keep (Fld.ext E655 (Fld.keep (Fld.keep (Fld.keep (Fld.keep (Fld.ext E498 (Fld.keep (Fld.keep (Fld.other W446 (Fld.other W443 (Fld.ext E429 (Fld.ext E418 (Fld.keep Fv402 K405 nin0))) (Or.inl n435)) (Or.inl n435)) K453 (ninS n422 nin0)) K470 nin0)) K522 (ninS n507 nin0)) K527 (ninS n507 nin0)) K645 (ninS n507 (ninS n528 nin0))) K651 (ninS n507 (ninS n528 nin0)))) K682 (ninS n667 nin0))
      have F694 := (Arv.keep (Arv.ext F663 E655) K682 (ninS n674 nin0))
      refine cVirt X690 hx hZ hown (by rw [hml]; rfl) e690 (hwi hw 136 rfl) (hwi hw 137 rfl) (hwi hw 139 rfl) (hwi hw 138 rfl) (hwi hw 2 rfl) (hwi hw 140 rfl) (notFace_of_selects (args := #[]) (mvT hZ (hwi hw 139 rfl))) a392 F685 [] [] rfl (rm_length hw a392 b402 k402 (0 : Int32) _ _ O684 cz SCS hcz F692 F685 F693 F694) (hb hby at_260) rfl (lenOf pd_33 rfl) (by decide) (by decide) (Nat.le_of_ble_eq_true rfl) (by decide) (by decide) ?_
      rintro v695 T695 h695 L695 X695 e695 ⟨rfl, N695, rfl⟩
      have N695a := Fr.app N690a N695
      show Ends p e below _ T695 (mkF m 263 #[iv i0, iv i1, iv ch387, iv ch388, iv ch389, iv ch390, iv (0 : Int32), iv (3 : Int32), rv a392, rv a405, rv a418, rv a470, rv a498, rv a655, rv a392] [(.int (0 : Int32))])
      refine go (fun _ => XS.iload X695.here hx rfl (hb hby at_263) rfl) ?_
      show Ends p e below _ T695 (mkF m 265 #[iv i0, iv i1, iv ch387, iv ch388, iv ch389, iv ch390, iv (0 : Int32), iv (3 : Int32), rv a392, rv a405, rv a418, rv a470, rv a498, rv a655, rv a392] [(.int (0 : Int32)), (.int (0 : Int32))])
      refine go (fun _ => XS.icmpYes X695.here hx rfl (pc0 := 265) (pc' := 270) rfl (hb hby at_265) rfl (XT.ii_eq_t ((by decide) : (0 : Int32) = (0 : Int32))) (by decide) (by decide)) ?_
      show Ends p e below _ T695 (mkF m 270 #[iv i0, iv i1, iv ch387, iv ch388, iv ch389, iv ch390, iv (0 : Int32), iv (3 : Int32), rv a392, rv a405, rv a418, rv a470, rv a498, rv a655, rv a392] [])
      refine go (fun _ => XS.iload X695.here hx rfl (hb hby at_270) rfl) ?_
      refine go (fun _ => XT.iconstV X695.here hx rfl (1 : Int32) (hb hby at_272) (by decide)) ?_
      show Ends p e below _ T695 (mkF m 273 #[iv i0, iv i1, iv ch387, iv ch388, iv ch389, iv ch390, iv (0 : Int32), iv (3 : Int32), rv a392, rv a405, rv a418, rv a470, rv a498, rv a655, rv a392] [(.int (1 : Int32)), (.int (0 : Int32))])
      refine go (fun _ => XS.icmpYes X695.here hx rfl (pc0 := 273) (pc' := 288) rfl (hb hby at_273) rfl (XT.ii_lt_t ((by decide) : (0 : Int32) < (1 : Int32))) (by decide) (by decide)) ?_
      show Ends p e below _ T695 (mkF m 288 #[iv i0, iv i1, iv ch387, iv ch388, iv ch389, iv ch390, iv (0 : Int32), iv (3 : Int32), rv a392, rv a405, rv a418, rv a470, rv a498, rv a655, rv a392] [])
      refine go (fun _ => XS.iload X695.here hx rfl (hb hby at_288) rfl) ?_
      refine go (fun _ => XT.iconstV X695.here hx rfl (2 : Int32) (hb hby at_290) (by decide)) ?_
      show Ends p e below _ T695 (mkF m 291 #[iv i0, iv i1, iv ch387, iv ch388, iv ch389, iv ch390, iv (0 : Int32), iv (3 : Int32), rv a392, rv a405, rv a418, rv a470, rv a498, rv a655, rv a392] [(.int (2 : Int32)), (.int (0 : Int32))])
      refine go (fun _ => XS.icmpYes X695.here hx rfl (pc0 := 291) (pc' := 306) rfl (hb hby at_291) rfl (XT.ii_lt_t ((by decide) : (0 : Int32) < (2 : Int32))) (by decide) (by decide)) ?_
      show Ends p e below _ T695 (mkF m 306 #[iv i0, iv i1, iv ch387, iv ch388, iv ch389, iv ch390, iv (0 : Int32), iv (3 : Int32), rv a392, rv a405, rv a418, rv a470, rv a498, rv a655, rv a392] [])
      refine go (fun _ => XS.iload X695.here hx rfl (hb hby at_306) rfl) ?_
      refine go (fun _ => XT.iconstV X695.here hx rfl (3 : Int32) (hb hby at_308) (by decide)) ?_
      show Ends p e below _ T695 (mkF m 309 #[iv i0, iv i1, iv ch387, iv ch388, iv ch389, iv ch390, iv (0 : Int32), iv (3 : Int32), rv a392, rv a405, rv a418, rv a470, rv a498, rv a655, rv a392] [(.int (3 : Int32)), (.int (0 : Int32))])
      refine go (fun _ => XS.icmpYes X695.here hx rfl (pc0 := 309) (pc' := 325) rfl (hb hby at_309) rfl (XT.ii_lt_t ((by decide) : (0 : Int32) < (3 : Int32))) (by decide) (by decide)) ?_
      show Ends p e below _ T695 (mkF m 325 #[iv i0, iv i1, iv ch387, iv ch388, iv ch389, iv ch390, iv (0 : Int32), iv (3 : Int32), rv a392, rv a405, rv a418, rv a470, rv a498, rv a655, rv a392] [])
      refine go (fun _ => XS.aload X695.here hx rfl (hb hby at_325) rfl rfl) ?_
      show Ends p e below _ T695 (mkF m 327 #[iv i0, iv i1, iv ch387, iv ch388, iv ch389, iv ch390, iv (0 : Int32), iv (3 : Int32), rv a392, rv a405, rv a418, rv a470, rv a498, rv a655, rv a392] [(.ref a498)])
      refine cVirt X695 hx hZ hown (by rw [hml]; rfl) e695 (hwi hw 164 rfl) (hwi hw 165 rfl) (hwi hw 167 rfl) (hwi hw 166 rfl) (hwi hw 46 rfl) (hwi hw 168 rfl) (notFace_of_selects (args := #[]) (mvT hZ (hwi hw 167 rfl))) a498 F686 [] [] rfl (rm_size hw a498 (3 : Int32) _ F688) (hb hby at_327) rfl (lenOf pd_33 rfl) (by decide) (by decide) (Nat.le_of_ble_eq_true rfl) (by decide) (by decide) ?_
      rintro v696 T696 h696 L696 X696 e696 ⟨rfl, N696, rfl⟩
      have N696a := Fr.app N695a N696
      show Ends p e below _ T696 (mkF m 330 #[iv i0, iv i1, iv ch387, iv ch388, iv ch389, iv ch390, iv (0 : Int32), iv (3 : Int32), rv a392, rv a405, rv a418, rv a470, rv a498, rv a655, rv a392] [(.int (3 : Int32))])
      refine go (fun _ => XS.iload X696.here hx rfl (hb hby at_330) rfl) ?_
      show Ends p e below _ T696 (mkF m 332 #[iv i0, iv i1, iv ch387, iv ch388, iv ch389, iv ch390, iv (0 : Int32), iv (3 : Int32), rv a392, rv a405, rv a418, rv a470, rv a498, rv a655, rv a392] [(.int (3 : Int32)), (.int (3 : Int32))])
      refine go (fun _ => XS.icmpNo X696.here hx rfl (hb hby at_332) rfl (XT.ii_ne_f ((by decide) : (3 : Int32) = (3 : Int32)))) ?_
      show Ends p e below _ T696 (mkF m 335 #[iv i0, iv i1, iv ch387, iv ch388, iv ch389, iv ch390, iv (0 : Int32), iv (3 : Int32), rv a392, rv a405, rv a418, rv a470, rv a498, rv a655, rv a392] [])
      refine go (fun _ => XT.iconstV X696.here hx rfl (1 : Int32) (hb hby at_335) (by decide)) ?_
      refine go (fun _ => XS.goto X696.here hx rfl (pc0 := 336) (pc' := 340) rfl (hb hby at_336) (by decide) (by decide)) ?_
      show Ends p e below _ T696 (mkF m 340 #[iv i0, iv i1, iv ch387, iv ch388, iv ch389, iv ch390, iv (0 : Int32), iv (3 : Int32), rv a392, rv a405, rv a418, rv a470, rv a498, rv a655, rv a392] [(.int (1 : Int32))])
      exact endN X696 hx hret (by simp) (hb hby at_340) (lvW X696 hlk hZ (own_EW hw) hs0 hS hk H683 e696 (fun h => by rw [hret] at h; cases h) ⟨rfl, N696a⟩ (by decide) (by decide))
    · rw [q552]
      show Ends p e below _ T527 (mkF m 193 #[iv i0, iv i1, iv ch387, iv ch388, iv ch389, iv ch390, iv (0 : Int32), iv (4 : Int32), rv a392, rv a405, rv a418, rv a470, rv a498, .unset, .unset] [])
      refine go (fun _ => XS.iload X527.here hx rfl (hb hby at_193) rfl) ?_
      refine go (fun _ => XT.iconstV X527.here hx rfl (1 : Int32) (hb hby at_195) (by decide)) ?_
      show Ends p e below _ T527 (mkF m 196 #[iv i0, iv i1, iv ch387, iv ch388, iv ch389, iv ch390, iv (0 : Int32), iv (4 : Int32), rv a392, rv a405, rv a418, rv a470, rv a498, .unset, .unset] [(.int (1 : Int32)), (.int (4 : Int32))])
      refine go (fun _ => XS.icmpNo X527.here hx rfl (hb hby at_196) rfl (XT.ii_le_f ((by decide) : (1 : Int32) < (4 : Int32)))) ?_
      show Ends p e below _ T527 (mkF m 199 #[iv i0, iv i1, iv ch387, iv ch388, iv ch389, iv ch390, iv (0 : Int32), iv (4 : Int32), rv a392, rv a405, rv a418, rv a470, rv a498, .unset, .unset] [])
      refine go (fun _ => XS.aload X527.here hx rfl (hb hby at_199) rfl rfl) ?_
      refine go (fun _ => XS.aload X527.here hx rfl (hb hby at_201) rfl rfl) ?_
      show Ends p e below _ T527 (mkF m 203 #[iv i0, iv i1, iv ch387, iv ch388, iv ch389, iv ch390, iv (0 : Int32), iv (4 : Int32), rv a392, rv a405, rv a418, rv a470, rv a498, .unset, .unset] [(.ref a405), (.ref a498)])
      have F697 := (Exa.keep F525 K527)
      have F698 := (Exa.keep F531 K527)
      refine cVirt X527 hx hZ hown (by rw [hml]; rfl) e527 (hwi hw 68 rfl) (hwi hw 69 rfl) (hwi hw 71 rfl) (hwi hw 70 rfl) (hwi hw 46 rfl) (hwi hw 72 rfl) (notFace_of_selects (args := #[]) (mvT hZ (hwi hw 71 rfl))) a498 F697 [(.ref a405)] [] rfl (rm_add_1 hw a498 a405 b527 k527 (1 : Int32) a392 _ O551 f498 F697 F1527 F2527 F3527 f548 n539 O527 V527 F698 (Ne.symm n509) (Ne.symm n532)) (hb hby at_203) rfl (lenOf pd_30 rfl) (by decide) (by decide) (Nat.le_of_ble_eq_true rfl) (by decide) (by decide) ?_
      rintro v699 T699 h699 L699 X699 e699 ⟨rfl, N699, K699, F1699, F2699, F3699, V699⟩
      have N699a := Fr.app N527a N699
      have F701 := (Safe.keep K527 sf549 H523.1 F550)
      have sf700 : ∀ x ∈ [a498, b527], Safe Z own_EL T402.vm h527 x := (sfS F701 (sfS (Safe.arv hZ.alike V527 (by decide)) sf0))
      have C700 : CHr Z own_EL T402.vm h527 T402.vm h699 := CHr.keep K699 sf700 H549.1
      have hk := Nat.le_trans hk C700.2.1
      have H700 := H549.trans C700
      have O702 : Ext Z.heap h699 := xk O551 K699 (allS f498 (allS f548 all0))
      show Ends p e below _ T699 (mkF m 206 #[iv i0, iv i1, iv ch387, iv ch388, iv ch389, iv ch390, iv (0 : Int32), iv (4 : Int32), rv a392, rv a405, rv a418, rv a470, rv a498, .unset, .unset] [(.int (1 : Int32))])
      refine go (fun _ => XT.pop X699.here hx rfl (hb hby at_206) rfl rfl) ?_
      refine go (fun _ => XS.iload X699.here hx rfl (hb hby at_207) rfl) ?_
      refine go (fun _ => XT.iconstV X699.here hx rfl (2 : Int32) (hb hby at_209) (by decide)) ?_
      show Ends p e below _ T699 (mkF m 210 #[iv i0, iv i1, iv ch387, iv ch388, iv ch389, iv ch390, iv (0 : Int32), iv (4 : Int32), rv a392, rv a405, rv a418, rv a470, rv a498, .unset, .unset] [(.int (2 : Int32)), (.int (4 : Int32))])
      refine go (fun _ => XS.icmpNo X699.here hx rfl (hb hby at_210) rfl (XT.ii_le_f ((by decide) : (2 : Int32) < (4 : Int32)))) ?_
      show Ends p e below _ T699 (mkF m 213 #[iv i0, iv i1, iv ch387, iv ch388, iv ch389, iv ch390, iv (0 : Int32), iv (4 : Int32), rv a392, rv a405, rv a418, rv a470, rv a498, .unset, .unset] [])
      refine go (fun _ => XS.aload X699.here hx rfl (hb hby at_213) rfl rfl) ?_
      refine go (fun _ => XS.aload X699.here hx rfl (hb hby at_215) rfl rfl) ?_
      show Ends p e below _ T699 (mkF m 217 #[iv i0, iv i1, iv ch387, iv ch388, iv ch389, iv ch390, iv (0 : Int32), iv (4 : Int32), rv a392, rv a405, rv a418, rv a470, rv a498, .unset, .unset] [(.ref a418), (.ref a498)])
      have F703 := (Exa.keep F697 K699)
      have F704 := (Exa.keep (Exa.keep F533 K527) K699)
      refine cVirt X699 hx hZ hown (by rw [hml]; rfl) e699 (hwi hw 68 rfl) (hwi hw 69 rfl) (hwi hw 71 rfl) (hwi hw 70 rfl) (hwi hw 46 rfl) (hwi hw 72 rfl) (notFace_of_selects (args := #[]) (mvT hZ (hwi hw 71 rfl))) a498 F703 [(.ref a418)] [] rfl (rm_add_2 hw a498 a418 b527 k527 (2 : Int32) a392 a405 _ O702 f498 F703 F1699 F2699 F3699 f548 n539 O527 V699 F704 (Ne.symm n510) (Ne.symm n534)) (hb hby at_217) rfl (lenOf pd_30 rfl) (by decide) (by decide) (Nat.le_of_ble_eq_true rfl) (by decide) (by decide) ?_
      rintro v705 T705 h705 L705 X705 e705 ⟨rfl, N705, K705, F1705, F2705, F3705, V705⟩
      have N705a := Fr.app N699a N705
      have F707 := (Safe.keep K699 sf700 H549.1 F701)
      have sf706 : ∀ x ∈ [a498, b527], Safe Z own_EL T402.vm h699 x := (sfS F707 (sfS (Safe.arv hZ.alike V699 (by decide)) sf0))
      have C706 : CHr Z own_EL T402.vm h699 T402.vm h705 := CHr.keep K705 sf706 H700.1
      have hk := Nat.le_trans hk C706.2.1
      have H706 := H700.trans C706
      have O708 : Ext Z.heap h705 := xk O702 K705 (allS f498 (allS f548 all0))
      show Ends p e below _ T705 (mkF m 220 #[iv i0, iv i1, iv ch387, iv ch388, iv ch389, iv ch390, iv (0 : Int32), iv (4 : Int32), rv a392, rv a405, rv a418, rv a470, rv a498, .unset, .unset] [(.int (1 : Int32))])
      refine go (fun _ => XT.pop X705.here hx rfl (hb hby at_220) rfl rfl) ?_
      refine go (fun _ => XS.iload X705.here hx rfl (hb hby at_221) rfl) ?_
      refine go (fun _ => XT.iconstV X705.here hx rfl (3 : Int32) (hb hby at_223) (by decide)) ?_
      show Ends p e below _ T705 (mkF m 224 #[iv i0, iv i1, iv ch387, iv ch388, iv ch389, iv ch390, iv (0 : Int32), iv (4 : Int32), rv a392, rv a405, rv a418, rv a470, rv a498, .unset, .unset] [(.int (3 : Int32)), (.int (4 : Int32))])
      refine go (fun _ => XS.icmpNo X705.here hx rfl (hb hby at_224) rfl (XT.ii_le_f ((by decide) : (3 : Int32) < (4 : Int32)))) ?_
      show Ends p e below _ T705 (mkF m 227 #[iv i0, iv i1, iv ch387, iv ch388, iv ch389, iv ch390, iv (0 : Int32), iv (4 : Int32), rv a392, rv a405, rv a418, rv a470, rv a498, .unset, .unset] [])
      refine go (fun _ => XS.aload X705.here hx rfl (hb hby at_227) rfl rfl) ?_
      refine go (fun _ => XS.aload X705.here hx rfl (hb hby at_229) rfl rfl) ?_
      show Ends p e below _ T705 (mkF m 231 #[iv i0, iv i1, iv ch387, iv ch388, iv ch389, iv ch390, iv (0 : Int32), iv (4 : Int32), rv a392, rv a405, rv a418, rv a470, rv a498, .unset, .unset] [(.ref a470), (.ref a498)])
      have F709 := (Exa.keep F703 K705)
      have F710 := (Exa.keep (Exa.keep (Exa.keep F537 K527) K699) K705)
      refine cVirt X705 hx hZ hown (by rw [hml]; rfl) e705 (hwi hw 68 rfl) (hwi hw 69 rfl) (hwi hw 71 rfl) (hwi hw 70 rfl) (hwi hw 46 rfl) (hwi hw 72 rfl) (notFace_of_selects (args := #[]) (mvT hZ (hwi hw 71 rfl))) a498 F709 [(.ref a470)] [] rfl (rm_add_3 hw a498 a470 b527 k527 (3 : Int32) a392 a405 a418 _ O708 f498 F709 F1705 F2705 F3705 f548 n539 O527 V705 F710 (Ne.symm n512) (Ne.symm n538)) (hb hby at_231) rfl (lenOf pd_30 rfl) (by decide) (by decide) (Nat.le_of_ble_eq_true rfl) (by decide) (by decide) ?_
      rintro v711 T711 h711 L711 X711 e711 ⟨rfl, N711, K711, F1711, F2711, F3711, V711⟩
      have N711a := Fr.app N705a N711
      have F713 := (Safe.keep K705 sf706 H700.1 F707)
      have sf712 : ∀ x ∈ [a498, b527], Safe Z own_EL T402.vm h705 x := (sfS F713 (sfS (Safe.arv hZ.alike V705 (by decide)) sf0))
      have C712 : CHr Z own_EL T402.vm h705 T402.vm h711 := CHr.keep K711 sf712 H706.1
      have hk := Nat.le_trans hk C712.2.1
      have H712 := H706.trans C712
      have O714 : Ext Z.heap h711 := xk O708 K711 (allS f498 (allS f548 all0))
      show Ends p e below _ T711 (mkF m 234 #[iv i0, iv i1, iv ch387, iv ch388, iv ch389, iv ch390, iv (0 : Int32), iv (4 : Int32), rv a392, rv a405, rv a418, rv a470, rv a498, .unset, .unset] [(.int (1 : Int32))])
      refine go (fun _ => XT.pop X711.here hx rfl (hb hby at_234) rfl rfl) ?_
      show Ends p e below _ T711 (mkF m 235 #[iv i0, iv i1, iv ch387, iv ch388, iv ch389, iv ch390, iv (0 : Int32), iv (4 : Int32), rv a392, rv a405, rv a418, rv a470, rv a498, .unset, .unset] [])
      obtain ⟨T715, h715, X715, e715, E715, A715, D715, U715, s715⟩ := newO X711 hx hZ hown (hwi hw 99 rfl) (hwi hw 100 rfl) (hwi hw 101 rfl) e711 (g := (mkF m 235 #[iv i0, iv i1, iv ch387, iv ch388, iv ch389, iv ch390, iv (0 : Int32), iv (4 : Int32), rv a392, rv a405, rv a418, rv a470, rv a498, .unset, .unset] [])) rfl (hb hby at_235) (by decide) (by decide)
      have F716 := (Exa.keep (Exa.keep (Exa.keep (Exa.keep F526 K527) K699) K705) K711)
      have F717 := (Arv.keep (Arv.keep (Arv.keep (Arv.keep F529 K527 (ninS n508 nin0)) K699 (ninS n508 (ninS n530 nin0))) K705 (ninS n508 (ninS n530 nin0))) K711 (ninS n508 (ninS n530 nin0)))
      have F718 := (Exa.keep (Exa.keep (Exa.keep F698 K699) K705) K711)
      have F719 := (Exa.keep (Exa.keep F704 K705) K711)
      have F720 := (Arv.keep (Arv.keep (Arv.keep (Arv.keep F535 K527 (ninS n511 nin0)) K699 (ninS n511 (ninS n536 nin0))) K705 (ninS n511 (ninS n536 nin0))) K711 (ninS n511 (ninS n536 nin0)))
      have F721 := (Exa.keep F710 K711)
      have F722 := (Exa.keep F709 K711)
      have F723 := (Arv.keep (Arv.keep (Arv.keep (Arv.keep F540 K527 (ninS n513 nin0)) K699 (ninS n513 (ninS n541 nin0))) K705 (ninS n513 (ninS n541 nin0))) K711 (ninS n513 (ninS n541 nin0)))
      have F724 := (Arv.keep (Arv.keep (Arv.keep (Arv.keep F542 K527 (ninS n514 nin0)) K699 (ninS n514 (ninS n543 nin0))) K705 (ninS n514 (ninS n543 nin0))) K711 (ninS n514 (ninS n543 nin0)))
      have F725 := (Arv.keep (Arv.keep (Arv.keep (Arv.keep F544 K527 (ninS n515 nin0)) K699 (ninS n515 (ninS n545 nin0))) K705 (ninS n515 (ninS n545 nin0))) K711 (ninS n515 (ninS n545 nin0)))
      have F726 := (Arv.keep (Arv.keep (Arv.keep (Arv.keep F546 K527 (ninS n516 nin0)) K699 (ninS n516 (ninS n547 nin0))) K705 (ninS n516 (ninS n547 nin0))) K711 (ninS n516 (ninS n547 nin0)))
      obtain ⟨a715, g715⟩ : ∃ z : Addr, z = h711.size := ⟨_, rfl⟩
      have n727 : a392 ≠ a715 := fun q => absurd (F716.lt) (by rw [q, g715]; exact Nat.lt_irrefl _)
      have n728 : a395 ≠ a715 := fun q => absurd (F717.lt) (by rw [q, g715]; exact Nat.lt_irrefl _)
      have n729 : a405 ≠ a715 := fun q => absurd (F718.lt) (by rw [q, g715]; exact Nat.lt_irrefl _)
      have n730 : a418 ≠ a715 := fun q => absurd (F719.lt) (by rw [q, g715]; exact Nat.lt_irrefl _)
      have n731 : a429 ≠ a715 := fun q => absurd (F720.lt) (by rw [q, g715]; exact Nat.lt_irrefl _)
      have n732 : a470 ≠ a715 := fun q => absurd (F721.lt) (by rw [q, g715]; exact Nat.lt_irrefl _)
      have n733 : a498 ≠ a715 := fun q => absurd (F722.lt) (by rw [q, g715]; exact Nat.lt_irrefl _)
      have n734 : b402 ≠ a715 := fun q => absurd (F723.lt) (by rw [q, g715]; exact Nat.lt_irrefl _)
      have n735 : b405 ≠ a715 := fun q => absurd (F724.lt) (by rw [q, g715]; exact Nat.lt_irrefl _)
      have n736 : b453 ≠ a715 := fun q => absurd (F725.lt) (by rw [q, g715]; exact Nat.lt_irrefl _)
      have n737 : b470 ≠ a715 := fun q => absurd (F726.lt) (by rw [q, g715]; exact Nat.lt_irrefl _)
      have n738 : b527 ≠ a715 := fun q => absurd (V711.lt) (by rw [q, g715]; exact Nat.lt_irrefl _)
      have f715 : Z.heap.size ≤ a715 := by rw [g715]; exact (O714).1
      rw [← g715] at A715 D715 U715 s715
      have C739 : CHr Z own_EL T402.vm h711 T402.vm h715 := CHr.ext E715 H712.1
      have hk := Nat.le_trans hk C739.2.1
      have H739 := H712.trans C739
      have O740 : Ext Z.heap h715 := xx O714 E715
      have SF715 : Safe Z own_EL T402.vm h715 a715 := Safe.ext E715 H712.1 (Safe.new (by rw [g715]; exact Nat.le_refl _))
      refine go s715 ?_
      show Ends p e below _ T715 (mkF m 238 #[iv i0, iv i1, iv ch387, iv ch388, iv ch389, iv ch390, iv (0 : Int32), iv (4 : Int32), rv a392, rv a405, rv a418, rv a470, rv a498, .unset, .unset] [(.ref a715)])
      refine go (fun _ => XS.dup X715.here hx rfl (hb hby at_238) rfl rfl) ?_
      refine go (fun _ => XS.aload X715.here hx rfl (hb hby at_239) rfl rfl) ?_
      show Ends p e below _ T715 (mkF m 241 #[iv i0, iv i1, iv ch387, iv ch388, iv ch389, iv ch390, iv (0 : Int32), iv (4 : Int32), rv a392, rv a405, rv a418, rv a470, rv a498, .unset, .unset] [(.ref a498), (.ref a715), (.ref a715)])
      have F741 := (D715 (Or.inr (hwi hw 107 rfl)) (ty := (.object "java/util/List")) (by decide))
      refine cInit X715 hx hZ hown (by rw [hml]; rfl) e715 (hwi hw 102 rfl) (hwi hw 103 rfl) (hwi hw 101 rfl) (hwi hw 104 rfl) a715 [(.ref a498)] [(.ref a715)] rfl (rm_pg hw a715 a498 _ O740 f715 A715 F741  ) (hb hby at_241) rfl (lenOf pd_31 rfl) rfl (by decide) (by decide) (Nat.le_of_ble_eq_true rfl) (by decide) (by decide) ?_
      rintro v742 T742 h742 L742 X742 e742 ⟨rfl, N742, K742, F742_0⟩
      have N742a := Fr.app N711a N742
      have sf743 : ∀ x ∈ [a715], Safe Z own_EL T402.vm h715 x := (sfS SF715 sf0)
      have C743 : CHr Z own_EL T402.vm h715 T402.vm h742 := CHr.keep K742 sf743 H739.1
      have hk := Nat.le_trans hk C743.2.1
      have H743 := H739.trans C743
      have O744 : Ext Z.heap h742 := xk O740 K742 (allS f715 all0)
      show Ends p e below _ T742 (mkF m 244 #[iv i0, iv i1, iv ch387, iv ch388, iv ch389, iv ch390, iv (0 : Int32), iv (4 : Int32), rv a392, rv a405, rv a418, rv a470, rv a498, .unset, .unset] [(.ref a715)])
      refine go (fun _ => XS.astore X742.here hx rfl (hb hby at_244) rfl rfl (l' := #[iv i0, iv i1, iv ch387, iv ch388, iv ch389, iv ch390, iv (0 : Int32), iv (4 : Int32), rv a392, rv a405, rv a418, rv a470, rv a498, rv a715, .unset]) rfl) ?_
      refine go (fun _ => XS.aload X742.here hx rfl (hb hby at_246) rfl rfl) ?_
      show Ends p e below _ T742 (mkF m 248 #[iv i0, iv i1, iv ch387, iv ch388, iv ch389, iv ch390, iv (0 : Int32), iv (4 : Int32), rv a392, rv a405, rv a418, rv a470, rv a498, rv a715, .unset] [(.ref a715)])
      have F745 := (Exa.keep (Exa.ext E715 F716) K742)
      have F746 := (Exa.keep (Exa.ext E715 F722) K742)
      have F747 := (Fld.keep (Fld.ext E715 F2711) K742 (ninS n733 nin0))
      have F748 := (Fld.keep (Fld.ext E715 F3711) K742 (ninS n733 nin0))
      have F749 := (Arv.keep (Arv.ext V711 E715) K742 (ninS n738 nin0))
      have F751 := (Exa.keep A715 K742)
      refine cVirt X742 hx hZ hown (by rw [hml]; rfl) e742 (hwi hw 108 rfl) (hwi hw 109 rfl) (hwi hw 111 rfl) (hwi hw 110 rfl) (hwi hw 101 rfl) (hwi hw 112 rfl) (notFace_of_selects (args := #[]) (mvT hZ (hwi hw 111 rfl))) a715 F751 [] [] rfl (rm_name hw a715 a498 b527 a392 k527 (4 : Int32) _ _ F742_0 F745 F746 F747 F748 F749 (by decide)) (hb hby at_248) rfl (lenOf pd_32 rfl) (by decide) (by decide) (Nat.le_of_ble_eq_true rfl) (by decide) (by decide) ?_
      rintro v750 T750 h750 L750 X750 e750 ⟨rfl, N750, rfl⟩
      have N750a := Fr.app N742a N750
      show Ends p e below _ T750 (mkF m 251 #[iv i0, iv i1, iv ch387, iv ch388, iv ch389, iv ch390, iv (0 : Int32), iv (4 : Int32), rv a392, rv a405, rv a418, rv a470, rv a498, rv a715, .unset] [(.ref a392)])
      refine go (fun _ => XS.astore X750.here hx rfl (hb hby at_251) rfl rfl (l' := #[iv i0, iv i1, iv ch387, iv ch388, iv ch389, iv ch390, iv (0 : Int32), iv (4 : Int32), rv a392, rv a405, rv a418, rv a470, rv a498, rv a715, rv a392]) rfl) ?_
      refine go (fun _ => XS.aload X750.here hx rfl (hb hby at_253) rfl rfl) ?_
      show Ends p e below _ T750 (mkF m 255 #[iv i0, iv i1, iv ch387, iv ch388, iv ch389, iv ch390, iv (0 : Int32), iv (4 : Int32), rv a392, rv a405, rv a418, rv a470, rv a498, rv a715, rv a392] [(.ref a392)])
      refine go (fun _ => XS.ifnullNo X750.here hx rfl (hb hby at_255) rfl) ?_
      show Ends p e below _ T750 (mkF m 258 #[iv i0, iv i1, iv ch387, iv ch388, iv ch389, iv ch390, iv (0 : Int32), iv (4 : Int32), rv a392, rv a405, rv a418, rv a470, rv a498, rv a715, rv a392] [])
      refine go (fun _ => XS.aload X750.here hx rfl (hb hby at_258) rfl rfl) ?_
      show Ends p e below _ T750 (mkF m 260 #[iv i0, iv i1, iv ch387, iv ch388, iv ch389, iv ch390, iv (0 : Int32), iv (4 : Int32), rv a392, rv a405, rv a418, rv a470, rv a498, rv a715, rv a392] [(.ref a392)])
      have F752 := (Fld.keep (Fld.ext E715 (Fld.keep (Fld.keep (Fld.keep (Fld.keep (Fld.keep (Fld.ext E498 (Fld.keep (Fld.keep (Fld.other W446 (Fld.other W443 (Fld.ext E429 (Fld.ext E418 (Fld.keep Fc402 K405 nin0))) (Or.inl n435)) (Or.inl n435)) K453 (ninS n422 nin0)) K470 nin0)) K522 (ninS n507 nin0)) K527 (ninS n507 nin0)) K699 (ninS n507 (ninS n528 nin0))) K705 (ninS n507 (ninS n528 nin0))) K711 (ninS n507 (ninS n528 nin0)))) K742 (ninS n727 nin0))
      have F753 := (Fld.keep (Fld.ext E715 (Fld.keep (Fld.keep (Fld.keep (Fld.keep (Fld.keep (Fld.ext E498 (Fld.keep (Fld.keep (Fld.other W446 (Fld.other W443 (Fld.ext E429 (Fld.ext E418 (Fld.keep Fv402 K405 nin0))) (Or.inl n435)) (Or.inl n435)) K453 (ninS n422 nin0)) K470 nin0)) K522 (ninS n507 nin0)) K527 (ninS n507 nin0)) K699 (ninS n507 (ninS n528 nin0))) K705 (ninS n507 (ninS n528 nin0))) K711 (ninS n507 (ninS n528 nin0)))) K742 (ninS n727 nin0))
      have F754 := (Arv.keep (Arv.ext F723 E715) K742 (ninS n734 nin0))
      refine cVirt X750 hx hZ hown (by rw [hml]; rfl) e750 (hwi hw 136 rfl) (hwi hw 137 rfl) (hwi hw 139 rfl) (hwi hw 138 rfl) (hwi hw 2 rfl) (hwi hw 140 rfl) (notFace_of_selects (args := #[]) (mvT hZ (hwi hw 139 rfl))) a392 F745 [] [] rfl (rm_length hw a392 b402 k402 (0 : Int32) _ _ O744 cz SCS hcz F752 F745 F753 F754) (hb hby at_260) rfl (lenOf pd_33 rfl) (by decide) (by decide) (Nat.le_of_ble_eq_true rfl) (by decide) (by decide) ?_
      rintro v755 T755 h755 L755 X755 e755 ⟨rfl, N755, rfl⟩
      have N755a := Fr.app N750a N755
      show Ends p e below _ T755 (mkF m 263 #[iv i0, iv i1, iv ch387, iv ch388, iv ch389, iv ch390, iv (0 : Int32), iv (4 : Int32), rv a392, rv a405, rv a418, rv a470, rv a498, rv a715, rv a392] [(.int (0 : Int32))])
      refine go (fun _ => XS.iload X755.here hx rfl (hb hby at_263) rfl) ?_
      show Ends p e below _ T755 (mkF m 265 #[iv i0, iv i1, iv ch387, iv ch388, iv ch389, iv ch390, iv (0 : Int32), iv (4 : Int32), rv a392, rv a405, rv a418, rv a470, rv a498, rv a715, rv a392] [(.int (0 : Int32)), (.int (0 : Int32))])
      refine go (fun _ => XS.icmpYes X755.here hx rfl (pc0 := 265) (pc' := 270) rfl (hb hby at_265) rfl (XT.ii_eq_t ((by decide) : (0 : Int32) = (0 : Int32))) (by decide) (by decide)) ?_
      show Ends p e below _ T755 (mkF m 270 #[iv i0, iv i1, iv ch387, iv ch388, iv ch389, iv ch390, iv (0 : Int32), iv (4 : Int32), rv a392, rv a405, rv a418, rv a470, rv a498, rv a715, rv a392] [])
      refine go (fun _ => XS.iload X755.here hx rfl (hb hby at_270) rfl) ?_
      refine go (fun _ => XT.iconstV X755.here hx rfl (1 : Int32) (hb hby at_272) (by decide)) ?_
      show Ends p e below _ T755 (mkF m 273 #[iv i0, iv i1, iv ch387, iv ch388, iv ch389, iv ch390, iv (0 : Int32), iv (4 : Int32), rv a392, rv a405, rv a418, rv a470, rv a498, rv a715, rv a392] [(.int (1 : Int32)), (.int (0 : Int32))])
      refine go (fun _ => XS.icmpYes X755.here hx rfl (pc0 := 273) (pc' := 288) rfl (hb hby at_273) rfl (XT.ii_lt_t ((by decide) : (0 : Int32) < (1 : Int32))) (by decide) (by decide)) ?_
      show Ends p e below _ T755 (mkF m 288 #[iv i0, iv i1, iv ch387, iv ch388, iv ch389, iv ch390, iv (0 : Int32), iv (4 : Int32), rv a392, rv a405, rv a418, rv a470, rv a498, rv a715, rv a392] [])
      refine go (fun _ => XS.iload X755.here hx rfl (hb hby at_288) rfl) ?_
      refine go (fun _ => XT.iconstV X755.here hx rfl (2 : Int32) (hb hby at_290) (by decide)) ?_
      show Ends p e below _ T755 (mkF m 291 #[iv i0, iv i1, iv ch387, iv ch388, iv ch389, iv ch390, iv (0 : Int32), iv (4 : Int32), rv a392, rv a405, rv a418, rv a470, rv a498, rv a715, rv a392] [(.int (2 : Int32)), (.int (0 : Int32))])
      refine go (fun _ => XS.icmpYes X755.here hx rfl (pc0 := 291) (pc' := 306) rfl (hb hby at_291) rfl (XT.ii_lt_t ((by decide) : (0 : Int32) < (2 : Int32))) (by decide) (by decide)) ?_
      show Ends p e below _ T755 (mkF m 306 #[iv i0, iv i1, iv ch387, iv ch388, iv ch389, iv ch390, iv (0 : Int32), iv (4 : Int32), rv a392, rv a405, rv a418, rv a470, rv a498, rv a715, rv a392] [])
      refine go (fun _ => XS.iload X755.here hx rfl (hb hby at_306) rfl) ?_
      refine go (fun _ => XT.iconstV X755.here hx rfl (3 : Int32) (hb hby at_308) (by decide)) ?_
      show Ends p e below _ T755 (mkF m 309 #[iv i0, iv i1, iv ch387, iv ch388, iv ch389, iv ch390, iv (0 : Int32), iv (4 : Int32), rv a392, rv a405, rv a418, rv a470, rv a498, rv a715, rv a392] [(.int (3 : Int32)), (.int (0 : Int32))])
      refine go (fun _ => XS.icmpYes X755.here hx rfl (pc0 := 309) (pc' := 325) rfl (hb hby at_309) rfl (XT.ii_lt_t ((by decide) : (0 : Int32) < (3 : Int32))) (by decide) (by decide)) ?_
      show Ends p e below _ T755 (mkF m 325 #[iv i0, iv i1, iv ch387, iv ch388, iv ch389, iv ch390, iv (0 : Int32), iv (4 : Int32), rv a392, rv a405, rv a418, rv a470, rv a498, rv a715, rv a392] [])
      refine go (fun _ => XS.aload X755.here hx rfl (hb hby at_325) rfl rfl) ?_
      show Ends p e below _ T755 (mkF m 327 #[iv i0, iv i1, iv ch387, iv ch388, iv ch389, iv ch390, iv (0 : Int32), iv (4 : Int32), rv a392, rv a405, rv a418, rv a470, rv a498, rv a715, rv a392] [(.ref a498)])
      refine cVirt X755 hx hZ hown (by rw [hml]; rfl) e755 (hwi hw 164 rfl) (hwi hw 165 rfl) (hwi hw 167 rfl) (hwi hw 166 rfl) (hwi hw 46 rfl) (hwi hw 168 rfl) (notFace_of_selects (args := #[]) (mvT hZ (hwi hw 167 rfl))) a498 F746 [] [] rfl (rm_size hw a498 (4 : Int32) _ F748) (hb hby at_327) rfl (lenOf pd_33 rfl) (by decide) (by decide) (Nat.le_of_ble_eq_true rfl) (by decide) (by decide) ?_
      rintro v756 T756 h756 L756 X756 e756 ⟨rfl, N756, rfl⟩
      have N756a := Fr.app N755a N756
      show Ends p e below _ T756 (mkF m 330 #[iv i0, iv i1, iv ch387, iv ch388, iv ch389, iv ch390, iv (0 : Int32), iv (4 : Int32), rv a392, rv a405, rv a418, rv a470, rv a498, rv a715, rv a392] [(.int (4 : Int32))])
      refine go (fun _ => XS.iload X756.here hx rfl (hb hby at_330) rfl) ?_
      show Ends p e below _ T756 (mkF m 332 #[iv i0, iv i1, iv ch387, iv ch388, iv ch389, iv ch390, iv (0 : Int32), iv (4 : Int32), rv a392, rv a405, rv a418, rv a470, rv a498, rv a715, rv a392] [(.int (4 : Int32)), (.int (4 : Int32))])
      refine go (fun _ => XS.icmpNo X756.here hx rfl (hb hby at_332) rfl (XT.ii_ne_f ((by decide) : (4 : Int32) = (4 : Int32)))) ?_
      show Ends p e below _ T756 (mkF m 335 #[iv i0, iv i1, iv ch387, iv ch388, iv ch389, iv ch390, iv (0 : Int32), iv (4 : Int32), rv a392, rv a405, rv a418, rv a470, rv a498, rv a715, rv a392] [])
      refine go (fun _ => XT.iconstV X756.here hx rfl (1 : Int32) (hb hby at_335) (by decide)) ?_
      refine go (fun _ => XS.goto X756.here hx rfl (pc0 := 336) (pc' := 340) rfl (hb hby at_336) (by decide) (by decide)) ?_
      show Ends p e below _ T756 (mkF m 340 #[iv i0, iv i1, iv ch387, iv ch388, iv ch389, iv ch390, iv (0 : Int32), iv (4 : Int32), rv a392, rv a405, rv a418, rv a470, rv a498, rv a715, rv a392] [(.int (1 : Int32))])
      exact endN X756 hx hret (by simp) (hb hby at_340) (lvW X756 hlk hZ (own_EW hw) hs0 hS hk H743 e756 (fun h => by rw [hret] at h; cases h) ⟨rfl, N756a⟩ (by decide) (by decide))
  · rw [q391]
    show Ends p e below _ T0 (mkF m 42 #[iv i0, iv i1, iv ch387, iv ch388, iv ch389, iv ch390, .unset, .unset, .unset, .unset, .unset, .unset, .unset, .unset, .unset] [(.int (1 : Int32))])
    refine go (fun _ => XS.istore X0.here hx rfl (hb hby at_42) rfl (l' := #[iv i0, iv i1, iv ch387, iv ch388, iv ch389, iv ch390, iv (1 : Int32), .unset, .unset, .unset, .unset, .unset, .unset, .unset, .unset]) rfl) ?_
    refine go (fun _ => XS.iloadN X0.here hx rfl (hb hby at_44) rfl) ?_
    refine go (fun _ => XT.iconstV X0.here hx rfl (2 : Int32) (hb hby at_45) (by decide)) ?_
    refine go (fun _ => XT.iushr X0.here hx rfl (hb hby at_46) rfl) ?_
    refine go (fun _ => XT.iconstV X0.here hx rfl (3 : Int32) (hb hby at_47) (by decide)) ?_
    refine go (fun _ => XS.iand X0.here hx rfl (hb hby at_48) rfl) ?_
    show Ends p e below _ T0 (mkF m 49 #[iv i0, iv i1, iv ch387, iv ch388, iv ch389, iv ch390, iv (1 : Int32), .unset, .unset, .unset, .unset, .unset, .unset, .unset, .unset] [(.int ((XT.ushr i1 (2 : Int32)) &&& (3 : Int32)))])
    refine go (fun _ => XT.iconstV X0.here hx rfl (1 : Int32) (hb hby at_49) (by decide)) ?_
    refine go (fun _ => XS.iadd X0.here hx rfl (hb hby at_50) rfl) ?_
    refine go (fun _ => XS.istore X0.here hx rfl (hb hby at_51) rfl (l' := #[iv i0, iv i1, iv ch387, iv ch388, iv ch389, iv ch390, iv (1 : Int32), iv (((XT.ushr i1 (2 : Int32)) &&& (3 : Int32)) + (1 : Int32)), .unset, .unset, .unset, .unset, .unset, .unset, .unset]) rfl) ?_
    refine go (fun _ => XS.iload X0.here hx rfl (hb hby at_53) rfl) ?_
    show Ends p e below _ T0 (mkF m 55 #[iv i0, iv i1, iv ch387, iv ch388, iv ch389, iv ch390, iv (1 : Int32), iv (((XT.ushr i1 (2 : Int32)) &&& (3 : Int32)) + (1 : Int32)), .unset, .unset, .unset, .unset, .unset, .unset, .unset] [(.int (1 : Int32))])
    refine go (fun _ => XS.ifYes X0.here hx rfl (pc0 := 55) (pc' := 73) rfl (hb hby at_55) rfl (XT.i0_ne_t ((by decide) : ¬ ((1 : Int32) = (0 : Int32)))) (by decide) (by decide)) ?_
    show Ends p e below _ T0 (mkF m 73 #[iv i0, iv i1, iv ch387, iv ch388, iv ch389, iv ch390, iv (1 : Int32), iv (((XT.ushr i1 (2 : Int32)) &&& (3 : Int32)) + (1 : Int32)), .unset, .unset, .unset, .unset, .unset, .unset, .unset] [])
    refine go (fun _ => XS.iload X0.here hx rfl (hb hby at_73) rfl) ?_
    refine go (fun _ => XT.iconstV X0.here hx rfl (1 : Int32) (hb hby at_75) (by decide)) ?_
    show Ends p e below _ T0 (mkF m 76 #[iv i0, iv i1, iv ch387, iv ch388, iv ch389, iv ch390, iv (1 : Int32), iv (((XT.ushr i1 (2 : Int32)) &&& (3 : Int32)) + (1 : Int32)), .unset, .unset, .unset, .unset, .unset, .unset, .unset] [(.int (1 : Int32)), (.int (1 : Int32))])
    refine go (fun _ => XS.icmpNo X0.here hx rfl (hb hby at_76) rfl (XT.ii_ne_f ((by decide) : (1 : Int32) = (1 : Int32)))) ?_
    show Ends p e below _ T0 (mkF m 79 #[iv i0, iv i1, iv ch387, iv ch388, iv ch389, iv ch390, iv (1 : Int32), iv (((XT.ushr i1 (2 : Int32)) &&& (3 : Int32)) + (1 : Int32)), .unset, .unset, .unset, .unset, .unset, .unset, .unset] [])
    refine go (fun _ => XS.iloadN X0.here hx rfl (hb hby at_79) rfl) ?_
    show Ends p e below _ T0 (mkF m 80 #[iv i0, iv i1, iv ch387, iv ch388, iv ch389, iv ch390, iv (1 : Int32), iv (((XT.ushr i1 (2 : Int32)) &&& (3 : Int32)) + (1 : Int32)), .unset, .unset, .unset, .unset, .unset, .unset, .unset] [(.int ch387)])
    refine cStat X0 hx hZ hown (by rw [hml]; rfl) e0 (hwi hw 30 rfl) (hwi hw 31 rfl) (hwi hw 2 rfl) (hwi hw 32 rfl) [(.int ch387)] [] rfl (rm_cvalueOf hw ch387 _ O0 lc387 cz SCS hcz) (hb hby at_80) rfl (lenOf pd_29 rfl) (by decide) (by decide) (Nat.le_of_ble_eq_true rfl) (by decide) (by decide) ?_
    rintro v757 T757 h757 L757 X757 e757 ⟨a757, b757, k757, rfl, N757, K757, ga757, gb757, nn757, E757, Fv757, Fc757, V757⟩
    have N757a := Fr.app (Fr.nil _) N757
    have f758 : Z.heap.size ≤ a757 := Nat.le_trans (O0).1 ga757
    have f759 : Z.heap.size ≤ b757 := Nat.le_trans (O0).1 gb757
    have C760 : CHr Z own_EL s.vm h0 s.vm h757 := CHr.keep K757 sf0 H0.1
    have hk := Nat.le_trans hk C760.2.1
    have H760 := H0.trans C760
    have O761 : Ext Z.heap h757 := xk O0 K757 all0
    show Ends p e below _ T757 (mkF m 83 #[iv i0, iv i1, iv ch387, iv ch388, iv ch389, iv ch390, iv (1 : Int32), iv (((XT.ushr i1 (2 : Int32)) &&& (3 : Int32)) + (1 : Int32)), .unset, .unset, .unset, .unset, .unset, .unset, .unset] [(.ref a757)])
    refine go (fun _ => XS.astore X757.here hx rfl (hb hby at_83) rfl rfl (l' := #[iv i0, iv i1, iv ch387, iv ch388, iv ch389, iv ch390, iv (1 : Int32), iv (((XT.ushr i1 (2 : Int32)) &&& (3 : Int32)) + (1 : Int32)), rv a757, .unset, .unset, .unset, .unset, .unset, .unset]) rfl) ?_
    refine go (fun _ => XS.goto X757.here hx rfl (pc0 := 85) (pc' := 142) rfl (hb hby at_85) (by decide) (by decide)) ?_
    refine go (fun _ => XS.iload X757.here hx rfl (hb hby at_142) rfl) ?_
    show Ends p e below _ T757 (mkF m 144 #[iv i0, iv i1, iv ch387, iv ch388, iv ch389, iv ch390, iv (1 : Int32), iv (((XT.ushr i1 (2 : Int32)) &&& (3 : Int32)) + (1 : Int32)), rv a757, .unset, .unset, .unset, .unset, .unset, .unset] [(.int ch390)])
    refine cStat X757 hx hZ hown (by rw [hml]; rfl) e757 (hwi hw 30 rfl) (hwi hw 31 rfl) (hwi hw 2 rfl) (hwi hw 32 rfl) [(.int ch390)] [] rfl (rm_cvalueOf hw ch390 _ O761 lc390 cz SCS hcz) (hb hby at_144) rfl (lenOf pd_29 rfl) (by decide) (by decide) (Nat.le_of_ble_eq_true rfl) (by decide) (by decide) ?_
    rintro v762 T762 h762 L762 X762 e762 ⟨a762, b762, k762, rfl, N762, K762, ga762, gb762, nn762, E762, Fv762, Fc762, V762⟩
    have N762a := Fr.app N757a N762
    have n763 : a757 ≠ a762 := Nat.ne_of_lt (Nat.lt_of_lt_of_le (E757.lt) ga762)
    have n764 : b757 ≠ a762 := Nat.ne_of_lt (Nat.lt_of_lt_of_le (V757.lt) ga762)
    have f765 : Z.heap.size ≤ a762 := Nat.le_trans (O761).1 ga762
    have n766 : a757 ≠ b762 := Nat.ne_of_lt (Nat.lt_of_lt_of_le (E757.lt) gb762)
    have n767 : b757 ≠ b762 := Nat.ne_of_lt (Nat.lt_of_lt_of_le (V757.lt) gb762)
    have f768 : Z.heap.size ≤ b762 := Nat.le_trans (O761).1 gb762
    have C769 : CHr Z own_EL s.vm h757 s.vm h762 := CHr.keep K762 sf0 H760.1
    have hk := Nat.le_trans hk C769.2.1
    have H769 := H760.trans C769
    have O770 : Ext Z.heap h762 := xk O761 K762 all0
    show Ends p e below _ T762 (mkF m 147 #[iv i0, iv i1, iv ch387, iv ch388, iv ch389, iv ch390, iv (1 : Int32), iv (((XT.ushr i1 (2 : Int32)) &&& (3 : Int32)) + (1 : Int32)), rv a757, .unset, .unset, .unset, .unset, .unset, .unset] [(.ref a762)])
    refine go (fun _ => XS.astore X762.here hx rfl (hb hby at_147) rfl rfl (l' := #[iv i0, iv i1, iv ch387, iv ch388, iv ch389, iv ch390, iv (1 : Int32), iv (((XT.ushr i1 (2 : Int32)) &&& (3 : Int32)) + (1 : Int32)), rv a757, rv a762, .unset, .unset, .unset, .unset, .unset]) rfl) ?_
    show Ends p e below _ T762 (mkF m 149 #[iv i0, iv i1, iv ch387, iv ch388, iv ch389, iv ch390, iv (1 : Int32), iv (((XT.ushr i1 (2 : Int32)) &&& (3 : Int32)) + (1 : Int32)), rv a757, rv a762, .unset, .unset, .unset, .unset, .unset] [])
    obtain ⟨T771, h771, X771, e771, E771, A771, D771, U771, s771⟩ := newO X762 hx hZ hown (hwi hw 0 rfl) (hwi hw 1 rfl) (hwi hw 2 rfl) e762 (g := (mkF m 149 #[iv i0, iv i1, iv ch387, iv ch388, iv ch389, iv ch390, iv (1 : Int32), iv (((XT.ushr i1 (2 : Int32)) &&& (3 : Int32)) + (1 : Int32)), rv a757, rv a762, .unset, .unset, .unset, .unset, .unset] [])) rfl (hb hby at_149) (by decide) (by decide)
    have F772 := (Exa.keep E757 K762)
    have F773 := (Arv.keep V757 K762 nin0)
    obtain ⟨a771, g771⟩ : ∃ z : Addr, z = h762.size := ⟨_, rfl⟩
    have n774 : a757 ≠ a771 := fun q => absurd (F772.lt) (by rw [q, g771]; exact Nat.lt_irrefl _)
    have n775 : a762 ≠ a771 := fun q => absurd (E762.lt) (by rw [q, g771]; exact Nat.lt_irrefl _)
    have n776 : b757 ≠ a771 := fun q => absurd (F773.lt) (by rw [q, g771]; exact Nat.lt_irrefl _)
    have n777 : b762 ≠ a771 := fun q => absurd (V762.lt) (by rw [q, g771]; exact Nat.lt_irrefl _)
    have f771 : Z.heap.size ≤ a771 := by rw [g771]; exact (O770).1
    rw [← g771] at A771 D771 U771 s771
    have C778 : CHr Z own_EL s.vm h762 s.vm h771 := CHr.ext E771 H769.1
    have hk := Nat.le_trans hk C778.2.1
    have H778 := H769.trans C778
    have O779 : Ext Z.heap h771 := xx O770 E771
    have SF771 : Safe Z own_EL s.vm h771 a771 := Safe.ext E771 H769.1 (Safe.new (by rw [g771]; exact Nat.le_refl _))
    refine go s771 ?_
    show Ends p e below _ T771 (mkF m 152 #[iv i0, iv i1, iv ch387, iv ch388, iv ch389, iv ch390, iv (1 : Int32), iv (((XT.ushr i1 (2 : Int32)) &&& (3 : Int32)) + (1 : Int32)), rv a757, rv a762, .unset, .unset, .unset, .unset, .unset] [(.ref a771)])
    refine go (fun _ => XS.dup X771.here hx rfl (hb hby at_152) rfl rfl) ?_
    refine go (fun _ => XT.iconstV X771.here hx rfl (2 : Int32) (hb hby at_153) (by decide)) ?_
    show Ends p e below _ T771 (mkF m 154 #[iv i0, iv i1, iv ch387, iv ch388, iv ch389, iv ch390, iv (1 : Int32), iv (((XT.ushr i1 (2 : Int32)) &&& (3 : Int32)) + (1 : Int32)), rv a757, rv a762, .unset, .unset, .unset, .unset, .unset] [(.int (2 : Int32)), (.ref a771), (.ref a771)])
    obtain ⟨T780, h780, k780, X780, e780, E780, A780, s780⟩ := newP X771 hx hZ (hwi hw 3 rfl) e771 (g := (mkF m 154 #[iv i0, iv i1, iv ch387, iv ch388, iv ch389, iv ch390, iv (1 : Int32), iv (((XT.ushr i1 (2 : Int32)) &&& (3 : Int32)) + (1 : Int32)), rv a757, rv a762, .unset, .unset, .unset, .unset, .unset] [(.int (2 : Int32)), (.ref a771), (.ref a771)])) rfl (hb hby at_154) rfl (by decide) (cap := 2) (by decide) (by decide) (by decide) (by decide)
    have F781 := (Exa.ext E771 F772)
    have F782 := (Exa.ext E771 E762)
    have F783 := (Arv.ext F773 E771)
    have F784 := (Arv.ext V762 E771)
    obtain ⟨a780, g780⟩ : ∃ z : Addr, z = h771.size := ⟨_, rfl⟩
    have n785 : a757 ≠ a780 := fun q => absurd (F781.lt) (by rw [q, g780]; exact Nat.lt_irrefl _)
    have n786 : a762 ≠ a780 := fun q => absurd (F782.lt) (by rw [q, g780]; exact Nat.lt_irrefl _)
    have n787 : a771 ≠ a780 := fun q => absurd (A771.lt) (by rw [q, g780]; exact Nat.lt_irrefl _)
    have n788 : b757 ≠ a780 := fun q => absurd (F783.lt) (by rw [q, g780]; exact Nat.lt_irrefl _)
    have n789 : b762 ≠ a780 := fun q => absurd (F784.lt) (by rw [q, g780]; exact Nat.lt_irrefl _)
    have f780 : Z.heap.size ≤ a780 := by rw [g780]; exact (O779).1
    rw [← g780] at A780 s780
    have C790 : CHr Z own_EL s.vm h771 s.vm h780 := CHr.ext E780 H778.1
    have hk := Nat.le_trans hk C790.2.1
    have H790 := H778.trans C790
    have O791 : Ext Z.heap h780 := xx O779 E780
    have SF780 : Safe Z own_EL s.vm h780 a780 := Safe.ext E780 H778.1 (Safe.new (by rw [g780]; exact Nat.le_refl _))
    have V780 : Arv Z h780 a780 k780 .char (2 : Int32) [(.int (0 : Int32)), (.int (0 : Int32))] (.int 0) := Arv.pad (Arv.new A780 (by decide)) (pad_rep [] _ 2)
    refine go s780 ?_
    show Ends p e below _ T780 (mkF m 156 #[iv i0, iv i1, iv ch387, iv ch388, iv ch389, iv ch390, iv (1 : Int32), iv (((XT.ushr i1 (2 : Int32)) &&& (3 : Int32)) + (1 : Int32)), rv a757, rv a762, .unset, .unset, .unset, .unset, .unset] [(.ref a780), (.ref a771), (.ref a771)])
    refine go (fun _ => XS.dup X780.here hx rfl (hb hby at_156) rfl rfl) ?_
    refine go (fun _ => XT.iconstV X780.here hx rfl (0 : Int32) (hb hby at_157) (by decide)) ?_
    refine go (fun _ => XS.iloadN X780.here hx rfl (hb hby at_158) rfl) ?_
    show Ends p e below _ T780 (mkF m 159 #[iv i0, iv i1, iv ch387, iv ch388, iv ch389, iv ch390, iv (1 : Int32), iv (((XT.ushr i1 (2 : Int32)) &&& (3 : Int32)) + (1 : Int32)), rv a757, rv a762, .unset, .unset, .unset, .unset, .unset] [(.int ch388), (.int (0 : Int32)), (.ref a780), (.ref a780), (.ref a771), (.ref a771)])
    obtain ⟨cl792, A792, q792, S792, M792, H792, G792⟩ := id V780
    obtain ⟨T792, h792, X792, e792, W792, s792⟩ := stC X780 hx hZ e780 A792 (j := (0 : Int32)) (inb_of S792 (by decide)) (g := (mkF m 159 #[iv i0, iv i1, iv ch387, iv ch388, iv ch389, iv ch390, iv (1 : Int32), iv (((XT.ushr i1 (2 : Int32)) &&& (3 : Int32)) + (1 : Int32)), rv a757, rv a762, .unset, .unset, .unset, .unset, .unset] [(.int ch388), (.int (0 : Int32)), (.ref a780), (.ref a780), (.ref a771), (.ref a771)])) rfl rfl (hb hby at_159)
    have r792 : nar .char ch388 = ch388 := nc388
    rw [r792] at W792
    have N792 := Fr.snoc X792 N762a f780
    have C793 : CHr Z own_EL s.vm h780 s.vm h792 := CHr.wr W792 SF780 H790.1
    have hk := Nat.le_trans hk C793.2.1
    have H793 := H790.trans C793
    have O794 : Ext Z.heap h792 := xw O791 W792 f780
    have V792 : Arv Z h792 a780 k780 .char (2 : Int32) [(.int ch388), (.int (0 : Int32))] (.int 0) := Arv.set A792 q792 S792 M792 H792 G792 (by first | rfl | exact fits_nar_char ch388 | (rw [← r792]; exact fits_nar_char ch388)) W792 0 (by decide) (Nat.le_of_ble_eq_true rfl)
    refine go s792 ?_
    show Ends p e below _ T792 (mkF m 160 #[iv i0, iv i1, iv ch387, iv ch388, iv ch389, iv ch390, iv (1 : Int32), iv (((XT.ushr i1 (2 : Int32)) &&& (3 : Int32)) + (1 : Int32)), rv a757, rv a762, .unset, .unset, .unset, .unset, .unset] [(.ref a780), (.ref a771), (.ref a771)])
    refine go (fun _ => XS.dup X792.here hx rfl (hb hby at_160) rfl rfl) ?_
    refine go (fun _ => XT.iconstV X792.here hx rfl (1 : Int32) (hb hby at_161) (by decide)) ?_
    refine go (fun _ => XS.iloadN X792.here hx rfl (hb hby at_162) rfl) ?_
    show Ends p e below _ T792 (mkF m 163 #[iv i0, iv i1, iv ch387, iv ch388, iv ch389, iv ch390, iv (1 : Int32), iv (((XT.ushr i1 (2 : Int32)) &&& (3 : Int32)) + (1 : Int32)), rv a757, rv a762, .unset, .unset, .unset, .unset, .unset] [(.int ch387), (.int (1 : Int32)), (.ref a780), (.ref a780), (.ref a771), (.ref a771)])
    obtain ⟨cl795, A795, q795, S795, M795, H795, G795⟩ := id V792
    obtain ⟨T795, h795, X795, e795, W795, s795⟩ := stC X792 hx hZ e792 A795 (j := (1 : Int32)) (inb_of S795 (by decide)) (g := (mkF m 163 #[iv i0, iv i1, iv ch387, iv ch388, iv ch389, iv ch390, iv (1 : Int32), iv (((XT.ushr i1 (2 : Int32)) &&& (3 : Int32)) + (1 : Int32)), rv a757, rv a762, .unset, .unset, .unset, .unset, .unset] [(.int ch387), (.int (1 : Int32)), (.ref a780), (.ref a780), (.ref a771), (.ref a771)])) rfl rfl (hb hby at_163)
    have r795 : nar .char ch387 = ch387 := nc387
    rw [r795] at W795
    have N795 := Fr.snoc X795 N792 f780
    have F797 := (Safe.wr W792 SF780 H790.1 SF780)
    have C796 : CHr Z own_EL s.vm h792 s.vm h795 := CHr.wr W795 F797 H793.1
    have hk := Nat.le_trans hk C796.2.1
    have H796 := H793.trans C796
    have O798 : Ext Z.heap h795 := xw O794 W795 f780
    have V795 : Arv Z h795 a780 k780 .char (2 : Int32) [(.int ch388), (.int ch387)] (.int 0) := Arv.set A795 q795 S795 M795 H795 G795 (by first | rfl | exact fits_nar_char ch387 | (rw [← r795]; exact fits_nar_char ch387)) W795 1 (by decide) (Nat.le_of_ble_eq_true rfl)
    refine go s795 ?_
    show Ends p e below _ T795 (mkF m 164 #[iv i0, iv i1, iv ch387, iv ch388, iv ch389, iv ch390, iv (1 : Int32), iv (((XT.ushr i1 (2 : Int32)) &&& (3 : Int32)) + (1 : Int32)), rv a757, rv a762, .unset, .unset, .unset, .unset, .unset] [(.ref a780), (.ref a771), (.ref a771)])
    have F799 := (Exa.wr W795 (Exa.wr W792 (Exa.ext E780 A771)))
    have F800 := (Fld.other W795 (Fld.other W792 (Fld.ext E780 (D771 (Or.inr (hwi hw 29 rfl)) (ty := (.array .byte)) (by decide))) (Or.inl n787)) (Or.inl n787))
    have F801 := (Fld.other W795 (Fld.other W792 (Fld.ext E780 (D771 (Or.inr (hwi hw 27 rfl)) (ty := .byte) (by decide))) (Or.inl n787)) (Or.inl n787))
    refine cInit X795 hx hZ hown (by rw [hml]; rfl) e795 (hwi hw 4 rfl) (hwi hw 5 rfl) (hwi hw 2 rfl) (hwi hw 6 rfl) a771 [(.ref a780)] [(.ref a771)] rfl (rm_new1_2 hw a771 a780 k780 ch388 ch387 _ O798 f771 n787 F799 F800 F801 cz SCS hcz V795 lc388 lc387) (hb hby at_164) rfl (lenOf pd_28 rfl) rfl (by decide) (by decide) (Nat.le_of_ble_eq_true rfl) (by decide) (by decide) ?_
    rintro v802 T802 h802 L802 X802 e802 ⟨b802, k802, rfl, N802, K802, g802, Fv802, Fc802, V802⟩
    have N802a := Fr.app N795 N802
    have F803 := (Exa.wr W795 (Exa.wr W792 (Exa.ext E780 F781)))
    have n804 : a757 ≠ b802 := Nat.ne_of_lt (Nat.lt_of_lt_of_le (F803.lt) g802)
    have F805 := (Exa.wr W795 (Exa.wr W792 (Exa.ext E780 F782)))
    have n806 : a762 ≠ b802 := Nat.ne_of_lt (Nat.lt_of_lt_of_le (F805.lt) g802)
    have n807 : a771 ≠ b802 := Nat.ne_of_lt (Nat.lt_of_lt_of_le (F799.lt) g802)
    have n808 : a780 ≠ b802 := Nat.ne_of_lt (Nat.lt_of_lt_of_le (V795.lt) g802)
    have F809 := (Arv.other (Arv.other (Arv.ext F783 E780) W792 n788) W795 n788)
    have n810 : b757 ≠ b802 := Nat.ne_of_lt (Nat.lt_of_lt_of_le (F809.lt) g802)
    have F811 := (Arv.other (Arv.other (Arv.ext F784 E780) W792 n789) W795 n789)
    have n812 : b762 ≠ b802 := Nat.ne_of_lt (Nat.lt_of_lt_of_le (F811.lt) g802)
    have f813 : Z.heap.size ≤ b802 := Nat.le_trans (O798).1 g802
    have F815 := (Safe.wr W795 F797 H793.1 (Safe.wr W792 SF780 H790.1 (Safe.ext E780 H778.1 SF771)))
    have sf814 : ∀ x ∈ [a771], Safe Z own_EL s.vm h795 x := (sfS F815 sf0)
    have C814 : CHr Z own_EL s.vm h795 s.vm h802 := CHr.keep K802 sf814 H796.1
    have hk := Nat.le_trans hk C814.2.1
    have H814 := H796.trans C814
    have O816 : Ext Z.heap h802 := xk O798 K802 (allS f771 all0)
    show Ends p e below _ T802 (mkF m 167 #[iv i0, iv i1, iv ch387, iv ch388, iv ch389, iv ch390, iv (1 : Int32), iv (((XT.ushr i1 (2 : Int32)) &&& (3 : Int32)) + (1 : Int32)), rv a757, rv a762, .unset, .unset, .unset, .unset, .unset] [(.ref a771)])
    refine go (fun _ => XS.astore X802.here hx rfl (hb hby at_167) rfl rfl (l' := #[iv i0, iv i1, iv ch387, iv ch388, iv ch389, iv ch390, iv (1 : Int32), iv (((XT.ushr i1 (2 : Int32)) &&& (3 : Int32)) + (1 : Int32)), rv a757, rv a762, rv a771, .unset, .unset, .unset, .unset]) rfl) ?_
    refine go (fun _ => XS.iload X802.here hx rfl (hb hby at_169) rfl) ?_
    show Ends p e below _ T802 (mkF m 171 #[iv i0, iv i1, iv ch387, iv ch388, iv ch389, iv ch390, iv (1 : Int32), iv (((XT.ushr i1 (2 : Int32)) &&& (3 : Int32)) + (1 : Int32)), rv a757, rv a762, rv a771, .unset, .unset, .unset, .unset] [(.int ch389)])
    refine cStat X802 hx hZ hown (by rw [hml]; rfl) e802 (hwi hw 30 rfl) (hwi hw 31 rfl) (hwi hw 2 rfl) (hwi hw 32 rfl) [(.int ch389)] [] rfl (rm_cvalueOf hw ch389 _ O816 lc389 cz SCS hcz) (hb hby at_171) rfl (lenOf pd_29 rfl) (by decide) (by decide) (Nat.le_of_ble_eq_true rfl) (by decide) (by decide) ?_
    rintro v817 T817 h817 L817 X817 e817 ⟨a817, b817, k817, rfl, N817, K817, ga817, gb817, nn817, E817, Fv817, Fc817, V817⟩
    have N817a := Fr.app N802a N817
    have F818 := (Exa.keep F803 K802)
    have n819 : a757 ≠ a817 := Nat.ne_of_lt (Nat.lt_of_lt_of_le (F818.lt) ga817)
    have F820 := (Exa.keep F805 K802)
    have n821 : a762 ≠ a817 := Nat.ne_of_lt (Nat.lt_of_lt_of_le (F820.lt) ga817)
    have F822 := (Exa.keep F799 K802)
    have n823 : a771 ≠ a817 := Nat.ne_of_lt (Nat.lt_of_lt_of_le (F822.lt) ga817)
    have F824 := (Arv.keep V795 K802 (ninS (Ne.symm n787) nin0))
    have n825 : a780 ≠ a817 := Nat.ne_of_lt (Nat.lt_of_lt_of_le (F824.lt) ga817)
    have F826 := (Arv.keep F809 K802 (ninS n776 nin0))
    have n827 : b757 ≠ a817 := Nat.ne_of_lt (Nat.lt_of_lt_of_le (F826.lt) ga817)
    have F828 := (Arv.keep F811 K802 (ninS n777 nin0))
    have n829 : b762 ≠ a817 := Nat.ne_of_lt (Nat.lt_of_lt_of_le (F828.lt) ga817)
    have n830 : b802 ≠ a817 := Nat.ne_of_lt (Nat.lt_of_lt_of_le (V802.lt) ga817)
    have f831 : Z.heap.size ≤ a817 := Nat.le_trans (O816).1 ga817
    have n832 : a757 ≠ b817 := Nat.ne_of_lt (Nat.lt_of_lt_of_le (F818.lt) gb817)
    have n833 : a762 ≠ b817 := Nat.ne_of_lt (Nat.lt_of_lt_of_le (F820.lt) gb817)
    have n834 : a771 ≠ b817 := Nat.ne_of_lt (Nat.lt_of_lt_of_le (F822.lt) gb817)
    have n835 : a780 ≠ b817 := Nat.ne_of_lt (Nat.lt_of_lt_of_le (F824.lt) gb817)
    have n836 : b757 ≠ b817 := Nat.ne_of_lt (Nat.lt_of_lt_of_le (F826.lt) gb817)
    have n837 : b762 ≠ b817 := Nat.ne_of_lt (Nat.lt_of_lt_of_le (F828.lt) gb817)
    have n838 : b802 ≠ b817 := Nat.ne_of_lt (Nat.lt_of_lt_of_le (V802.lt) gb817)
    have f839 : Z.heap.size ≤ b817 := Nat.le_trans (O816).1 gb817
    have C840 : CHr Z own_EL s.vm h802 s.vm h817 := CHr.keep K817 sf0 H814.1
    have hk := Nat.le_trans hk C840.2.1
    have H840 := H814.trans C840
    have O841 : Ext Z.heap h817 := xk O816 K817 all0
    show Ends p e below _ T817 (mkF m 174 #[iv i0, iv i1, iv ch387, iv ch388, iv ch389, iv ch390, iv (1 : Int32), iv (((XT.ushr i1 (2 : Int32)) &&& (3 : Int32)) + (1 : Int32)), rv a757, rv a762, rv a771, .unset, .unset, .unset, .unset] [(.ref a817)])
    refine go (fun _ => XS.astore X817.here hx rfl (hb hby at_174) rfl rfl (l' := #[iv i0, iv i1, iv ch387, iv ch388, iv ch389, iv ch390, iv (1 : Int32), iv (((XT.ushr i1 (2 : Int32)) &&& (3 : Int32)) + (1 : Int32)), rv a757, rv a762, rv a771, rv a817, .unset, .unset, .unset]) rfl) ?_
    show Ends p e below _ T817 (mkF m 176 #[iv i0, iv i1, iv ch387, iv ch388, iv ch389, iv ch390, iv (1 : Int32), iv (((XT.ushr i1 (2 : Int32)) &&& (3 : Int32)) + (1 : Int32)), rv a757, rv a762, rv a771, rv a817, .unset, .unset, .unset] [])
    obtain ⟨T842, h842, X842, e842, E842, A842, D842, U842, s842⟩ := newO X817 hx hZ hown (hwi hw 44 rfl) (hwi hw 45 rfl) (hwi hw 46 rfl) e817 (g := (mkF m 176 #[iv i0, iv i1, iv ch387, iv ch388, iv ch389, iv ch390, iv (1 : Int32), iv (((XT.ushr i1 (2 : Int32)) &&& (3 : Int32)) + (1 : Int32)), rv a757, rv a762, rv a771, rv a817, .unset, .unset, .unset] [])) rfl (hb hby at_176) (by decide) (by decide)
    have F843 := (Exa.keep F818 K817)
    have F844 := (Exa.keep F820 K817)
    have F845 := (Exa.keep F822 K817)
    have F846 := (Arv.keep F824 K817 nin0)
    have F847 := (Arv.keep F826 K817 nin0)
    have F848 := (Arv.keep F828 K817 nin0)
    have F849 := (Arv.keep V802 K817 nin0)
    obtain ⟨a842, g842⟩ : ∃ z : Addr, z = h817.size := ⟨_, rfl⟩
    have n850 : a757 ≠ a842 := fun q => absurd (F843.lt) (by rw [q, g842]; exact Nat.lt_irrefl _)
    have n851 : a762 ≠ a842 := fun q => absurd (F844.lt) (by rw [q, g842]; exact Nat.lt_irrefl _)
    have n852 : a771 ≠ a842 := fun q => absurd (F845.lt) (by rw [q, g842]; exact Nat.lt_irrefl _)
    have n853 : a780 ≠ a842 := fun q => absurd (F846.lt) (by rw [q, g842]; exact Nat.lt_irrefl _)
    have n854 : a817 ≠ a842 := fun q => absurd (E817.lt) (by rw [q, g842]; exact Nat.lt_irrefl _)
    have n855 : b757 ≠ a842 := fun q => absurd (F847.lt) (by rw [q, g842]; exact Nat.lt_irrefl _)
    have n856 : b762 ≠ a842 := fun q => absurd (F848.lt) (by rw [q, g842]; exact Nat.lt_irrefl _)
    have n857 : b802 ≠ a842 := fun q => absurd (F849.lt) (by rw [q, g842]; exact Nat.lt_irrefl _)
    have n858 : b817 ≠ a842 := fun q => absurd (V817.lt) (by rw [q, g842]; exact Nat.lt_irrefl _)
    have f842 : Z.heap.size ≤ a842 := by rw [g842]; exact (O841).1
    rw [← g842] at A842 D842 U842 s842
    have C859 : CHr Z own_EL s.vm h817 s.vm h842 := CHr.ext E842 H840.1
    have hk := Nat.le_trans hk C859.2.1
    have H859 := H840.trans C859
    have O860 : Ext Z.heap h842 := xx O841 E842
    have SF842 : Safe Z own_EL s.vm h842 a842 := Safe.ext E842 H840.1 (Safe.new (by rw [g842]; exact Nat.le_refl _))
    refine go s842 ?_
    show Ends p e below _ T842 (mkF m 179 #[iv i0, iv i1, iv ch387, iv ch388, iv ch389, iv ch390, iv (1 : Int32), iv (((XT.ushr i1 (2 : Int32)) &&& (3 : Int32)) + (1 : Int32)), rv a757, rv a762, rv a771, rv a817, .unset, .unset, .unset] [(.ref a842)])
    refine go (fun _ => XS.dup X842.here hx rfl (hb hby at_179) rfl rfl) ?_
    show Ends p e below _ T842 (mkF m 180 #[iv i0, iv i1, iv ch387, iv ch388, iv ch389, iv ch390, iv (1 : Int32), iv (((XT.ushr i1 (2 : Int32)) &&& (3 : Int32)) + (1 : Int32)), rv a757, rv a762, rv a771, rv a817, .unset, .unset, .unset] [(.ref a842), (.ref a842)])
    have F861 := (D842 (Or.inl (hwi hw 64 rfl)) (ty := .int) (by decide))
    have F862 := (D842 (Or.inl (hwi hw 67 rfl)) (ty := (.array (.object "java/lang/Object"))) (by decide))
    have F863 := (D842 (Or.inl (hwi hw 76 rfl)) (ty := .int) (by decide))
    refine cInit X842 hx hZ hown (by rw [hml]; rfl) e842 (hwi hw 47 rfl) (hwi hw 48 rfl) (hwi hw 46 rfl) (hwi hw 49 rfl) a842 [] [(.ref a842)] rfl (rm_alinit hw a842 aD kD _ O860 f842 A842 F861 F862 F863 SD VD) (hb hby at_180) rfl (lenOf pd_12 rfl) rfl (by decide) (by decide) (Nat.le_of_ble_eq_true rfl) (by decide) (by decide) ?_
    rintro v864 T864 h864 L864 X864 e864 ⟨rfl, N864, K864, F1864, F2864, F3864⟩
    have N864a := Fr.app N817a N864
    have sf865 : ∀ x ∈ [a842], Safe Z own_EL s.vm h842 x := (sfS SF842 sf0)
    have C865 : CHr Z own_EL s.vm h842 s.vm h864 := CHr.keep K864 sf865 H859.1
    have hk := Nat.le_trans hk C865.2.1
    have H865 := H859.trans C865
    have O866 : Ext Z.heap h864 := xk O860 K864 (allS f842 all0)
    show Ends p e below _ T864 (mkF m 183 #[iv i0, iv i1, iv ch387, iv ch388, iv ch389, iv ch390, iv (1 : Int32), iv (((XT.ushr i1 (2 : Int32)) &&& (3 : Int32)) + (1 : Int32)), rv a757, rv a762, rv a771, rv a817, .unset, .unset, .unset] [(.ref a842)])
    refine go (fun _ => XS.astore X864.here hx rfl (hb hby at_183) rfl rfl (l' := #[iv i0, iv i1, iv ch387, iv ch388, iv ch389, iv ch390, iv (1 : Int32), iv (((XT.ushr i1 (2 : Int32)) &&& (3 : Int32)) + (1 : Int32)), rv a757, rv a762, rv a771, rv a817, rv a842, .unset, .unset]) rfl) ?_
    refine go (fun _ => XS.aload X864.here hx rfl (hb hby at_185) rfl rfl) ?_
    refine go (fun _ => XS.aload X864.here hx rfl (hb hby at_187) rfl rfl) ?_
    show Ends p e below _ T864 (mkF m 189 #[iv i0, iv i1, iv ch387, iv ch388, iv ch389, iv ch390, iv (1 : Int32), iv (((XT.ushr i1 (2 : Int32)) &&& (3 : Int32)) + (1 : Int32)), rv a757, rv a762, rv a771, rv a817, rv a842, .unset, .unset] [(.ref a757), (.ref a842)])
    have F867 := (Exa.keep A842 K864)
    have F868 := (Exa.keep (Exa.ext E842 F843) K864)
    refine cVirt X864 hx hZ hown (by rw [hml]; rfl) e864 (hwi hw 68 rfl) (hwi hw 69 rfl) (hwi hw 71 rfl) (hwi hw 70 rfl) (hwi hw 46 rfl) (hwi hw 72 rfl) (notFace_of_selects (args := #[]) (mvT hZ (hwi hw 71 rfl))) a842 F867 [(.ref a757)] [] rfl (rm_add_0 hw a842 a757 (0 : Int32) aD kD _ O866 f842 F867 F1864 F2864 F3864 SD VD F868 (Ne.symm n850)) (hb hby at_189) rfl (lenOf pd_30 rfl) (by decide) (by decide) (Nat.le_of_ble_eq_true rfl) (by decide) (by decide) ?_
    rintro v869 T869 h869 L869 X869 e869 ⟨b869, k869, rfl, N869, K869, g869, O869, F1869, F2869, F3869, V869⟩
    have N869a := Fr.app N864a N869
    have n870 : a757 ≠ b869 := Nat.ne_of_lt (Nat.lt_of_lt_of_le (F868.lt) g869)
    have F871 := (Exa.keep (Exa.ext E842 F844) K864)
    have n872 : a762 ≠ b869 := Nat.ne_of_lt (Nat.lt_of_lt_of_le (F871.lt) g869)
    have F873 := (Exa.keep (Exa.ext E842 F845) K864)
    have n874 : a771 ≠ b869 := Nat.ne_of_lt (Nat.lt_of_lt_of_le (F873.lt) g869)
    have F875 := (Arv.keep (Arv.ext F846 E842) K864 (ninS n853 nin0))
    have n876 : a780 ≠ b869 := Nat.ne_of_lt (Nat.lt_of_lt_of_le (F875.lt) g869)
    have F877 := (Exa.keep (Exa.ext E842 E817) K864)
    have n878 : a817 ≠ b869 := Nat.ne_of_lt (Nat.lt_of_lt_of_le (F877.lt) g869)
    have n879 : a842 ≠ b869 := Nat.ne_of_lt (Nat.lt_of_lt_of_le (F867.lt) g869)
    have F880 := (Arv.keep (Arv.ext F847 E842) K864 (ninS n855 nin0))
    have n881 : b757 ≠ b869 := Nat.ne_of_lt (Nat.lt_of_lt_of_le (F880.lt) g869)
    have F882 := (Arv.keep (Arv.ext F848 E842) K864 (ninS n856 nin0))
    have n883 : b762 ≠ b869 := Nat.ne_of_lt (Nat.lt_of_lt_of_le (F882.lt) g869)
    have F884 := (Arv.keep (Arv.ext F849 E842) K864 (ninS n857 nin0))
    have n885 : b802 ≠ b869 := Nat.ne_of_lt (Nat.lt_of_lt_of_le (F884.lt) g869)
    have F886 := (Arv.keep (Arv.ext V817 E842) K864 (ninS n858 nin0))
    have n887 : b817 ≠ b869 := Nat.ne_of_lt (Nat.lt_of_lt_of_le (F886.lt) g869)
    have f888 : Z.heap.size ≤ b869 := Nat.le_trans (O866).1 g869
    have F890 := (Safe.keep K864 sf865 H859.1 SF842)
    have sf889 : ∀ x ∈ [a842], Safe Z own_EL s.vm h864 x := (sfS F890 sf0)
    have C889 : CHr Z own_EL s.vm h864 s.vm h869 := CHr.keep K869 sf889 H865.1
    have hk := Nat.le_trans hk C889.2.1
    have H889 := H865.trans C889
    have O891 : Ext Z.heap h869 := xk O866 K869 (allS f842 all0)
    show Ends p e below _ T869 (mkF m 192 #[iv i0, iv i1, iv ch387, iv ch388, iv ch389, iv ch390, iv (1 : Int32), iv (((XT.ushr i1 (2 : Int32)) &&& (3 : Int32)) + (1 : Int32)), rv a757, rv a762, rv a771, rv a817, rv a842, .unset, .unset] [(.int (1 : Int32))])
    refine go (fun _ => XT.pop X869.here hx rfl (hb hby at_192) rfl rfl) ?_
    show Ends p e below _ T869 (mkF m 193 #[iv i0, iv i1, iv ch387, iv ch388, iv ch389, iv ch390, iv (1 : Int32), iv (((XT.ushr i1 (2 : Int32)) &&& (3 : Int32)) + (1 : Int32)), rv a757, rv a762, rv a771, rv a817, rv a842, .unset, .unset] [])
    rcases own_q4 (XT.ushr i1 (2 : Int32)) with q892 | q892 | q892 | q892
    · rw [q892]
      show Ends p e below _ T869 (mkF m 193 #[iv i0, iv i1, iv ch387, iv ch388, iv ch389, iv ch390, iv (1 : Int32), iv (1 : Int32), rv a757, rv a762, rv a771, rv a817, rv a842, .unset, .unset] [])
      refine go (fun _ => XS.iload X869.here hx rfl (hb hby at_193) rfl) ?_
      refine go (fun _ => XT.iconstV X869.here hx rfl (1 : Int32) (hb hby at_195) (by decide)) ?_
      show Ends p e below _ T869 (mkF m 196 #[iv i0, iv i1, iv ch387, iv ch388, iv ch389, iv ch390, iv (1 : Int32), iv (1 : Int32), rv a757, rv a762, rv a771, rv a817, rv a842, .unset, .unset] [(.int (1 : Int32)), (.int (1 : Int32))])
      refine go (fun _ => XS.icmpYes X869.here hx rfl (pc0 := 196) (pc' := 207) rfl (hb hby at_196) rfl (XT.ii_le_t ((by decide) : ¬ ((1 : Int32) < (1 : Int32)))) (by decide) (by decide)) ?_
      show Ends p e below _ T869 (mkF m 207 #[iv i0, iv i1, iv ch387, iv ch388, iv ch389, iv ch390, iv (1 : Int32), iv (1 : Int32), rv a757, rv a762, rv a771, rv a817, rv a842, .unset, .unset] [])
      refine go (fun _ => XS.iload X869.here hx rfl (hb hby at_207) rfl) ?_
      refine go (fun _ => XT.iconstV X869.here hx rfl (2 : Int32) (hb hby at_209) (by decide)) ?_
      show Ends p e below _ T869 (mkF m 210 #[iv i0, iv i1, iv ch387, iv ch388, iv ch389, iv ch390, iv (1 : Int32), iv (1 : Int32), rv a757, rv a762, rv a771, rv a817, rv a842, .unset, .unset] [(.int (2 : Int32)), (.int (1 : Int32))])
      refine go (fun _ => XS.icmpYes X869.here hx rfl (pc0 := 210) (pc' := 221) rfl (hb hby at_210) rfl (XT.ii_le_t ((by decide) : ¬ ((2 : Int32) < (1 : Int32)))) (by decide) (by decide)) ?_
      show Ends p e below _ T869 (mkF m 221 #[iv i0, iv i1, iv ch387, iv ch388, iv ch389, iv ch390, iv (1 : Int32), iv (1 : Int32), rv a757, rv a762, rv a771, rv a817, rv a842, .unset, .unset] [])
      refine go (fun _ => XS.iload X869.here hx rfl (hb hby at_221) rfl) ?_
      refine go (fun _ => XT.iconstV X869.here hx rfl (3 : Int32) (hb hby at_223) (by decide)) ?_
      show Ends p e below _ T869 (mkF m 224 #[iv i0, iv i1, iv ch387, iv ch388, iv ch389, iv ch390, iv (1 : Int32), iv (1 : Int32), rv a757, rv a762, rv a771, rv a817, rv a842, .unset, .unset] [(.int (3 : Int32)), (.int (1 : Int32))])
      refine go (fun _ => XS.icmpYes X869.here hx rfl (pc0 := 224) (pc' := 235) rfl (hb hby at_224) rfl (XT.ii_le_t ((by decide) : ¬ ((3 : Int32) < (1 : Int32)))) (by decide) (by decide)) ?_
      show Ends p e below _ T869 (mkF m 235 #[iv i0, iv i1, iv ch387, iv ch388, iv ch389, iv ch390, iv (1 : Int32), iv (1 : Int32), rv a757, rv a762, rv a771, rv a817, rv a842, .unset, .unset] [])
      obtain ⟨T893, h893, X893, e893, E893, A893, D893, U893, s893⟩ := newO X869 hx hZ hown (hwi hw 99 rfl) (hwi hw 100 rfl) (hwi hw 101 rfl) e869 (g := (mkF m 235 #[iv i0, iv i1, iv ch387, iv ch388, iv ch389, iv ch390, iv (1 : Int32), iv (1 : Int32), rv a757, rv a762, rv a771, rv a817, rv a842, .unset, .unset] [])) rfl (hb hby at_235) (by decide) (by decide)
      have F894 := (Exa.keep F868 K869)
      have F895 := (Exa.keep F871 K869)
      have F896 := (Exa.keep F873 K869)
      have F897 := (Arv.keep F875 K869 (ninS n853 nin0))
      have F898 := (Exa.keep F877 K869)
      have F899 := (Exa.keep F867 K869)
      have F900 := (Arv.keep F880 K869 (ninS n855 nin0))
      have F901 := (Arv.keep F882 K869 (ninS n856 nin0))
      have F902 := (Arv.keep F884 K869 (ninS n857 nin0))
      have F903 := (Arv.keep F886 K869 (ninS n858 nin0))
      obtain ⟨a893, g893⟩ : ∃ z : Addr, z = h869.size := ⟨_, rfl⟩
      have n904 : a757 ≠ a893 := fun q => absurd (F894.lt) (by rw [q, g893]; exact Nat.lt_irrefl _)
      have n905 : a762 ≠ a893 := fun q => absurd (F895.lt) (by rw [q, g893]; exact Nat.lt_irrefl _)
      have n906 : a771 ≠ a893 := fun q => absurd (F896.lt) (by rw [q, g893]; exact Nat.lt_irrefl _)
      have n907 : a780 ≠ a893 := fun q => absurd (F897.lt) (by rw [q, g893]; exact Nat.lt_irrefl _)
      have n908 : a817 ≠ a893 := fun q => absurd (F898.lt) (by rw [q, g893]; exact Nat.lt_irrefl _)
      have n909 : a842 ≠ a893 := fun q => absurd (F899.lt) (by rw [q, g893]; exact Nat.lt_irrefl _)
      have n910 : b757 ≠ a893 := fun q => absurd (F900.lt) (by rw [q, g893]; exact Nat.lt_irrefl _)
      have n911 : b762 ≠ a893 := fun q => absurd (F901.lt) (by rw [q, g893]; exact Nat.lt_irrefl _)
      have n912 : b802 ≠ a893 := fun q => absurd (F902.lt) (by rw [q, g893]; exact Nat.lt_irrefl _)
      have n913 : b817 ≠ a893 := fun q => absurd (F903.lt) (by rw [q, g893]; exact Nat.lt_irrefl _)
      have n914 : b869 ≠ a893 := fun q => absurd (V869.lt) (by rw [q, g893]; exact Nat.lt_irrefl _)
      have f893 : Z.heap.size ≤ a893 := by rw [g893]; exact (O891).1
      rw [← g893] at A893 D893 U893 s893
      have C915 : CHr Z own_EL s.vm h869 s.vm h893 := CHr.ext E893 H889.1
      have hk := Nat.le_trans hk C915.2.1
      have H915 := H889.trans C915
      have O916 : Ext Z.heap h893 := xx O891 E893
      have SF893 : Safe Z own_EL s.vm h893 a893 := Safe.ext E893 H889.1 (Safe.new (by rw [g893]; exact Nat.le_refl _))
      refine go s893 ?_
      show Ends p e below _ T893 (mkF m 238 #[iv i0, iv i1, iv ch387, iv ch388, iv ch389, iv ch390, iv (1 : Int32), iv (1 : Int32), rv a757, rv a762, rv a771, rv a817, rv a842, .unset, .unset] [(.ref a893)])
      refine go (fun _ => XS.dup X893.here hx rfl (hb hby at_238) rfl rfl) ?_
      refine go (fun _ => XS.aload X893.here hx rfl (hb hby at_239) rfl rfl) ?_
      show Ends p e below _ T893 (mkF m 241 #[iv i0, iv i1, iv ch387, iv ch388, iv ch389, iv ch390, iv (1 : Int32), iv (1 : Int32), rv a757, rv a762, rv a771, rv a817, rv a842, .unset, .unset] [(.ref a842), (.ref a893), (.ref a893)])
      have F917 := (D893 (Or.inr (hwi hw 107 rfl)) (ty := (.object "java/util/List")) (by decide))
      refine cInit X893 hx hZ hown (by rw [hml]; rfl) e893 (hwi hw 102 rfl) (hwi hw 103 rfl) (hwi hw 101 rfl) (hwi hw 104 rfl) a893 [(.ref a842)] [(.ref a893)] rfl (rm_pg hw a893 a842 _ O916 f893 A893 F917  ) (hb hby at_241) rfl (lenOf pd_31 rfl) rfl (by decide) (by decide) (Nat.le_of_ble_eq_true rfl) (by decide) (by decide) ?_
      rintro v918 T918 h918 L918 X918 e918 ⟨rfl, N918, K918, F918_0⟩
      have N918a := Fr.app N869a N918
      have sf919 : ∀ x ∈ [a893], Safe Z own_EL s.vm h893 x := (sfS SF893 sf0)
      have C919 : CHr Z own_EL s.vm h893 s.vm h918 := CHr.keep K918 sf919 H915.1
      have hk := Nat.le_trans hk C919.2.1
      have H919 := H915.trans C919
      have O920 : Ext Z.heap h918 := xk O916 K918 (allS f893 all0)
      show Ends p e below _ T918 (mkF m 244 #[iv i0, iv i1, iv ch387, iv ch388, iv ch389, iv ch390, iv (1 : Int32), iv (1 : Int32), rv a757, rv a762, rv a771, rv a817, rv a842, .unset, .unset] [(.ref a893)])
      refine go (fun _ => XS.astore X918.here hx rfl (hb hby at_244) rfl rfl (l' := #[iv i0, iv i1, iv ch387, iv ch388, iv ch389, iv ch390, iv (1 : Int32), iv (1 : Int32), rv a757, rv a762, rv a771, rv a817, rv a842, rv a893, .unset]) rfl) ?_
      refine go (fun _ => XS.aload X918.here hx rfl (hb hby at_246) rfl rfl) ?_
      show Ends p e below _ T918 (mkF m 248 #[iv i0, iv i1, iv ch387, iv ch388, iv ch389, iv ch390, iv (1 : Int32), iv (1 : Int32), rv a757, rv a762, rv a771, rv a817, rv a842, rv a893, .unset] [(.ref a893)])
      have F921 := (Exa.keep (Exa.ext E893 F894) K918)
      have F922 := (Exa.keep (Exa.ext E893 F899) K918)
      have F923 := (Fld.keep (Fld.ext E893 F2869) K918 (ninS n909 nin0))
      have F924 := (Fld.keep (Fld.ext E893 F3869) K918 (ninS n909 nin0))
      have F925 := (Arv.keep (Arv.ext V869 E893) K918 (ninS n914 nin0))
      have F927 := (Exa.keep A893 K918)
      refine cVirt X918 hx hZ hown (by rw [hml]; rfl) e918 (hwi hw 108 rfl) (hwi hw 109 rfl) (hwi hw 111 rfl) (hwi hw 110 rfl) (hwi hw 101 rfl) (hwi hw 112 rfl) (notFace_of_selects (args := #[]) (mvT hZ (hwi hw 111 rfl))) a893 F927 [] [] rfl (rm_name hw a893 a842 b869 a757 k869 (1 : Int32) _ _ F918_0 F921 F922 F923 F924 F925 (by decide)) (hb hby at_248) rfl (lenOf pd_32 rfl) (by decide) (by decide) (Nat.le_of_ble_eq_true rfl) (by decide) (by decide) ?_
      rintro v926 T926 h926 L926 X926 e926 ⟨rfl, N926, rfl⟩
      have N926a := Fr.app N918a N926
      show Ends p e below _ T926 (mkF m 251 #[iv i0, iv i1, iv ch387, iv ch388, iv ch389, iv ch390, iv (1 : Int32), iv (1 : Int32), rv a757, rv a762, rv a771, rv a817, rv a842, rv a893, .unset] [(.ref a757)])
      refine go (fun _ => XS.astore X926.here hx rfl (hb hby at_251) rfl rfl (l' := #[iv i0, iv i1, iv ch387, iv ch388, iv ch389, iv ch390, iv (1 : Int32), iv (1 : Int32), rv a757, rv a762, rv a771, rv a817, rv a842, rv a893, rv a757]) rfl) ?_
      refine go (fun _ => XS.aload X926.here hx rfl (hb hby at_253) rfl rfl) ?_
      show Ends p e below _ T926 (mkF m 255 #[iv i0, iv i1, iv ch387, iv ch388, iv ch389, iv ch390, iv (1 : Int32), iv (1 : Int32), rv a757, rv a762, rv a771, rv a817, rv a842, rv a893, rv a757] [(.ref a757)])
      refine go (fun _ => XS.ifnullNo X926.here hx rfl (hb hby at_255) rfl) ?_
      show Ends p e below _ T926 (mkF m 258 #[iv i0, iv i1, iv ch387, iv ch388, iv ch389, iv ch390, iv (1 : Int32), iv (1 : Int32), rv a757, rv a762, rv a771, rv a817, rv a842, rv a893, rv a757] [])
      refine go (fun _ => XS.aload X926.here hx rfl (hb hby at_258) rfl rfl) ?_
      show Ends p e below _ T926 (mkF m 260 #[iv i0, iv i1, iv ch387, iv ch388, iv ch389, iv ch390, iv (1 : Int32), iv (1 : Int32), rv a757, rv a762, rv a771, rv a817, rv a842, rv a893, rv a757] [(.ref a757)])
      have F928 := (Fld.keep (Fld.ext E893 (Fld.keep (Fld.keep (Fld.ext E842 (Fld.keep (Fld.keep (Fld.other W795 (Fld.other W792 (Fld.ext E780 (Fld.ext E771 (Fld.keep Fc757 K762 nin0))) (Or.inl n785)) (Or.inl n785)) K802 (ninS n774 nin0)) K817 nin0)) K864 (ninS n850 nin0)) K869 (ninS n850 nin0))) K918 (ninS n904 nin0))
      have F929 := (Fld.keep (Fld.ext E893 (Fld.keep (Fld.keep (Fld.ext E842 (Fld.keep (Fld.keep (Fld.other W795 (Fld.other W792 (Fld.ext E780 (Fld.ext E771 (Fld.keep Fv757 K762 nin0))) (Or.inl n785)) (Or.inl n785)) K802 (ninS n774 nin0)) K817 nin0)) K864 (ninS n850 nin0)) K869 (ninS n850 nin0))) K918 (ninS n904 nin0))
      have F930 := (Arv.keep (Arv.ext F900 E893) K918 (ninS n910 nin0))
      refine cVirt X926 hx hZ hown (by rw [hml]; rfl) e926 (hwi hw 136 rfl) (hwi hw 137 rfl) (hwi hw 139 rfl) (hwi hw 138 rfl) (hwi hw 2 rfl) (hwi hw 140 rfl) (notFace_of_selects (args := #[]) (mvT hZ (hwi hw 139 rfl))) a757 F921 [] [] rfl (rm_length hw a757 b757 k757 (1 : Int32) _ _ O920 cz SCS hcz F928 F921 F929 F930) (hb hby at_260) rfl (lenOf pd_33 rfl) (by decide) (by decide) (Nat.le_of_ble_eq_true rfl) (by decide) (by decide) ?_
      rintro v931 T931 h931 L931 X931 e931 ⟨rfl, N931, rfl⟩
      have N931a := Fr.app N926a N931
      show Ends p e below _ T931 (mkF m 263 #[iv i0, iv i1, iv ch387, iv ch388, iv ch389, iv ch390, iv (1 : Int32), iv (1 : Int32), rv a757, rv a762, rv a771, rv a817, rv a842, rv a893, rv a757] [(.int (1 : Int32))])
      refine go (fun _ => XS.iload X931.here hx rfl (hb hby at_263) rfl) ?_
      show Ends p e below _ T931 (mkF m 265 #[iv i0, iv i1, iv ch387, iv ch388, iv ch389, iv ch390, iv (1 : Int32), iv (1 : Int32), rv a757, rv a762, rv a771, rv a817, rv a842, rv a893, rv a757] [(.int (1 : Int32)), (.int (1 : Int32))])
      refine go (fun _ => XS.icmpYes X931.here hx rfl (pc0 := 265) (pc' := 270) rfl (hb hby at_265) rfl (XT.ii_eq_t ((by decide) : (1 : Int32) = (1 : Int32))) (by decide) (by decide)) ?_
      show Ends p e below _ T931 (mkF m 270 #[iv i0, iv i1, iv ch387, iv ch388, iv ch389, iv ch390, iv (1 : Int32), iv (1 : Int32), rv a757, rv a762, rv a771, rv a817, rv a842, rv a893, rv a757] [])
      refine go (fun _ => XS.iload X931.here hx rfl (hb hby at_270) rfl) ?_
      refine go (fun _ => XT.iconstV X931.here hx rfl (1 : Int32) (hb hby at_272) (by decide)) ?_
      show Ends p e below _ T931 (mkF m 273 #[iv i0, iv i1, iv ch387, iv ch388, iv ch389, iv ch390, iv (1 : Int32), iv (1 : Int32), rv a757, rv a762, rv a771, rv a817, rv a842, rv a893, rv a757] [(.int (1 : Int32)), (.int (1 : Int32))])
      refine go (fun _ => XS.icmpNo X931.here hx rfl (hb hby at_273) rfl (XT.ii_lt_f ((by decide) : ¬ ((1 : Int32) < (1 : Int32))))) ?_
      show Ends p e below _ T931 (mkF m 276 #[iv i0, iv i1, iv ch387, iv ch388, iv ch389, iv ch390, iv (1 : Int32), iv (1 : Int32), rv a757, rv a762, rv a771, rv a817, rv a842, rv a893, rv a757] [])
      refine go (fun _ => XS.aload X931.here hx rfl (hb hby at_276) rfl rfl) ?_
      refine go (fun _ => XT.iconstV X931.here hx rfl (0 : Int32) (hb hby at_278) (by decide)) ?_
      show Ends p e below _ T931 (mkF m 279 #[iv i0, iv i1, iv ch387, iv ch388, iv ch389, iv ch390, iv (1 : Int32), iv (1 : Int32), rv a757, rv a762, rv a771, rv a817, rv a842, rv a893, rv a757] [(.int (0 : Int32)), (.ref a757)])
      refine cVirt X931 hx hZ hown (by rw [hml]; rfl) e931 (hwi hw 146 rfl) (hwi hw 147 rfl) (hwi hw 149 rfl) (hwi hw 148 rfl) (hwi hw 2 rfl) (hwi hw 150 rfl) (notFace_of_selects (args := #[]) (mvT hZ (hwi hw 149 rfl))) a757 F921 [(.int (0 : Int32))] [] rfl (rm_sc_0_1 hw a757 b757 k757 ch387 wS _ O920 cz SCS hcz hsf SS F928 F921 F929 F930 lc387 gc387) (hb hby at_279) rfl (lenOf pd_34 rfl) (by decide) (by decide) (Nat.le_of_ble_eq_true rfl) (by decide) (by decide) ?_
      rintro v932 T932 h932 L932 X932 e932 ⟨rfl, N932, rfl⟩
      have N932a := Fr.app N931a N932
      show Ends p e below _ T932 (mkF m 282 #[iv i0, iv i1, iv ch387, iv ch388, iv ch389, iv ch390, iv (1 : Int32), iv (1 : Int32), rv a757, rv a762, rv a771, rv a817, rv a842, rv a893, rv a757] [(.int ch387)])
      refine go (fun _ => XS.iloadN X932.here hx rfl (hb hby at_282) rfl) ?_
      show Ends p e below _ T932 (mkF m 283 #[iv i0, iv i1, iv ch387, iv ch388, iv ch389, iv ch390, iv (1 : Int32), iv (1 : Int32), rv a757, rv a762, rv a771, rv a817, rv a842, rv a893, rv a757] [(.int ch387), (.int ch387)])
      refine go (fun _ => XS.icmpYes X932.here hx rfl (pc0 := 283) (pc' := 288) rfl (hb hby at_283) rfl (XT.ii_eq_t (rfl : ch387 = ch387)) (by decide) (by decide)) ?_
      show Ends p e below _ T932 (mkF m 288 #[iv i0, iv i1, iv ch387, iv ch388, iv ch389, iv ch390, iv (1 : Int32), iv (1 : Int32), rv a757, rv a762, rv a771, rv a817, rv a842, rv a893, rv a757] [])
      refine go (fun _ => XS.iload X932.here hx rfl (hb hby at_288) rfl) ?_
      refine go (fun _ => XT.iconstV X932.here hx rfl (2 : Int32) (hb hby at_290) (by decide)) ?_
      show Ends p e below _ T932 (mkF m 291 #[iv i0, iv i1, iv ch387, iv ch388, iv ch389, iv ch390, iv (1 : Int32), iv (1 : Int32), rv a757, rv a762, rv a771, rv a817, rv a842, rv a893, rv a757] [(.int (2 : Int32)), (.int (1 : Int32))])
      refine go (fun _ => XS.icmpYes X932.here hx rfl (pc0 := 291) (pc' := 306) rfl (hb hby at_291) rfl (XT.ii_lt_t ((by decide) : (1 : Int32) < (2 : Int32))) (by decide) (by decide)) ?_
      show Ends p e below _ T932 (mkF m 306 #[iv i0, iv i1, iv ch387, iv ch388, iv ch389, iv ch390, iv (1 : Int32), iv (1 : Int32), rv a757, rv a762, rv a771, rv a817, rv a842, rv a893, rv a757] [])
      refine go (fun _ => XS.iload X932.here hx rfl (hb hby at_306) rfl) ?_
      refine go (fun _ => XT.iconstV X932.here hx rfl (3 : Int32) (hb hby at_308) (by decide)) ?_
      show Ends p e below _ T932 (mkF m 309 #[iv i0, iv i1, iv ch387, iv ch388, iv ch389, iv ch390, iv (1 : Int32), iv (1 : Int32), rv a757, rv a762, rv a771, rv a817, rv a842, rv a893, rv a757] [(.int (3 : Int32)), (.int (1 : Int32))])
      refine go (fun _ => XS.icmpYes X932.here hx rfl (pc0 := 309) (pc' := 325) rfl (hb hby at_309) rfl (XT.ii_lt_t ((by decide) : (1 : Int32) < (3 : Int32))) (by decide) (by decide)) ?_
      show Ends p e below _ T932 (mkF m 325 #[iv i0, iv i1, iv ch387, iv ch388, iv ch389, iv ch390, iv (1 : Int32), iv (1 : Int32), rv a757, rv a762, rv a771, rv a817, rv a842, rv a893, rv a757] [])
      refine go (fun _ => XS.aload X932.here hx rfl (hb hby at_325) rfl rfl) ?_
      show Ends p e below _ T932 (mkF m 327 #[iv i0, iv i1, iv ch387, iv ch388, iv ch389, iv ch390, iv (1 : Int32), iv (1 : Int32), rv a757, rv a762, rv a771, rv a817, rv a842, rv a893, rv a757] [(.ref a842)])
      refine cVirt X932 hx hZ hown (by rw [hml]; rfl) e932 (hwi hw 164 rfl) (hwi hw 165 rfl) (hwi hw 167 rfl) (hwi hw 166 rfl) (hwi hw 46 rfl) (hwi hw 168 rfl) (notFace_of_selects (args := #[]) (mvT hZ (hwi hw 167 rfl))) a842 F922 [] [] rfl (rm_size hw a842 (1 : Int32) _ F924) (hb hby at_327) rfl (lenOf pd_33 rfl) (by decide) (by decide) (Nat.le_of_ble_eq_true rfl) (by decide) (by decide) ?_
      rintro v933 T933 h933 L933 X933 e933 ⟨rfl, N933, rfl⟩
      have N933a := Fr.app N932a N933
      show Ends p e below _ T933 (mkF m 330 #[iv i0, iv i1, iv ch387, iv ch388, iv ch389, iv ch390, iv (1 : Int32), iv (1 : Int32), rv a757, rv a762, rv a771, rv a817, rv a842, rv a893, rv a757] [(.int (1 : Int32))])
      refine go (fun _ => XS.iload X933.here hx rfl (hb hby at_330) rfl) ?_
      show Ends p e below _ T933 (mkF m 332 #[iv i0, iv i1, iv ch387, iv ch388, iv ch389, iv ch390, iv (1 : Int32), iv (1 : Int32), rv a757, rv a762, rv a771, rv a817, rv a842, rv a893, rv a757] [(.int (1 : Int32)), (.int (1 : Int32))])
      refine go (fun _ => XS.icmpNo X933.here hx rfl (hb hby at_332) rfl (XT.ii_ne_f ((by decide) : (1 : Int32) = (1 : Int32)))) ?_
      show Ends p e below _ T933 (mkF m 335 #[iv i0, iv i1, iv ch387, iv ch388, iv ch389, iv ch390, iv (1 : Int32), iv (1 : Int32), rv a757, rv a762, rv a771, rv a817, rv a842, rv a893, rv a757] [])
      refine go (fun _ => XT.iconstV X933.here hx rfl (1 : Int32) (hb hby at_335) (by decide)) ?_
      refine go (fun _ => XS.goto X933.here hx rfl (pc0 := 336) (pc' := 340) rfl (hb hby at_336) (by decide) (by decide)) ?_
      show Ends p e below _ T933 (mkF m 340 #[iv i0, iv i1, iv ch387, iv ch388, iv ch389, iv ch390, iv (1 : Int32), iv (1 : Int32), rv a757, rv a762, rv a771, rv a817, rv a842, rv a893, rv a757] [(.int (1 : Int32))])
      exact endN X933 hx hret (by simp) (hb hby at_340) (lvW X933 hlk hZ (own_EW hw) hs0 hS hk H919 e933 (fun h => by rw [hret] at h; cases h) ⟨rfl, N933a⟩ (by decide) (by decide))
    · rw [q892]
      show Ends p e below _ T869 (mkF m 193 #[iv i0, iv i1, iv ch387, iv ch388, iv ch389, iv ch390, iv (1 : Int32), iv (2 : Int32), rv a757, rv a762, rv a771, rv a817, rv a842, .unset, .unset] [])
      refine go (fun _ => XS.iload X869.here hx rfl (hb hby at_193) rfl) ?_
      refine go (fun _ => XT.iconstV X869.here hx rfl (1 : Int32) (hb hby at_195) (by decide)) ?_
      show Ends p e below _ T869 (mkF m 196 #[iv i0, iv i1, iv ch387, iv ch388, iv ch389, iv ch390, iv (1 : Int32), iv (2 : Int32), rv a757, rv a762, rv a771, rv a817, rv a842, .unset, .unset] [(.int (1 : Int32)), (.int (2 : Int32))])
      refine go (fun _ => XS.icmpNo X869.here hx rfl (hb hby at_196) rfl (XT.ii_le_f ((by decide) : (1 : Int32) < (2 : Int32)))) ?_
      show Ends p e below _ T869 (mkF m 199 #[iv i0, iv i1, iv ch387, iv ch388, iv ch389, iv ch390, iv (1 : Int32), iv (2 : Int32), rv a757, rv a762, rv a771, rv a817, rv a842, .unset, .unset] [])
      refine go (fun _ => XS.aload X869.here hx rfl (hb hby at_199) rfl rfl) ?_
      refine go (fun _ => XS.aload X869.here hx rfl (hb hby at_201) rfl rfl) ?_
      show Ends p e below _ T869 (mkF m 203 #[iv i0, iv i1, iv ch387, iv ch388, iv ch389, iv ch390, iv (1 : Int32), iv (2 : Int32), rv a757, rv a762, rv a771, rv a817, rv a842, .unset, .unset] [(.ref a762), (.ref a842)])
      have F934 := (Exa.keep F867 K869)
      have F935 := (Exa.keep F871 K869)
      refine cVirt X869 hx hZ hown (by rw [hml]; rfl) e869 (hwi hw 68 rfl) (hwi hw 69 rfl) (hwi hw 71 rfl) (hwi hw 70 rfl) (hwi hw 46 rfl) (hwi hw 72 rfl) (notFace_of_selects (args := #[]) (mvT hZ (hwi hw 71 rfl))) a842 F934 [(.ref a762)] [] rfl (rm_add_1 hw a842 a762 b869 k869 (1 : Int32) a757 _ O891 f842 F934 F1869 F2869 F3869 f888 n879 O869 V869 F935 (Ne.symm n851) (Ne.symm n872)) (hb hby at_203) rfl (lenOf pd_30 rfl) (by decide) (by decide) (Nat.le_of_ble_eq_true rfl) (by decide) (by decide) ?_
      rintro v936 T936 h936 L936 X936 e936 ⟨rfl, N936, K936, F1936, F2936, F3936, V936⟩
      have N936a := Fr.app N869a N936
      have F938 := (Safe.keep K869 sf889 H865.1 F890)
      have sf937 : ∀ x ∈ [a842, b869], Safe Z own_EL s.vm h869 x := (sfS F938 (sfS (Safe.arv hZ.alike V869 (by decide)) sf0))
      have C937 : CHr Z own_EL s.vm h869 s.vm h936 := CHr.keep K936 sf937 H889.1
      have hk := Nat.le_trans hk C937.2.1
      have H937 := H889.trans C937
      have O939 : Ext Z.heap h936 := xk O891 K936 (allS f842 (allS f888 all0))
      show Ends p e below _ T936 (mkF m 206 #[iv i0, iv i1, iv ch387, iv ch388, iv ch389, iv ch390, iv (1 : Int32), iv (2 : Int32), rv a757, rv a762, rv a771, rv a817, rv a842, .unset, .unset] [(.int (1 : Int32))])
      refine go (fun _ => XT.pop X936.here hx rfl (hb hby at_206) rfl rfl) ?_
      refine go (fun _ => XS.iload X936.here hx rfl (hb hby at_207) rfl) ?_
      refine go (fun _ => XT.iconstV X936.here hx rfl (2 : Int32) (hb hby at_209) (by decide)) ?_
      show Ends p e below _ T936 (mkF m 210 #[iv i0, iv i1, iv ch387, iv ch388, iv ch389, iv ch390, iv (1 : Int32), iv (2 : Int32), rv a757, rv a762, rv a771, rv a817, rv a842, .unset, .unset] [(.int (2 : Int32)), (.int (2 : Int32))])
      refine go (fun _ => XS.icmpYes X936.here hx rfl (pc0 := 210) (pc' := 221) rfl (hb hby at_210) rfl (XT.ii_le_t ((by decide) : ¬ ((2 : Int32) < (2 : Int32)))) (by decide) (by decide)) ?_
      show Ends p e below _ T936 (mkF m 221 #[iv i0, iv i1, iv ch387, iv ch388, iv ch389, iv ch390, iv (1 : Int32), iv (2 : Int32), rv a757, rv a762, rv a771, rv a817, rv a842, .unset, .unset] [])
      refine go (fun _ => XS.iload X936.here hx rfl (hb hby at_221) rfl) ?_
      refine go (fun _ => XT.iconstV X936.here hx rfl (3 : Int32) (hb hby at_223) (by decide)) ?_
      show Ends p e below _ T936 (mkF m 224 #[iv i0, iv i1, iv ch387, iv ch388, iv ch389, iv ch390, iv (1 : Int32), iv (2 : Int32), rv a757, rv a762, rv a771, rv a817, rv a842, .unset, .unset] [(.int (3 : Int32)), (.int (2 : Int32))])
      refine go (fun _ => XS.icmpYes X936.here hx rfl (pc0 := 224) (pc' := 235) rfl (hb hby at_224) rfl (XT.ii_le_t ((by decide) : ¬ ((3 : Int32) < (2 : Int32)))) (by decide) (by decide)) ?_
      show Ends p e below _ T936 (mkF m 235 #[iv i0, iv i1, iv ch387, iv ch388, iv ch389, iv ch390, iv (1 : Int32), iv (2 : Int32), rv a757, rv a762, rv a771, rv a817, rv a842, .unset, .unset] [])
      obtain ⟨T940, h940, X940, e940, E940, A940, D940, U940, s940⟩ := newO X936 hx hZ hown (hwi hw 99 rfl) (hwi hw 100 rfl) (hwi hw 101 rfl) e936 (g := (mkF m 235 #[iv i0, iv i1, iv ch387, iv ch388, iv ch389, iv ch390, iv (1 : Int32), iv (2 : Int32), rv a757, rv a762, rv a771, rv a817, rv a842, .unset, .unset] [])) rfl (hb hby at_235) (by decide) (by decide)
      have F941 := (Exa.keep (Exa.keep F868 K869) K936)
      have F942 := (Exa.keep F935 K936)
      have F943 := (Exa.keep (Exa.keep F873 K869) K936)
      have F944 := (Arv.keep (Arv.keep F875 K869 (ninS n853 nin0)) K936 (ninS n853 (ninS n876 nin0)))
      have F945 := (Exa.keep (Exa.keep F877 K869) K936)
      have F946 := (Exa.keep F934 K936)
      have F947 := (Arv.keep (Arv.keep F880 K869 (ninS n855 nin0)) K936 (ninS n855 (ninS n881 nin0)))
      have F948 := (Arv.keep (Arv.keep F882 K869 (ninS n856 nin0)) K936 (ninS n856 (ninS n883 nin0)))
      have F949 := (Arv.keep (Arv.keep F884 K869 (ninS n857 nin0)) K936 (ninS n857 (ninS n885 nin0)))
      have F950 := (Arv.keep (Arv.keep F886 K869 (ninS n858 nin0)) K936 (ninS n858 (ninS n887 nin0)))
      obtain ⟨a940, g940⟩ : ∃ z : Addr, z = h936.size := ⟨_, rfl⟩
      have n951 : a757 ≠ a940 := fun q => absurd (F941.lt) (by rw [q, g940]; exact Nat.lt_irrefl _)
      have n952 : a762 ≠ a940 := fun q => absurd (F942.lt) (by rw [q, g940]; exact Nat.lt_irrefl _)
      have n953 : a771 ≠ a940 := fun q => absurd (F943.lt) (by rw [q, g940]; exact Nat.lt_irrefl _)
      have n954 : a780 ≠ a940 := fun q => absurd (F944.lt) (by rw [q, g940]; exact Nat.lt_irrefl _)
      have n955 : a817 ≠ a940 := fun q => absurd (F945.lt) (by rw [q, g940]; exact Nat.lt_irrefl _)
      have n956 : a842 ≠ a940 := fun q => absurd (F946.lt) (by rw [q, g940]; exact Nat.lt_irrefl _)
      have n957 : b757 ≠ a940 := fun q => absurd (F947.lt) (by rw [q, g940]; exact Nat.lt_irrefl _)
      have n958 : b762 ≠ a940 := fun q => absurd (F948.lt) (by rw [q, g940]; exact Nat.lt_irrefl _)
      have n959 : b802 ≠ a940 := fun q => absurd (F949.lt) (by rw [q, g940]; exact Nat.lt_irrefl _)
      have n960 : b817 ≠ a940 := fun q => absurd (F950.lt) (by rw [q, g940]; exact Nat.lt_irrefl _)
      have n961 : b869 ≠ a940 := fun q => absurd (V936.lt) (by rw [q, g940]; exact Nat.lt_irrefl _)
      have f940 : Z.heap.size ≤ a940 := by rw [g940]; exact (O939).1
      rw [← g940] at A940 D940 U940 s940
      have C962 : CHr Z own_EL s.vm h936 s.vm h940 := CHr.ext E940 H937.1
      have hk := Nat.le_trans hk C962.2.1
      have H962 := H937.trans C962
      have O963 : Ext Z.heap h940 := xx O939 E940
      have SF940 : Safe Z own_EL s.vm h940 a940 := Safe.ext E940 H937.1 (Safe.new (by rw [g940]; exact Nat.le_refl _))
      refine go s940 ?_
      show Ends p e below _ T940 (mkF m 238 #[iv i0, iv i1, iv ch387, iv ch388, iv ch389, iv ch390, iv (1 : Int32), iv (2 : Int32), rv a757, rv a762, rv a771, rv a817, rv a842, .unset, .unset] [(.ref a940)])
      refine go (fun _ => XS.dup X940.here hx rfl (hb hby at_238) rfl rfl) ?_
      refine go (fun _ => XS.aload X940.here hx rfl (hb hby at_239) rfl rfl) ?_
      show Ends p e below _ T940 (mkF m 241 #[iv i0, iv i1, iv ch387, iv ch388, iv ch389, iv ch390, iv (1 : Int32), iv (2 : Int32), rv a757, rv a762, rv a771, rv a817, rv a842, .unset, .unset] [(.ref a842), (.ref a940), (.ref a940)])
      have F964 := (D940 (Or.inr (hwi hw 107 rfl)) (ty := (.object "java/util/List")) (by decide))
      refine cInit X940 hx hZ hown (by rw [hml]; rfl) e940 (hwi hw 102 rfl) (hwi hw 103 rfl) (hwi hw 101 rfl) (hwi hw 104 rfl) a940 [(.ref a842)] [(.ref a940)] rfl (rm_pg hw a940 a842 _ O963 f940 A940 F964  ) (hb hby at_241) rfl (lenOf pd_31 rfl) rfl (by decide) (by decide) (Nat.le_of_ble_eq_true rfl) (by decide) (by decide) ?_
      rintro v965 T965 h965 L965 X965 e965 ⟨rfl, N965, K965, F965_0⟩
      have N965a := Fr.app N936a N965
      have sf966 : ∀ x ∈ [a940], Safe Z own_EL s.vm h940 x := (sfS SF940 sf0)
      have C966 : CHr Z own_EL s.vm h940 s.vm h965 := CHr.keep K965 sf966 H962.1
      have hk := Nat.le_trans hk C966.2.1
      have H966 := H962.trans C966
      have O967 : Ext Z.heap h965 := xk O963 K965 (allS f940 all0)
      show Ends p e below _ T965 (mkF m 244 #[iv i0, iv i1, iv ch387, iv ch388, iv ch389, iv ch390, iv (1 : Int32), iv (2 : Int32), rv a757, rv a762, rv a771, rv a817, rv a842, .unset, .unset] [(.ref a940)])
      refine go (fun _ => XS.astore X965.here hx rfl (hb hby at_244) rfl rfl (l' := #[iv i0, iv i1, iv ch387, iv ch388, iv ch389, iv ch390, iv (1 : Int32), iv (2 : Int32), rv a757, rv a762, rv a771, rv a817, rv a842, rv a940, .unset]) rfl) ?_
      refine go (fun _ => XS.aload X965.here hx rfl (hb hby at_246) rfl rfl) ?_
      show Ends p e below _ T965 (mkF m 248 #[iv i0, iv i1, iv ch387, iv ch388, iv ch389, iv ch390, iv (1 : Int32), iv (2 : Int32), rv a757, rv a762, rv a771, rv a817, rv a842, rv a940, .unset] [(.ref a940)])
      have F968 := (Exa.keep (Exa.ext E940 F941) K965)
      have F969 := (Exa.keep (Exa.ext E940 F946) K965)
      have F970 := (Fld.keep (Fld.ext E940 F2936) K965 (ninS n956 nin0))
      have F971 := (Fld.keep (Fld.ext E940 F3936) K965 (ninS n956 nin0))
      have F972 := (Arv.keep (Arv.ext V936 E940) K965 (ninS n961 nin0))
      have F974 := (Exa.keep A940 K965)
      refine cVirt X965 hx hZ hown (by rw [hml]; rfl) e965 (hwi hw 108 rfl) (hwi hw 109 rfl) (hwi hw 111 rfl) (hwi hw 110 rfl) (hwi hw 101 rfl) (hwi hw 112 rfl) (notFace_of_selects (args := #[]) (mvT hZ (hwi hw 111 rfl))) a940 F974 [] [] rfl (rm_name hw a940 a842 b869 a757 k869 (2 : Int32) _ _ F965_0 F968 F969 F970 F971 F972 (by decide)) (hb hby at_248) rfl (lenOf pd_32 rfl) (by decide) (by decide) (Nat.le_of_ble_eq_true rfl) (by decide) (by decide) ?_
      rintro v973 T973 h973 L973 X973 e973 ⟨rfl, N973, rfl⟩
      have N973a := Fr.app N965a N973
      show Ends p e below _ T973 (mkF m 251 #[iv i0, iv i1, iv ch387, iv ch388, iv ch389, iv ch390, iv (1 : Int32), iv (2 : Int32), rv a757, rv a762, rv a771, rv a817, rv a842, rv a940, .unset] [(.ref a757)])
      refine go (fun _ => XS.astore X973.here hx rfl (hb hby at_251) rfl rfl (l' := #[iv i0, iv i1, iv ch387, iv ch388, iv ch389, iv ch390, iv (1 : Int32), iv (2 : Int32), rv a757, rv a762, rv a771, rv a817, rv a842, rv a940, rv a757]) rfl) ?_
      refine go (fun _ => XS.aload X973.here hx rfl (hb hby at_253) rfl rfl) ?_
      show Ends p e below _ T973 (mkF m 255 #[iv i0, iv i1, iv ch387, iv ch388, iv ch389, iv ch390, iv (1 : Int32), iv (2 : Int32), rv a757, rv a762, rv a771, rv a817, rv a842, rv a940, rv a757] [(.ref a757)])
      refine go (fun _ => XS.ifnullNo X973.here hx rfl (hb hby at_255) rfl) ?_
      show Ends p e below _ T973 (mkF m 258 #[iv i0, iv i1, iv ch387, iv ch388, iv ch389, iv ch390, iv (1 : Int32), iv (2 : Int32), rv a757, rv a762, rv a771, rv a817, rv a842, rv a940, rv a757] [])
      refine go (fun _ => XS.aload X973.here hx rfl (hb hby at_258) rfl rfl) ?_
      show Ends p e below _ T973 (mkF m 260 #[iv i0, iv i1, iv ch387, iv ch388, iv ch389, iv ch390, iv (1 : Int32), iv (2 : Int32), rv a757, rv a762, rv a771, rv a817, rv a842, rv a940, rv a757] [(.ref a757)])
      have F975 := (Fld.keep (Fld.ext E940 (Fld.keep (Fld.keep (Fld.keep (Fld.ext E842 (Fld.keep (Fld.keep (Fld.other W795 (Fld.other W792 (Fld.ext E780 (Fld.ext E771 (Fld.keep Fc757 K762 nin0))) (Or.inl n785)) (Or.inl n785)) K802 (ninS n774 nin0)) K817 nin0)) K864 (ninS n850 nin0)) K869 (ninS n850 nin0)) K936 (ninS n850 (ninS n870 nin0)))) K965 (ninS n951 nin0))
      have F976 := (Fld.keep (Fld.ext E940 (Fld.keep (Fld.keep (Fld.keep (Fld.ext E842 (Fld.keep (Fld.keep (Fld.other W795 (Fld.other W792 (Fld.ext E780 (Fld.ext E771 (Fld.keep Fv757 K762 nin0))) (Or.inl n785)) (Or.inl n785)) K802 (ninS n774 nin0)) K817 nin0)) K864 (ninS n850 nin0)) K869 (ninS n850 nin0)) K936 (ninS n850 (ninS n870 nin0)))) K965 (ninS n951 nin0))
      have F977 := (Arv.keep (Arv.ext F947 E940) K965 (ninS n957 nin0))
      refine cVirt X973 hx hZ hown (by rw [hml]; rfl) e973 (hwi hw 136 rfl) (hwi hw 137 rfl) (hwi hw 139 rfl) (hwi hw 138 rfl) (hwi hw 2 rfl) (hwi hw 140 rfl) (notFace_of_selects (args := #[]) (mvT hZ (hwi hw 139 rfl))) a757 F968 [] [] rfl (rm_length hw a757 b757 k757 (1 : Int32) _ _ O967 cz SCS hcz F975 F968 F976 F977) (hb hby at_260) rfl (lenOf pd_33 rfl) (by decide) (by decide) (Nat.le_of_ble_eq_true rfl) (by decide) (by decide) ?_
      rintro v978 T978 h978 L978 X978 e978 ⟨rfl, N978, rfl⟩
      have N978a := Fr.app N973a N978
      show Ends p e below _ T978 (mkF m 263 #[iv i0, iv i1, iv ch387, iv ch388, iv ch389, iv ch390, iv (1 : Int32), iv (2 : Int32), rv a757, rv a762, rv a771, rv a817, rv a842, rv a940, rv a757] [(.int (1 : Int32))])
      refine go (fun _ => XS.iload X978.here hx rfl (hb hby at_263) rfl) ?_
      show Ends p e below _ T978 (mkF m 265 #[iv i0, iv i1, iv ch387, iv ch388, iv ch389, iv ch390, iv (1 : Int32), iv (2 : Int32), rv a757, rv a762, rv a771, rv a817, rv a842, rv a940, rv a757] [(.int (1 : Int32)), (.int (1 : Int32))])
      refine go (fun _ => XS.icmpYes X978.here hx rfl (pc0 := 265) (pc' := 270) rfl (hb hby at_265) rfl (XT.ii_eq_t ((by decide) : (1 : Int32) = (1 : Int32))) (by decide) (by decide)) ?_
      show Ends p e below _ T978 (mkF m 270 #[iv i0, iv i1, iv ch387, iv ch388, iv ch389, iv ch390, iv (1 : Int32), iv (2 : Int32), rv a757, rv a762, rv a771, rv a817, rv a842, rv a940, rv a757] [])
      refine go (fun _ => XS.iload X978.here hx rfl (hb hby at_270) rfl) ?_
      refine go (fun _ => XT.iconstV X978.here hx rfl (1 : Int32) (hb hby at_272) (by decide)) ?_
      show Ends p e below _ T978 (mkF m 273 #[iv i0, iv i1, iv ch387, iv ch388, iv ch389, iv ch390, iv (1 : Int32), iv (2 : Int32), rv a757, rv a762, rv a771, rv a817, rv a842, rv a940, rv a757] [(.int (1 : Int32)), (.int (1 : Int32))])
      refine go (fun _ => XS.icmpNo X978.here hx rfl (hb hby at_273) rfl (XT.ii_lt_f ((by decide) : ¬ ((1 : Int32) < (1 : Int32))))) ?_
      show Ends p e below _ T978 (mkF m 276 #[iv i0, iv i1, iv ch387, iv ch388, iv ch389, iv ch390, iv (1 : Int32), iv (2 : Int32), rv a757, rv a762, rv a771, rv a817, rv a842, rv a940, rv a757] [])
      refine go (fun _ => XS.aload X978.here hx rfl (hb hby at_276) rfl rfl) ?_
      refine go (fun _ => XT.iconstV X978.here hx rfl (0 : Int32) (hb hby at_278) (by decide)) ?_
      show Ends p e below _ T978 (mkF m 279 #[iv i0, iv i1, iv ch387, iv ch388, iv ch389, iv ch390, iv (1 : Int32), iv (2 : Int32), rv a757, rv a762, rv a771, rv a817, rv a842, rv a940, rv a757] [(.int (0 : Int32)), (.ref a757)])
      refine cVirt X978 hx hZ hown (by rw [hml]; rfl) e978 (hwi hw 146 rfl) (hwi hw 147 rfl) (hwi hw 149 rfl) (hwi hw 148 rfl) (hwi hw 2 rfl) (hwi hw 150 rfl) (notFace_of_selects (args := #[]) (mvT hZ (hwi hw 149 rfl))) a757 F968 [(.int (0 : Int32))] [] rfl (rm_sc_0_1 hw a757 b757 k757 ch387 wS _ O967 cz SCS hcz hsf SS F975 F968 F976 F977 lc387 gc387) (hb hby at_279) rfl (lenOf pd_34 rfl) (by decide) (by decide) (Nat.le_of_ble_eq_true rfl) (by decide) (by decide) ?_
      rintro v979 T979 h979 L979 X979 e979 ⟨rfl, N979, rfl⟩
      have N979a := Fr.app N978a N979
      show Ends p e below _ T979 (mkF m 282 #[iv i0, iv i1, iv ch387, iv ch388, iv ch389, iv ch390, iv (1 : Int32), iv (2 : Int32), rv a757, rv a762, rv a771, rv a817, rv a842, rv a940, rv a757] [(.int ch387)])
      refine go (fun _ => XS.iloadN X979.here hx rfl (hb hby at_282) rfl) ?_
      show Ends p e below _ T979 (mkF m 283 #[iv i0, iv i1, iv ch387, iv ch388, iv ch389, iv ch390, iv (1 : Int32), iv (2 : Int32), rv a757, rv a762, rv a771, rv a817, rv a842, rv a940, rv a757] [(.int ch387), (.int ch387)])
      refine go (fun _ => XS.icmpYes X979.here hx rfl (pc0 := 283) (pc' := 288) rfl (hb hby at_283) rfl (XT.ii_eq_t (rfl : ch387 = ch387)) (by decide) (by decide)) ?_
      show Ends p e below _ T979 (mkF m 288 #[iv i0, iv i1, iv ch387, iv ch388, iv ch389, iv ch390, iv (1 : Int32), iv (2 : Int32), rv a757, rv a762, rv a771, rv a817, rv a842, rv a940, rv a757] [])
      refine go (fun _ => XS.iload X979.here hx rfl (hb hby at_288) rfl) ?_
      refine go (fun _ => XT.iconstV X979.here hx rfl (2 : Int32) (hb hby at_290) (by decide)) ?_
      show Ends p e below _ T979 (mkF m 291 #[iv i0, iv i1, iv ch387, iv ch388, iv ch389, iv ch390, iv (1 : Int32), iv (2 : Int32), rv a757, rv a762, rv a771, rv a817, rv a842, rv a940, rv a757] [(.int (2 : Int32)), (.int (1 : Int32))])
      refine go (fun _ => XS.icmpYes X979.here hx rfl (pc0 := 291) (pc' := 306) rfl (hb hby at_291) rfl (XT.ii_lt_t ((by decide) : (1 : Int32) < (2 : Int32))) (by decide) (by decide)) ?_
      show Ends p e below _ T979 (mkF m 306 #[iv i0, iv i1, iv ch387, iv ch388, iv ch389, iv ch390, iv (1 : Int32), iv (2 : Int32), rv a757, rv a762, rv a771, rv a817, rv a842, rv a940, rv a757] [])
      refine go (fun _ => XS.iload X979.here hx rfl (hb hby at_306) rfl) ?_
      refine go (fun _ => XT.iconstV X979.here hx rfl (3 : Int32) (hb hby at_308) (by decide)) ?_
      show Ends p e below _ T979 (mkF m 309 #[iv i0, iv i1, iv ch387, iv ch388, iv ch389, iv ch390, iv (1 : Int32), iv (2 : Int32), rv a757, rv a762, rv a771, rv a817, rv a842, rv a940, rv a757] [(.int (3 : Int32)), (.int (1 : Int32))])
      refine go (fun _ => XS.icmpYes X979.here hx rfl (pc0 := 309) (pc' := 325) rfl (hb hby at_309) rfl (XT.ii_lt_t ((by decide) : (1 : Int32) < (3 : Int32))) (by decide) (by decide)) ?_
      show Ends p e below _ T979 (mkF m 325 #[iv i0, iv i1, iv ch387, iv ch388, iv ch389, iv ch390, iv (1 : Int32), iv (2 : Int32), rv a757, rv a762, rv a771, rv a817, rv a842, rv a940, rv a757] [])
      refine go (fun _ => XS.aload X979.here hx rfl (hb hby at_325) rfl rfl) ?_
      show Ends p e below _ T979 (mkF m 327 #[iv i0, iv i1, iv ch387, iv ch388, iv ch389, iv ch390, iv (1 : Int32), iv (2 : Int32), rv a757, rv a762, rv a771, rv a817, rv a842, rv a940, rv a757] [(.ref a842)])
      refine cVirt X979 hx hZ hown (by rw [hml]; rfl) e979 (hwi hw 164 rfl) (hwi hw 165 rfl) (hwi hw 167 rfl) (hwi hw 166 rfl) (hwi hw 46 rfl) (hwi hw 168 rfl) (notFace_of_selects (args := #[]) (mvT hZ (hwi hw 167 rfl))) a842 F969 [] [] rfl (rm_size hw a842 (2 : Int32) _ F971) (hb hby at_327) rfl (lenOf pd_33 rfl) (by decide) (by decide) (Nat.le_of_ble_eq_true rfl) (by decide) (by decide) ?_
      rintro v980 T980 h980 L980 X980 e980 ⟨rfl, N980, rfl⟩
      have N980a := Fr.app N979a N980
      show Ends p e below _ T980 (mkF m 330 #[iv i0, iv i1, iv ch387, iv ch388, iv ch389, iv ch390, iv (1 : Int32), iv (2 : Int32), rv a757, rv a762, rv a771, rv a817, rv a842, rv a940, rv a757] [(.int (2 : Int32))])
      refine go (fun _ => XS.iload X980.here hx rfl (hb hby at_330) rfl) ?_
      show Ends p e below _ T980 (mkF m 332 #[iv i0, iv i1, iv ch387, iv ch388, iv ch389, iv ch390, iv (1 : Int32), iv (2 : Int32), rv a757, rv a762, rv a771, rv a817, rv a842, rv a940, rv a757] [(.int (2 : Int32)), (.int (2 : Int32))])
      refine go (fun _ => XS.icmpNo X980.here hx rfl (hb hby at_332) rfl (XT.ii_ne_f ((by decide) : (2 : Int32) = (2 : Int32)))) ?_
      show Ends p e below _ T980 (mkF m 335 #[iv i0, iv i1, iv ch387, iv ch388, iv ch389, iv ch390, iv (1 : Int32), iv (2 : Int32), rv a757, rv a762, rv a771, rv a817, rv a842, rv a940, rv a757] [])
      refine go (fun _ => XT.iconstV X980.here hx rfl (1 : Int32) (hb hby at_335) (by decide)) ?_
      refine go (fun _ => XS.goto X980.here hx rfl (pc0 := 336) (pc' := 340) rfl (hb hby at_336) (by decide) (by decide)) ?_
      show Ends p e below _ T980 (mkF m 340 #[iv i0, iv i1, iv ch387, iv ch388, iv ch389, iv ch390, iv (1 : Int32), iv (2 : Int32), rv a757, rv a762, rv a771, rv a817, rv a842, rv a940, rv a757] [(.int (1 : Int32))])
      exact endN X980 hx hret (by simp) (hb hby at_340) (lvW X980 hlk hZ (own_EW hw) hs0 hS hk H966 e980 (fun h => by rw [hret] at h; cases h) ⟨rfl, N980a⟩ (by decide) (by decide))
    · rw [q892]
      show Ends p e below _ T869 (mkF m 193 #[iv i0, iv i1, iv ch387, iv ch388, iv ch389, iv ch390, iv (1 : Int32), iv (3 : Int32), rv a757, rv a762, rv a771, rv a817, rv a842, .unset, .unset] [])
      refine go (fun _ => XS.iload X869.here hx rfl (hb hby at_193) rfl) ?_
      refine go (fun _ => XT.iconstV X869.here hx rfl (1 : Int32) (hb hby at_195) (by decide)) ?_
      show Ends p e below _ T869 (mkF m 196 #[iv i0, iv i1, iv ch387, iv ch388, iv ch389, iv ch390, iv (1 : Int32), iv (3 : Int32), rv a757, rv a762, rv a771, rv a817, rv a842, .unset, .unset] [(.int (1 : Int32)), (.int (3 : Int32))])
      refine go (fun _ => XS.icmpNo X869.here hx rfl (hb hby at_196) rfl (XT.ii_le_f ((by decide) : (1 : Int32) < (3 : Int32)))) ?_
      show Ends p e below _ T869 (mkF m 199 #[iv i0, iv i1, iv ch387, iv ch388, iv ch389, iv ch390, iv (1 : Int32), iv (3 : Int32), rv a757, rv a762, rv a771, rv a817, rv a842, .unset, .unset] [])
      refine go (fun _ => XS.aload X869.here hx rfl (hb hby at_199) rfl rfl) ?_
      refine go (fun _ => XS.aload X869.here hx rfl (hb hby at_201) rfl rfl) ?_
      show Ends p e below _ T869 (mkF m 203 #[iv i0, iv i1, iv ch387, iv ch388, iv ch389, iv ch390, iv (1 : Int32), iv (3 : Int32), rv a757, rv a762, rv a771, rv a817, rv a842, .unset, .unset] [(.ref a762), (.ref a842)])
      have F981 := (Exa.keep F867 K869)
      have F982 := (Exa.keep F871 K869)
      refine cVirt X869 hx hZ hown (by rw [hml]; rfl) e869 (hwi hw 68 rfl) (hwi hw 69 rfl) (hwi hw 71 rfl) (hwi hw 70 rfl) (hwi hw 46 rfl) (hwi hw 72 rfl) (notFace_of_selects (args := #[]) (mvT hZ (hwi hw 71 rfl))) a842 F981 [(.ref a762)] [] rfl (rm_add_1 hw a842 a762 b869 k869 (1 : Int32) a757 _ O891 f842 F981 F1869 F2869 F3869 f888 n879 O869 V869 F982 (Ne.symm n851) (Ne.symm n872)) (hb hby at_203) rfl (lenOf pd_30 rfl) (by decide) (by decide) (Nat.le_of_ble_eq_true rfl) (by decide) (by decide) ?_
      rintro v983 T983 h983 L983 X983 e983 ⟨rfl, N983, K983, F1983, F2983, F3983, V983⟩
      have N983a := Fr.app N869a N983
      have F985 := (Safe.keep K869 sf889 H865.1 F890)
      have sf984 : ∀ x ∈ [a842, b869], Safe Z own_EL s.vm h869 x := (sfS F985 (sfS (Safe.arv hZ.alike V869 (by decide)) sf0))
      have C984 : CHr Z own_EL s.vm h869 s.vm h983 := CHr.keep K983 sf984 H889.1
      have hk := Nat.le_trans hk C984.2.1
      have H984 := H889.trans C984
      have O986 : Ext Z.heap h983 := xk O891 K983 (allS f842 (allS f888 all0))
      show Ends p e below _ T983 (mkF m 206 #[iv i0, iv i1, iv ch387, iv ch388, iv ch389, iv ch390, iv (1 : Int32), iv (3 : Int32), rv a757, rv a762, rv a771, rv a817, rv a842, .unset, .unset] [(.int (1 : Int32))])
      refine go (fun _ => XT.pop X983.here hx rfl (hb hby at_206) rfl rfl) ?_
      refine go (fun _ => XS.iload X983.here hx rfl (hb hby at_207) rfl) ?_
      refine go (fun _ => XT.iconstV X983.here hx rfl (2 : Int32) (hb hby at_209) (by decide)) ?_
      show Ends p e below _ T983 (mkF m 210 #[iv i0, iv i1, iv ch387, iv ch388, iv ch389, iv ch390, iv (1 : Int32), iv (3 : Int32), rv a757, rv a762, rv a771, rv a817, rv a842, .unset, .unset] [(.int (2 : Int32)), (.int (3 : Int32))])
      refine go (fun _ => XS.icmpNo X983.here hx rfl (hb hby at_210) rfl (XT.ii_le_f ((by decide) : (2 : Int32) < (3 : Int32)))) ?_
      show Ends p e below _ T983 (mkF m 213 #[iv i0, iv i1, iv ch387, iv ch388, iv ch389, iv ch390, iv (1 : Int32), iv (3 : Int32), rv a757, rv a762, rv a771, rv a817, rv a842, .unset, .unset] [])
      refine go (fun _ => XS.aload X983.here hx rfl (hb hby at_213) rfl rfl) ?_
      refine go (fun _ => XS.aload X983.here hx rfl (hb hby at_215) rfl rfl) ?_
      show Ends p e below _ T983 (mkF m 217 #[iv i0, iv i1, iv ch387, iv ch388, iv ch389, iv ch390, iv (1 : Int32), iv (3 : Int32), rv a757, rv a762, rv a771, rv a817, rv a842, .unset, .unset] [(.ref a771), (.ref a842)])
      have F987 := (Exa.keep F981 K983)
      have F988 := (Exa.keep (Exa.keep F873 K869) K983)
      refine cVirt X983 hx hZ hown (by rw [hml]; rfl) e983 (hwi hw 68 rfl) (hwi hw 69 rfl) (hwi hw 71 rfl) (hwi hw 70 rfl) (hwi hw 46 rfl) (hwi hw 72 rfl) (notFace_of_selects (args := #[]) (mvT hZ (hwi hw 71 rfl))) a842 F987 [(.ref a771)] [] rfl (rm_add_2 hw a842 a771 b869 k869 (2 : Int32) a757 a762 _ O986 f842 F987 F1983 F2983 F3983 f888 n879 O869 V983 F988 (Ne.symm n852) (Ne.symm n874)) (hb hby at_217) rfl (lenOf pd_30 rfl) (by decide) (by decide) (Nat.le_of_ble_eq_true rfl) (by decide) (by decide) ?_
      rintro v989 T989 h989 L989 X989 e989 ⟨rfl, N989, K989, F1989, F2989, F3989, V989⟩
      have N989a := Fr.app N983a N989
      have F991 := (Safe.keep K983 sf984 H889.1 F985)
      have sf990 : ∀ x ∈ [a842, b869], Safe Z own_EL s.vm h983 x := (sfS F991 (sfS (Safe.arv hZ.alike V983 (by decide)) sf0))
      have C990 : CHr Z own_EL s.vm h983 s.vm h989 := CHr.keep K989 sf990 H984.1
      have hk := Nat.le_trans hk C990.2.1
      have H990 := H984.trans C990
      have O992 : Ext Z.heap h989 := xk O986 K989 (allS f842 (allS f888 all0))
      show Ends p e below _ T989 (mkF m 220 #[iv i0, iv i1, iv ch387, iv ch388, iv ch389, iv ch390, iv (1 : Int32), iv (3 : Int32), rv a757, rv a762, rv a771, rv a817, rv a842, .unset, .unset] [(.int (1 : Int32))])
      refine go (fun _ => XT.pop X989.here hx rfl (hb hby at_220) rfl rfl) ?_
      refine go (fun _ => XS.iload X989.here hx rfl (hb hby at_221) rfl) ?_
      refine go (fun _ => XT.iconstV X989.here hx rfl (3 : Int32) (hb hby at_223) (by decide)) ?_
      show Ends p e below _ T989 (mkF m 224 #[iv i0, iv i1, iv ch387, iv ch388, iv ch389, iv ch390, iv (1 : Int32), iv (3 : Int32), rv a757, rv a762, rv a771, rv a817, rv a842, .unset, .unset] [(.int (3 : Int32)), (.int (3 : Int32))])
      refine go (fun _ => XS.icmpYes X989.here hx rfl (pc0 := 224) (pc' := 235) rfl (hb hby at_224) rfl (XT.ii_le_t ((by decide) : ¬ ((3 : Int32) < (3 : Int32)))) (by decide) (by decide)) ?_
      show Ends p e below _ T989 (mkF m 235 #[iv i0, iv i1, iv ch387, iv ch388, iv ch389, iv ch390, iv (1 : Int32), iv (3 : Int32), rv a757, rv a762, rv a771, rv a817, rv a842, .unset, .unset] [])
      obtain ⟨T993, h993, X993, e993, E993, A993, D993, U993, s993⟩ := newO X989 hx hZ hown (hwi hw 99 rfl) (hwi hw 100 rfl) (hwi hw 101 rfl) e989 (g := (mkF m 235 #[iv i0, iv i1, iv ch387, iv ch388, iv ch389, iv ch390, iv (1 : Int32), iv (3 : Int32), rv a757, rv a762, rv a771, rv a817, rv a842, .unset, .unset] [])) rfl (hb hby at_235) (by decide) (by decide)
      have F994 := (Exa.keep (Exa.keep (Exa.keep F868 K869) K983) K989)
      have F995 := (Exa.keep (Exa.keep F982 K983) K989)
      have F996 := (Exa.keep F988 K989)
      have F997 := (Arv.keep (Arv.keep (Arv.keep F875 K869 (ninS n853 nin0)) K983 (ninS n853 (ninS n876 nin0))) K989 (ninS n853 (ninS n876 nin0)))
      have F998 := (Exa.keep (Exa.keep (Exa.keep F877 K869) K983) K989)
      have F999 := (Exa.keep F987 K989)
      have F1000 := (Arv.keep (Arv.keep (Arv.keep F880 K869 (ninS n855 nin0)) K983 (ninS n855 (ninS n881 nin0))) K989 (ninS n855 (ninS n881 nin0)))
      have F1001 := (Arv.keep (Arv.keep (Arv.keep F882 K869 (ninS n856 nin0)) K983 (ninS n856 (ninS n883 nin0))) K989 (ninS n856 (ninS n883 nin0)))
      have F1002 := (Arv.keep (Arv.keep (Arv.keep F884 K869 (ninS n857 nin0)) K983 (ninS n857 (ninS n885 nin0))) K989 (ninS n857 (ninS n885 nin0)))
      have F1003 := (Arv.keep (Arv.keep (Arv.keep F886 K869 (ninS n858 nin0)) K983 (ninS n858 (ninS n887 nin0))) K989 (ninS n858 (ninS n887 nin0)))
      obtain ⟨a993, g993⟩ : ∃ z : Addr, z = h989.size := ⟨_, rfl⟩
      have n1004 : a757 ≠ a993 := fun q => absurd (F994.lt) (by rw [q, g993]; exact Nat.lt_irrefl _)
      have n1005 : a762 ≠ a993 := fun q => absurd (F995.lt) (by rw [q, g993]; exact Nat.lt_irrefl _)
      have n1006 : a771 ≠ a993 := fun q => absurd (F996.lt) (by rw [q, g993]; exact Nat.lt_irrefl _)
      have n1007 : a780 ≠ a993 := fun q => absurd (F997.lt) (by rw [q, g993]; exact Nat.lt_irrefl _)
      have n1008 : a817 ≠ a993 := fun q => absurd (F998.lt) (by rw [q, g993]; exact Nat.lt_irrefl _)
      have n1009 : a842 ≠ a993 := fun q => absurd (F999.lt) (by rw [q, g993]; exact Nat.lt_irrefl _)
      have n1010 : b757 ≠ a993 := fun q => absurd (F1000.lt) (by rw [q, g993]; exact Nat.lt_irrefl _)
      have n1011 : b762 ≠ a993 := fun q => absurd (F1001.lt) (by rw [q, g993]; exact Nat.lt_irrefl _)
      have n1012 : b802 ≠ a993 := fun q => absurd (F1002.lt) (by rw [q, g993]; exact Nat.lt_irrefl _)
      have n1013 : b817 ≠ a993 := fun q => absurd (F1003.lt) (by rw [q, g993]; exact Nat.lt_irrefl _)
      have n1014 : b869 ≠ a993 := fun q => absurd (V989.lt) (by rw [q, g993]; exact Nat.lt_irrefl _)
      have f993 : Z.heap.size ≤ a993 := by rw [g993]; exact (O992).1
      rw [← g993] at A993 D993 U993 s993
      have C1015 : CHr Z own_EL s.vm h989 s.vm h993 := CHr.ext E993 H990.1
      have hk := Nat.le_trans hk C1015.2.1
      have H1015 := H990.trans C1015
      have O1016 : Ext Z.heap h993 := xx O992 E993
      have SF993 : Safe Z own_EL s.vm h993 a993 := Safe.ext E993 H990.1 (Safe.new (by rw [g993]; exact Nat.le_refl _))
      refine go s993 ?_
      show Ends p e below _ T993 (mkF m 238 #[iv i0, iv i1, iv ch387, iv ch388, iv ch389, iv ch390, iv (1 : Int32), iv (3 : Int32), rv a757, rv a762, rv a771, rv a817, rv a842, .unset, .unset] [(.ref a993)])
      refine go (fun _ => XS.dup X993.here hx rfl (hb hby at_238) rfl rfl) ?_
      refine go (fun _ => XS.aload X993.here hx rfl (hb hby at_239) rfl rfl) ?_
      show Ends p e below _ T993 (mkF m 241 #[iv i0, iv i1, iv ch387, iv ch388, iv ch389, iv ch390, iv (1 : Int32), iv (3 : Int32), rv a757, rv a762, rv a771, rv a817, rv a842, .unset, .unset] [(.ref a842), (.ref a993), (.ref a993)])
      have F1017 := (D993 (Or.inr (hwi hw 107 rfl)) (ty := (.object "java/util/List")) (by decide))
      refine cInit X993 hx hZ hown (by rw [hml]; rfl) e993 (hwi hw 102 rfl) (hwi hw 103 rfl) (hwi hw 101 rfl) (hwi hw 104 rfl) a993 [(.ref a842)] [(.ref a993)] rfl (rm_pg hw a993 a842 _ O1016 f993 A993 F1017  ) (hb hby at_241) rfl (lenOf pd_31 rfl) rfl (by decide) (by decide) (Nat.le_of_ble_eq_true rfl) (by decide) (by decide) ?_
      rintro v1018 T1018 h1018 L1018 X1018 e1018 ⟨rfl, N1018, K1018, F1018_0⟩
      have N1018a := Fr.app N989a N1018
      have sf1019 : ∀ x ∈ [a993], Safe Z own_EL s.vm h993 x := (sfS SF993 sf0)
      have C1019 : CHr Z own_EL s.vm h993 s.vm h1018 := CHr.keep K1018 sf1019 H1015.1
      have hk := Nat.le_trans hk C1019.2.1
      have H1019 := H1015.trans C1019
      have O1020 : Ext Z.heap h1018 := xk O1016 K1018 (allS f993 all0)
      show Ends p e below _ T1018 (mkF m 244 #[iv i0, iv i1, iv ch387, iv ch388, iv ch389, iv ch390, iv (1 : Int32), iv (3 : Int32), rv a757, rv a762, rv a771, rv a817, rv a842, .unset, .unset] [(.ref a993)])
      refine go (fun _ => XS.astore X1018.here hx rfl (hb hby at_244) rfl rfl (l' := #[iv i0, iv i1, iv ch387, iv ch388, iv ch389, iv ch390, iv (1 : Int32), iv (3 : Int32), rv a757, rv a762, rv a771, rv a817, rv a842, rv a993, .unset]) rfl) ?_
      refine go (fun _ => XS.aload X1018.here hx rfl (hb hby at_246) rfl rfl) ?_
      show Ends p e below _ T1018 (mkF m 248 #[iv i0, iv i1, iv ch387, iv ch388, iv ch389, iv ch390, iv (1 : Int32), iv (3 : Int32), rv a757, rv a762, rv a771, rv a817, rv a842, rv a993, .unset] [(.ref a993)])
      have F1021 := (Exa.keep (Exa.ext E993 F994) K1018)
      have F1022 := (Exa.keep (Exa.ext E993 F999) K1018)
      have F1023 := (Fld.keep (Fld.ext E993 F2989) K1018 (ninS n1009 nin0))
      have F1024 := (Fld.keep (Fld.ext E993 F3989) K1018 (ninS n1009 nin0))
      have F1025 := (Arv.keep (Arv.ext V989 E993) K1018 (ninS n1014 nin0))
      have F1027 := (Exa.keep A993 K1018)
      refine cVirt X1018 hx hZ hown (by rw [hml]; rfl) e1018 (hwi hw 108 rfl) (hwi hw 109 rfl) (hwi hw 111 rfl) (hwi hw 110 rfl) (hwi hw 101 rfl) (hwi hw 112 rfl) (notFace_of_selects (args := #[]) (mvT hZ (hwi hw 111 rfl))) a993 F1027 [] [] rfl (rm_name hw a993 a842 b869 a757 k869 (3 : Int32) _ _ F1018_0 F1021 F1022 F1023 F1024 F1025 (by decide)) (hb hby at_248) rfl (lenOf pd_32 rfl) (by decide) (by decide) (Nat.le_of_ble_eq_true rfl) (by decide) (by decide) ?_
      rintro v1026 T1026 h1026 L1026 X1026 e1026 ⟨rfl, N1026, rfl⟩
      have N1026a := Fr.app N1018a N1026
      show Ends p e below _ T1026 (mkF m 251 #[iv i0, iv i1, iv ch387, iv ch388, iv ch389, iv ch390, iv (1 : Int32), iv (3 : Int32), rv a757, rv a762, rv a771, rv a817, rv a842, rv a993, .unset] [(.ref a757)])
      refine go (fun _ => XS.astore X1026.here hx rfl (hb hby at_251) rfl rfl (l' := #[iv i0, iv i1, iv ch387, iv ch388, iv ch389, iv ch390, iv (1 : Int32), iv (3 : Int32), rv a757, rv a762, rv a771, rv a817, rv a842, rv a993, rv a757]) rfl) ?_
      refine go (fun _ => XS.aload X1026.here hx rfl (hb hby at_253) rfl rfl) ?_
      show Ends p e below _ T1026 (mkF m 255 #[iv i0, iv i1, iv ch387, iv ch388, iv ch389, iv ch390, iv (1 : Int32), iv (3 : Int32), rv a757, rv a762, rv a771, rv a817, rv a842, rv a993, rv a757] [(.ref a757)])
      refine go (fun _ => XS.ifnullNo X1026.here hx rfl (hb hby at_255) rfl) ?_
      show Ends p e below _ T1026 (mkF m 258 #[iv i0, iv i1, iv ch387, iv ch388, iv ch389, iv ch390, iv (1 : Int32), iv (3 : Int32), rv a757, rv a762, rv a771, rv a817, rv a842, rv a993, rv a757] [])
      refine go (fun _ => XS.aload X1026.here hx rfl (hb hby at_258) rfl rfl) ?_
      show Ends p e below _ T1026 (mkF m 260 #[iv i0, iv i1, iv ch387, iv ch388, iv ch389, iv ch390, iv (1 : Int32), iv (3 : Int32), rv a757, rv a762, rv a771, rv a817, rv a842, rv a993, rv a757] [(.ref a757)])
      have F1028 := (Fld.keep (Fld.ext E993 (Fld.keep (Fld.keep (Fld.keep (Fld.keep (Fld.ext E842 (Fld.keep (Fld.keep (Fld.other W795 (Fld.other W792 (Fld.ext E780 (Fld.ext E771 (Fld.keep Fc757 K762 nin0))) (Or.inl n785)) (Or.inl n785)) K802 (ninS n774 nin0)) K817 nin0)) K864 (ninS n850 nin0)) K869 (ninS n850 nin0)) K983 (ninS n850 (ninS n870 nin0))) K989 (ninS n850 (ninS n870 nin0)))) K1018 (ninS n1004 nin0))
      have F1029 := (Fld.keep (Fld.ext E993 (Fld.keep (Fld.keep (Fld.keep (Fld.keep (Fld.ext E842 (Fld.keep (Fld.keep (Fld.other W795 (Fld.other W792 (Fld.ext E780 (Fld.ext E771 (Fld.keep Fv757 K762 nin0))) (Or.inl n785)) (Or.inl n785)) K802 (ninS n774 nin0)) K817 nin0)) K864 (ninS n850 nin0)) K869 (ninS n850 nin0)) K983 (ninS n850 (ninS n870 nin0))) K989 (ninS n850 (ninS n870 nin0)))) K1018 (ninS n1004 nin0))
      have F1030 := (Arv.keep (Arv.ext F1000 E993) K1018 (ninS n1010 nin0))
      refine cVirt X1026 hx hZ hown (by rw [hml]; rfl) e1026 (hwi hw 136 rfl) (hwi hw 137 rfl) (hwi hw 139 rfl) (hwi hw 138 rfl) (hwi hw 2 rfl) (hwi hw 140 rfl) (notFace_of_selects (args := #[]) (mvT hZ (hwi hw 139 rfl))) a757 F1021 [] [] rfl (rm_length hw a757 b757 k757 (1 : Int32) _ _ O1020 cz SCS hcz F1028 F1021 F1029 F1030) (hb hby at_260) rfl (lenOf pd_33 rfl) (by decide) (by decide) (Nat.le_of_ble_eq_true rfl) (by decide) (by decide) ?_
      rintro v1031 T1031 h1031 L1031 X1031 e1031 ⟨rfl, N1031, rfl⟩
      have N1031a := Fr.app N1026a N1031
      show Ends p e below _ T1031 (mkF m 263 #[iv i0, iv i1, iv ch387, iv ch388, iv ch389, iv ch390, iv (1 : Int32), iv (3 : Int32), rv a757, rv a762, rv a771, rv a817, rv a842, rv a993, rv a757] [(.int (1 : Int32))])
      refine go (fun _ => XS.iload X1031.here hx rfl (hb hby at_263) rfl) ?_
      show Ends p e below _ T1031 (mkF m 265 #[iv i0, iv i1, iv ch387, iv ch388, iv ch389, iv ch390, iv (1 : Int32), iv (3 : Int32), rv a757, rv a762, rv a771, rv a817, rv a842, rv a993, rv a757] [(.int (1 : Int32)), (.int (1 : Int32))])
      refine go (fun _ => XS.icmpYes X1031.here hx rfl (pc0 := 265) (pc' := 270) rfl (hb hby at_265) rfl (XT.ii_eq_t ((by decide) : (1 : Int32) = (1 : Int32))) (by decide) (by decide)) ?_
      show Ends p e below _ T1031 (mkF m 270 #[iv i0, iv i1, iv ch387, iv ch388, iv ch389, iv ch390, iv (1 : Int32), iv (3 : Int32), rv a757, rv a762, rv a771, rv a817, rv a842, rv a993, rv a757] [])
      refine go (fun _ => XS.iload X1031.here hx rfl (hb hby at_270) rfl) ?_
      refine go (fun _ => XT.iconstV X1031.here hx rfl (1 : Int32) (hb hby at_272) (by decide)) ?_
      show Ends p e below _ T1031 (mkF m 273 #[iv i0, iv i1, iv ch387, iv ch388, iv ch389, iv ch390, iv (1 : Int32), iv (3 : Int32), rv a757, rv a762, rv a771, rv a817, rv a842, rv a993, rv a757] [(.int (1 : Int32)), (.int (1 : Int32))])
      refine go (fun _ => XS.icmpNo X1031.here hx rfl (hb hby at_273) rfl (XT.ii_lt_f ((by decide) : ¬ ((1 : Int32) < (1 : Int32))))) ?_
      show Ends p e below _ T1031 (mkF m 276 #[iv i0, iv i1, iv ch387, iv ch388, iv ch389, iv ch390, iv (1 : Int32), iv (3 : Int32), rv a757, rv a762, rv a771, rv a817, rv a842, rv a993, rv a757] [])
      refine go (fun _ => XS.aload X1031.here hx rfl (hb hby at_276) rfl rfl) ?_
      refine go (fun _ => XT.iconstV X1031.here hx rfl (0 : Int32) (hb hby at_278) (by decide)) ?_
      show Ends p e below _ T1031 (mkF m 279 #[iv i0, iv i1, iv ch387, iv ch388, iv ch389, iv ch390, iv (1 : Int32), iv (3 : Int32), rv a757, rv a762, rv a771, rv a817, rv a842, rv a993, rv a757] [(.int (0 : Int32)), (.ref a757)])
      refine cVirt X1031 hx hZ hown (by rw [hml]; rfl) e1031 (hwi hw 146 rfl) (hwi hw 147 rfl) (hwi hw 149 rfl) (hwi hw 148 rfl) (hwi hw 2 rfl) (hwi hw 150 rfl) (notFace_of_selects (args := #[]) (mvT hZ (hwi hw 149 rfl))) a757 F1021 [(.int (0 : Int32))] [] rfl (rm_sc_0_1 hw a757 b757 k757 ch387 wS _ O1020 cz SCS hcz hsf SS F1028 F1021 F1029 F1030 lc387 gc387) (hb hby at_279) rfl (lenOf pd_34 rfl) (by decide) (by decide) (Nat.le_of_ble_eq_true rfl) (by decide) (by decide) ?_
      rintro v1032 T1032 h1032 L1032 X1032 e1032 ⟨rfl, N1032, rfl⟩
      have N1032a := Fr.app N1031a N1032
      show Ends p e below _ T1032 (mkF m 282 #[iv i0, iv i1, iv ch387, iv ch388, iv ch389, iv ch390, iv (1 : Int32), iv (3 : Int32), rv a757, rv a762, rv a771, rv a817, rv a842, rv a993, rv a757] [(.int ch387)])
      refine go (fun _ => XS.iloadN X1032.here hx rfl (hb hby at_282) rfl) ?_
      show Ends p e below _ T1032 (mkF m 283 #[iv i0, iv i1, iv ch387, iv ch388, iv ch389, iv ch390, iv (1 : Int32), iv (3 : Int32), rv a757, rv a762, rv a771, rv a817, rv a842, rv a993, rv a757] [(.int ch387), (.int ch387)])
      refine go (fun _ => XS.icmpYes X1032.here hx rfl (pc0 := 283) (pc' := 288) rfl (hb hby at_283) rfl (XT.ii_eq_t (rfl : ch387 = ch387)) (by decide) (by decide)) ?_
      show Ends p e below _ T1032 (mkF m 288 #[iv i0, iv i1, iv ch387, iv ch388, iv ch389, iv ch390, iv (1 : Int32), iv (3 : Int32), rv a757, rv a762, rv a771, rv a817, rv a842, rv a993, rv a757] [])
      refine go (fun _ => XS.iload X1032.here hx rfl (hb hby at_288) rfl) ?_
      refine go (fun _ => XT.iconstV X1032.here hx rfl (2 : Int32) (hb hby at_290) (by decide)) ?_
      show Ends p e below _ T1032 (mkF m 291 #[iv i0, iv i1, iv ch387, iv ch388, iv ch389, iv ch390, iv (1 : Int32), iv (3 : Int32), rv a757, rv a762, rv a771, rv a817, rv a842, rv a993, rv a757] [(.int (2 : Int32)), (.int (1 : Int32))])
      refine go (fun _ => XS.icmpYes X1032.here hx rfl (pc0 := 291) (pc' := 306) rfl (hb hby at_291) rfl (XT.ii_lt_t ((by decide) : (1 : Int32) < (2 : Int32))) (by decide) (by decide)) ?_
      show Ends p e below _ T1032 (mkF m 306 #[iv i0, iv i1, iv ch387, iv ch388, iv ch389, iv ch390, iv (1 : Int32), iv (3 : Int32), rv a757, rv a762, rv a771, rv a817, rv a842, rv a993, rv a757] [])
      refine go (fun _ => XS.iload X1032.here hx rfl (hb hby at_306) rfl) ?_
      refine go (fun _ => XT.iconstV X1032.here hx rfl (3 : Int32) (hb hby at_308) (by decide)) ?_
      show Ends p e below _ T1032 (mkF m 309 #[iv i0, iv i1, iv ch387, iv ch388, iv ch389, iv ch390, iv (1 : Int32), iv (3 : Int32), rv a757, rv a762, rv a771, rv a817, rv a842, rv a993, rv a757] [(.int (3 : Int32)), (.int (1 : Int32))])
      refine go (fun _ => XS.icmpYes X1032.here hx rfl (pc0 := 309) (pc' := 325) rfl (hb hby at_309) rfl (XT.ii_lt_t ((by decide) : (1 : Int32) < (3 : Int32))) (by decide) (by decide)) ?_
      show Ends p e below _ T1032 (mkF m 325 #[iv i0, iv i1, iv ch387, iv ch388, iv ch389, iv ch390, iv (1 : Int32), iv (3 : Int32), rv a757, rv a762, rv a771, rv a817, rv a842, rv a993, rv a757] [])
      refine go (fun _ => XS.aload X1032.here hx rfl (hb hby at_325) rfl rfl) ?_
      show Ends p e below _ T1032 (mkF m 327 #[iv i0, iv i1, iv ch387, iv ch388, iv ch389, iv ch390, iv (1 : Int32), iv (3 : Int32), rv a757, rv a762, rv a771, rv a817, rv a842, rv a993, rv a757] [(.ref a842)])
      refine cVirt X1032 hx hZ hown (by rw [hml]; rfl) e1032 (hwi hw 164 rfl) (hwi hw 165 rfl) (hwi hw 167 rfl) (hwi hw 166 rfl) (hwi hw 46 rfl) (hwi hw 168 rfl) (notFace_of_selects (args := #[]) (mvT hZ (hwi hw 167 rfl))) a842 F1022 [] [] rfl (rm_size hw a842 (3 : Int32) _ F1024) (hb hby at_327) rfl (lenOf pd_33 rfl) (by decide) (by decide) (Nat.le_of_ble_eq_true rfl) (by decide) (by decide) ?_
      rintro v1033 T1033 h1033 L1033 X1033 e1033 ⟨rfl, N1033, rfl⟩
      have N1033a := Fr.app N1032a N1033
      show Ends p e below _ T1033 (mkF m 330 #[iv i0, iv i1, iv ch387, iv ch388, iv ch389, iv ch390, iv (1 : Int32), iv (3 : Int32), rv a757, rv a762, rv a771, rv a817, rv a842, rv a993, rv a757] [(.int (3 : Int32))])
      refine go (fun _ => XS.iload X1033.here hx rfl (hb hby at_330) rfl) ?_
      show Ends p e below _ T1033 (mkF m 332 #[iv i0, iv i1, iv ch387, iv ch388, iv ch389, iv ch390, iv (1 : Int32), iv (3 : Int32), rv a757, rv a762, rv a771, rv a817, rv a842, rv a993, rv a757] [(.int (3 : Int32)), (.int (3 : Int32))])
      refine go (fun _ => XS.icmpNo X1033.here hx rfl (hb hby at_332) rfl (XT.ii_ne_f ((by decide) : (3 : Int32) = (3 : Int32)))) ?_
      show Ends p e below _ T1033 (mkF m 335 #[iv i0, iv i1, iv ch387, iv ch388, iv ch389, iv ch390, iv (1 : Int32), iv (3 : Int32), rv a757, rv a762, rv a771, rv a817, rv a842, rv a993, rv a757] [])
      refine go (fun _ => XT.iconstV X1033.here hx rfl (1 : Int32) (hb hby at_335) (by decide)) ?_
      refine go (fun _ => XS.goto X1033.here hx rfl (pc0 := 336) (pc' := 340) rfl (hb hby at_336) (by decide) (by decide)) ?_
      show Ends p e below _ T1033 (mkF m 340 #[iv i0, iv i1, iv ch387, iv ch388, iv ch389, iv ch390, iv (1 : Int32), iv (3 : Int32), rv a757, rv a762, rv a771, rv a817, rv a842, rv a993, rv a757] [(.int (1 : Int32))])
      exact endN X1033 hx hret (by simp) (hb hby at_340) (lvW X1033 hlk hZ (own_EW hw) hs0 hS hk H1019 e1033 (fun h => by rw [hret] at h; cases h) ⟨rfl, N1033a⟩ (by decide) (by decide))
    · rw [q892]
      show Ends p e below _ T869 (mkF m 193 #[iv i0, iv i1, iv ch387, iv ch388, iv ch389, iv ch390, iv (1 : Int32), iv (4 : Int32), rv a757, rv a762, rv a771, rv a817, rv a842, .unset, .unset] [])
      refine go (fun _ => XS.iload X869.here hx rfl (hb hby at_193) rfl) ?_
      refine go (fun _ => XT.iconstV X869.here hx rfl (1 : Int32) (hb hby at_195) (by decide)) ?_
      show Ends p e below _ T869 (mkF m 196 #[iv i0, iv i1, iv ch387, iv ch388, iv ch389, iv ch390, iv (1 : Int32), iv (4 : Int32), rv a757, rv a762, rv a771, rv a817, rv a842, .unset, .unset] [(.int (1 : Int32)), (.int (4 : Int32))])
      refine go (fun _ => XS.icmpNo X869.here hx rfl (hb hby at_196) rfl (XT.ii_le_f ((by decide) : (1 : Int32) < (4 : Int32)))) ?_
      show Ends p e below _ T869 (mkF m 199 #[iv i0, iv i1, iv ch387, iv ch388, iv ch389, iv ch390, iv (1 : Int32), iv (4 : Int32), rv a757, rv a762, rv a771, rv a817, rv a842, .unset, .unset] [])
      refine go (fun _ => XS.aload X869.here hx rfl (hb hby at_199) rfl rfl) ?_
      refine go (fun _ => XS.aload X869.here hx rfl (hb hby at_201) rfl rfl) ?_
      show Ends p e below _ T869 (mkF m 203 #[iv i0, iv i1, iv ch387, iv ch388, iv ch389, iv ch390, iv (1 : Int32), iv (4 : Int32), rv a757, rv a762, rv a771, rv a817, rv a842, .unset, .unset] [(.ref a762), (.ref a842)])
      have F1034 := (Exa.keep F867 K869)
      have F1035 := (Exa.keep F871 K869)
      refine cVirt X869 hx hZ hown (by rw [hml]; rfl) e869 (hwi hw 68 rfl) (hwi hw 69 rfl) (hwi hw 71 rfl) (hwi hw 70 rfl) (hwi hw 46 rfl) (hwi hw 72 rfl) (notFace_of_selects (args := #[]) (mvT hZ (hwi hw 71 rfl))) a842 F1034 [(.ref a762)] [] rfl (rm_add_1 hw a842 a762 b869 k869 (1 : Int32) a757 _ O891 f842 F1034 F1869 F2869 F3869 f888 n879 O869 V869 F1035 (Ne.symm n851) (Ne.symm n872)) (hb hby at_203) rfl (lenOf pd_30 rfl) (by decide) (by decide) (Nat.le_of_ble_eq_true rfl) (by decide) (by decide) ?_
      rintro v1036 T1036 h1036 L1036 X1036 e1036 ⟨rfl, N1036, K1036, F11036, F21036, F31036, V1036⟩
      have N1036a := Fr.app N869a N1036
      have F1038 := (Safe.keep K869 sf889 H865.1 F890)
      have sf1037 : ∀ x ∈ [a842, b869], Safe Z own_EL s.vm h869 x := (sfS F1038 (sfS (Safe.arv hZ.alike V869 (by decide)) sf0))
      have C1037 : CHr Z own_EL s.vm h869 s.vm h1036 := CHr.keep K1036 sf1037 H889.1
      have hk := Nat.le_trans hk C1037.2.1
      have H1037 := H889.trans C1037
      have O1039 : Ext Z.heap h1036 := xk O891 K1036 (allS f842 (allS f888 all0))
      show Ends p e below _ T1036 (mkF m 206 #[iv i0, iv i1, iv ch387, iv ch388, iv ch389, iv ch390, iv (1 : Int32), iv (4 : Int32), rv a757, rv a762, rv a771, rv a817, rv a842, .unset, .unset] [(.int (1 : Int32))])
      refine go (fun _ => XT.pop X1036.here hx rfl (hb hby at_206) rfl rfl) ?_
      refine go (fun _ => XS.iload X1036.here hx rfl (hb hby at_207) rfl) ?_
      refine go (fun _ => XT.iconstV X1036.here hx rfl (2 : Int32) (hb hby at_209) (by decide)) ?_
      show Ends p e below _ T1036 (mkF m 210 #[iv i0, iv i1, iv ch387, iv ch388, iv ch389, iv ch390, iv (1 : Int32), iv (4 : Int32), rv a757, rv a762, rv a771, rv a817, rv a842, .unset, .unset] [(.int (2 : Int32)), (.int (4 : Int32))])
      refine go (fun _ => XS.icmpNo X1036.here hx rfl (hb hby at_210) rfl (XT.ii_le_f ((by decide) : (2 : Int32) < (4 : Int32)))) ?_
      show Ends p e below _ T1036 (mkF m 213 #[iv i0, iv i1, iv ch387, iv ch388, iv ch389, iv ch390, iv (1 : Int32), iv (4 : Int32), rv a757, rv a762, rv a771, rv a817, rv a842, .unset, .unset] [])
      refine go (fun _ => XS.aload X1036.here hx rfl (hb hby at_213) rfl rfl) ?_
      refine go (fun _ => XS.aload X1036.here hx rfl (hb hby at_215) rfl rfl) ?_
      show Ends p e below _ T1036 (mkF m 217 #[iv i0, iv i1, iv ch387, iv ch388, iv ch389, iv ch390, iv (1 : Int32), iv (4 : Int32), rv a757, rv a762, rv a771, rv a817, rv a842, .unset, .unset] [(.ref a771), (.ref a842)])
      have F1040 := (Exa.keep F1034 K1036)
      have F1041 := (Exa.keep (Exa.keep F873 K869) K1036)
      refine cVirt X1036 hx hZ hown (by rw [hml]; rfl) e1036 (hwi hw 68 rfl) (hwi hw 69 rfl) (hwi hw 71 rfl) (hwi hw 70 rfl) (hwi hw 46 rfl) (hwi hw 72 rfl) (notFace_of_selects (args := #[]) (mvT hZ (hwi hw 71 rfl))) a842 F1040 [(.ref a771)] [] rfl (rm_add_2 hw a842 a771 b869 k869 (2 : Int32) a757 a762 _ O1039 f842 F1040 F11036 F21036 F31036 f888 n879 O869 V1036 F1041 (Ne.symm n852) (Ne.symm n874)) (hb hby at_217) rfl (lenOf pd_30 rfl) (by decide) (by decide) (Nat.le_of_ble_eq_true rfl) (by decide) (by decide) ?_
      rintro v1042 T1042 h1042 L1042 X1042 e1042 ⟨rfl, N1042, K1042, F11042, F21042, F31042, V1042⟩
      have N1042a := Fr.app N1036a N1042
      have F1044 := (Safe.keep K1036 sf1037 H889.1 F1038)
      have sf1043 : ∀ x ∈ [a842, b869], Safe Z own_EL s.vm h1036 x := (sfS F1044 (sfS (Safe.arv hZ.alike V1036 (by decide)) sf0))
      have C1043 : CHr Z own_EL s.vm h1036 s.vm h1042 := CHr.keep K1042 sf1043 H1037.1
      have hk := Nat.le_trans hk C1043.2.1
      have H1043 := H1037.trans C1043
      have O1045 : Ext Z.heap h1042 := xk O1039 K1042 (allS f842 (allS f888 all0))
      show Ends p e below _ T1042 (mkF m 220 #[iv i0, iv i1, iv ch387, iv ch388, iv ch389, iv ch390, iv (1 : Int32), iv (4 : Int32), rv a757, rv a762, rv a771, rv a817, rv a842, .unset, .unset] [(.int (1 : Int32))])
      refine go (fun _ => XT.pop X1042.here hx rfl (hb hby at_220) rfl rfl) ?_
      refine go (fun _ => XS.iload X1042.here hx rfl (hb hby at_221) rfl) ?_
      refine go (fun _ => XT.iconstV X1042.here hx rfl (3 : Int32) (hb hby at_223) (by decide)) ?_
      show Ends p e below _ T1042 (mkF m 224 #[iv i0, iv i1, iv ch387, iv ch388, iv ch389, iv ch390, iv (1 : Int32), iv (4 : Int32), rv a757, rv a762, rv a771, rv a817, rv a842, .unset, .unset] [(.int (3 : Int32)), (.int (4 : Int32))])
      refine go (fun _ => XS.icmpNo X1042.here hx rfl (hb hby at_224) rfl (XT.ii_le_f ((by decide) : (3 : Int32) < (4 : Int32)))) ?_
      show Ends p e below _ T1042 (mkF m 227 #[iv i0, iv i1, iv ch387, iv ch388, iv ch389, iv ch390, iv (1 : Int32), iv (4 : Int32), rv a757, rv a762, rv a771, rv a817, rv a842, .unset, .unset] [])
      refine go (fun _ => XS.aload X1042.here hx rfl (hb hby at_227) rfl rfl) ?_
      refine go (fun _ => XS.aload X1042.here hx rfl (hb hby at_229) rfl rfl) ?_
      show Ends p e below _ T1042 (mkF m 231 #[iv i0, iv i1, iv ch387, iv ch388, iv ch389, iv ch390, iv (1 : Int32), iv (4 : Int32), rv a757, rv a762, rv a771, rv a817, rv a842, .unset, .unset] [(.ref a817), (.ref a842)])
      have F1046 := (Exa.keep F1040 K1042)
      have F1047 := (Exa.keep (Exa.keep (Exa.keep F877 K869) K1036) K1042)
      refine cVirt X1042 hx hZ hown (by rw [hml]; rfl) e1042 (hwi hw 68 rfl) (hwi hw 69 rfl) (hwi hw 71 rfl) (hwi hw 70 rfl) (hwi hw 46 rfl) (hwi hw 72 rfl) (notFace_of_selects (args := #[]) (mvT hZ (hwi hw 71 rfl))) a842 F1046 [(.ref a817)] [] rfl (rm_add_3 hw a842 a817 b869 k869 (3 : Int32) a757 a762 a771 _ O1045 f842 F1046 F11042 F21042 F31042 f888 n879 O869 V1042 F1047 (Ne.symm n854) (Ne.symm n878)) (hb hby at_231) rfl (lenOf pd_30 rfl) (by decide) (by decide) (Nat.le_of_ble_eq_true rfl) (by decide) (by decide) ?_
      rintro v1048 T1048 h1048 L1048 X1048 e1048 ⟨rfl, N1048, K1048, F11048, F21048, F31048, V1048⟩
      have N1048a := Fr.app N1042a N1048
      have F1050 := (Safe.keep K1042 sf1043 H1037.1 F1044)
      have sf1049 : ∀ x ∈ [a842, b869], Safe Z own_EL s.vm h1042 x := (sfS F1050 (sfS (Safe.arv hZ.alike V1042 (by decide)) sf0))
      have C1049 : CHr Z own_EL s.vm h1042 s.vm h1048 := CHr.keep K1048 sf1049 H1043.1
      have hk := Nat.le_trans hk C1049.2.1
      have H1049 := H1043.trans C1049
      have O1051 : Ext Z.heap h1048 := xk O1045 K1048 (allS f842 (allS f888 all0))
      show Ends p e below _ T1048 (mkF m 234 #[iv i0, iv i1, iv ch387, iv ch388, iv ch389, iv ch390, iv (1 : Int32), iv (4 : Int32), rv a757, rv a762, rv a771, rv a817, rv a842, .unset, .unset] [(.int (1 : Int32))])
      refine go (fun _ => XT.pop X1048.here hx rfl (hb hby at_234) rfl rfl) ?_
      show Ends p e below _ T1048 (mkF m 235 #[iv i0, iv i1, iv ch387, iv ch388, iv ch389, iv ch390, iv (1 : Int32), iv (4 : Int32), rv a757, rv a762, rv a771, rv a817, rv a842, .unset, .unset] [])
      obtain ⟨T1052, h1052, X1052, e1052, E1052, A1052, D1052, U1052, s1052⟩ := newO X1048 hx hZ hown (hwi hw 99 rfl) (hwi hw 100 rfl) (hwi hw 101 rfl) e1048 (g := (mkF m 235 #[iv i0, iv i1, iv ch387, iv ch388, iv ch389, iv ch390, iv (1 : Int32), iv (4 : Int32), rv a757, rv a762, rv a771, rv a817, rv a842, .unset, .unset] [])) rfl (hb hby at_235) (by decide) (by decide)
      have F1053 := (Exa.keep (Exa.keep (Exa.keep (Exa.keep F868 K869) K1036) K1042) K1048)
      have F1054 := (Exa.keep (Exa.keep (Exa.keep F1035 K1036) K1042) K1048)
      have F1055 := (Exa.keep (Exa.keep F1041 K1042) K1048)
      have F1056 := (Arv.keep (Arv.keep (Arv.keep (Arv.keep F875 K869 (ninS n853 nin0)) K1036 (ninS n853 (ninS n876 nin0))) K1042 (ninS n853 (ninS n876 nin0))) K1048 (ninS n853 (ninS n876 nin0)))
      have F1057 := (Exa.keep F1047 K1048)
      have F1058 := (Exa.keep F1046 K1048)
      have F1059 := (Arv.keep (Arv.keep (Arv.keep (Arv.keep F880 K869 (ninS n855 nin0)) K1036 (ninS n855 (ninS n881 nin0))) K1042 (ninS n855 (ninS n881 nin0))) K1048 (ninS n855 (ninS n881 nin0)))
      have F1060 := (Arv.keep (Arv.keep (Arv.keep (Arv.keep F882 K869 (ninS n856 nin0)) K1036 (ninS n856 (ninS n883 nin0))) K1042 (ninS n856 (ninS n883 nin0))) K1048 (ninS n856 (ninS n883 nin0)))
      have F1061 := (Arv.keep (Arv.keep (Arv.keep (Arv.keep F884 K869 (ninS n857 nin0)) K1036 (ninS n857 (ninS n885 nin0))) K1042 (ninS n857 (ninS n885 nin0))) K1048 (ninS n857 (ninS n885 nin0)))
      have F1062 := (Arv.keep (Arv.keep (Arv.keep (Arv.keep F886 K869 (ninS n858 nin0)) K1036 (ninS n858 (ninS n887 nin0))) K1042 (ninS n858 (ninS n887 nin0))) K1048 (ninS n858 (ninS n887 nin0)))
      obtain ⟨a1052, g1052⟩ : ∃ z : Addr, z = h1048.size := ⟨_, rfl⟩
      have n1063 : a757 ≠ a1052 := fun q => absurd (F1053.lt) (by rw [q, g1052]; exact Nat.lt_irrefl _)
      have n1064 : a762 ≠ a1052 := fun q => absurd (F1054.lt) (by rw [q, g1052]; exact Nat.lt_irrefl _)
      have n1065 : a771 ≠ a1052 := fun q => absurd (F1055.lt) (by rw [q, g1052]; exact Nat.lt_irrefl _)
      have n1066 : a780 ≠ a1052 := fun q => absurd (F1056.lt) (by rw [q, g1052]; exact Nat.lt_irrefl _)
      have n1067 : a817 ≠ a1052 := fun q => absurd (F1057.lt) (by rw [q, g1052]; exact Nat.lt_irrefl _)
      have n1068 : a842 ≠ a1052 := fun q => absurd (F1058.lt) (by rw [q, g1052]; exact Nat.lt_irrefl _)
      have n1069 : b757 ≠ a1052 := fun q => absurd (F1059.lt) (by rw [q, g1052]; exact Nat.lt_irrefl _)
      have n1070 : b762 ≠ a1052 := fun q => absurd (F1060.lt) (by rw [q, g1052]; exact Nat.lt_irrefl _)
      have n1071 : b802 ≠ a1052 := fun q => absurd (F1061.lt) (by rw [q, g1052]; exact Nat.lt_irrefl _)
      have n1072 : b817 ≠ a1052 := fun q => absurd (F1062.lt) (by rw [q, g1052]; exact Nat.lt_irrefl _)
      have n1073 : b869 ≠ a1052 := fun q => absurd (V1048.lt) (by rw [q, g1052]; exact Nat.lt_irrefl _)
      have f1052 : Z.heap.size ≤ a1052 := by rw [g1052]; exact (O1051).1
      rw [← g1052] at A1052 D1052 U1052 s1052
      have C1074 : CHr Z own_EL s.vm h1048 s.vm h1052 := CHr.ext E1052 H1049.1
      have hk := Nat.le_trans hk C1074.2.1
      have H1074 := H1049.trans C1074
      have O1075 : Ext Z.heap h1052 := xx O1051 E1052
      have SF1052 : Safe Z own_EL s.vm h1052 a1052 := Safe.ext E1052 H1049.1 (Safe.new (by rw [g1052]; exact Nat.le_refl _))
      refine go s1052 ?_
      show Ends p e below _ T1052 (mkF m 238 #[iv i0, iv i1, iv ch387, iv ch388, iv ch389, iv ch390, iv (1 : Int32), iv (4 : Int32), rv a757, rv a762, rv a771, rv a817, rv a842, .unset, .unset] [(.ref a1052)])
      refine go (fun _ => XS.dup X1052.here hx rfl (hb hby at_238) rfl rfl) ?_
      refine go (fun _ => XS.aload X1052.here hx rfl (hb hby at_239) rfl rfl) ?_
      show Ends p e below _ T1052 (mkF m 241 #[iv i0, iv i1, iv ch387, iv ch388, iv ch389, iv ch390, iv (1 : Int32), iv (4 : Int32), rv a757, rv a762, rv a771, rv a817, rv a842, .unset, .unset] [(.ref a842), (.ref a1052), (.ref a1052)])
      have F1076 := (D1052 (Or.inr (hwi hw 107 rfl)) (ty := (.object "java/util/List")) (by decide))
      refine cInit X1052 hx hZ hown (by rw [hml]; rfl) e1052 (hwi hw 102 rfl) (hwi hw 103 rfl) (hwi hw 101 rfl) (hwi hw 104 rfl) a1052 [(.ref a842)] [(.ref a1052)] rfl (rm_pg hw a1052 a842 _ O1075 f1052 A1052 F1076  ) (hb hby at_241) rfl (lenOf pd_31 rfl) rfl (by decide) (by decide) (Nat.le_of_ble_eq_true rfl) (by decide) (by decide) ?_
      rintro v1077 T1077 h1077 L1077 X1077 e1077 ⟨rfl, N1077, K1077, F1077_0⟩
      have N1077a := Fr.app N1048a N1077
      have sf1078 : ∀ x ∈ [a1052], Safe Z own_EL s.vm h1052 x := (sfS SF1052 sf0)
      have C1078 : CHr Z own_EL s.vm h1052 s.vm h1077 := CHr.keep K1077 sf1078 H1074.1
      have hk := Nat.le_trans hk C1078.2.1
      have H1078 := H1074.trans C1078
      have O1079 : Ext Z.heap h1077 := xk O1075 K1077 (allS f1052 all0)
      show Ends p e below _ T1077 (mkF m 244 #[iv i0, iv i1, iv ch387, iv ch388, iv ch389, iv ch390, iv (1 : Int32), iv (4 : Int32), rv a757, rv a762, rv a771, rv a817, rv a842, .unset, .unset] [(.ref a1052)])
      refine go (fun _ => XS.astore X1077.here hx rfl (hb hby at_244) rfl rfl (l' := #[iv i0, iv i1, iv ch387, iv ch388, iv ch389, iv ch390, iv (1 : Int32), iv (4 : Int32), rv a757, rv a762, rv a771, rv a817, rv a842, rv a1052, .unset]) rfl) ?_
      refine go (fun _ => XS.aload X1077.here hx rfl (hb hby at_246) rfl rfl) ?_
      show Ends p e below _ T1077 (mkF m 248 #[iv i0, iv i1, iv ch387, iv ch388, iv ch389, iv ch390, iv (1 : Int32), iv (4 : Int32), rv a757, rv a762, rv a771, rv a817, rv a842, rv a1052, .unset] [(.ref a1052)])
      have F1080 := (Exa.keep (Exa.ext E1052 F1053) K1077)
      have F1081 := (Exa.keep (Exa.ext E1052 F1058) K1077)
      have F1082 := (Fld.keep (Fld.ext E1052 F21048) K1077 (ninS n1068 nin0))
      have F1083 := (Fld.keep (Fld.ext E1052 F31048) K1077 (ninS n1068 nin0))
      have F1084 := (Arv.keep (Arv.ext V1048 E1052) K1077 (ninS n1073 nin0))
      have F1086 := (Exa.keep A1052 K1077)
      refine cVirt X1077 hx hZ hown (by rw [hml]; rfl) e1077 (hwi hw 108 rfl) (hwi hw 109 rfl) (hwi hw 111 rfl) (hwi hw 110 rfl) (hwi hw 101 rfl) (hwi hw 112 rfl) (notFace_of_selects (args := #[]) (mvT hZ (hwi hw 111 rfl))) a1052 F1086 [] [] rfl (rm_name hw a1052 a842 b869 a757 k869 (4 : Int32) _ _ F1077_0 F1080 F1081 F1082 F1083 F1084 (by decide)) (hb hby at_248) rfl (lenOf pd_32 rfl) (by decide) (by decide) (Nat.le_of_ble_eq_true rfl) (by decide) (by decide) ?_
      rintro v1085 T1085 h1085 L1085 X1085 e1085 ⟨rfl, N1085, rfl⟩
      have N1085a := Fr.app N1077a N1085
      show Ends p e below _ T1085 (mkF m 251 #[iv i0, iv i1, iv ch387, iv ch388, iv ch389, iv ch390, iv (1 : Int32), iv (4 : Int32), rv a757, rv a762, rv a771, rv a817, rv a842, rv a1052, .unset] [(.ref a757)])
      refine go (fun _ => XS.astore X1085.here hx rfl (hb hby at_251) rfl rfl (l' := #[iv i0, iv i1, iv ch387, iv ch388, iv ch389, iv ch390, iv (1 : Int32), iv (4 : Int32), rv a757, rv a762, rv a771, rv a817, rv a842, rv a1052, rv a757]) rfl) ?_
      refine go (fun _ => XS.aload X1085.here hx rfl (hb hby at_253) rfl rfl) ?_
      show Ends p e below _ T1085 (mkF m 255 #[iv i0, iv i1, iv ch387, iv ch388, iv ch389, iv ch390, iv (1 : Int32), iv (4 : Int32), rv a757, rv a762, rv a771, rv a817, rv a842, rv a1052, rv a757] [(.ref a757)])
      refine go (fun _ => XS.ifnullNo X1085.here hx rfl (hb hby at_255) rfl) ?_
      show Ends p e below _ T1085 (mkF m 258 #[iv i0, iv i1, iv ch387, iv ch388, iv ch389, iv ch390, iv (1 : Int32), iv (4 : Int32), rv a757, rv a762, rv a771, rv a817, rv a842, rv a1052, rv a757] [])
      refine go (fun _ => XS.aload X1085.here hx rfl (hb hby at_258) rfl rfl) ?_
      show Ends p e below _ T1085 (mkF m 260 #[iv i0, iv i1, iv ch387, iv ch388, iv ch389, iv ch390, iv (1 : Int32), iv (4 : Int32), rv a757, rv a762, rv a771, rv a817, rv a842, rv a1052, rv a757] [(.ref a757)])
      have F1087 := (Fld.keep (Fld.ext E1052 (Fld.keep (Fld.keep (Fld.keep (Fld.keep (Fld.keep (Fld.ext E842 (Fld.keep (Fld.keep (Fld.other W795 (Fld.other W792 (Fld.ext E780 (Fld.ext E771 (Fld.keep Fc757 K762 nin0))) (Or.inl n785)) (Or.inl n785)) K802 (ninS n774 nin0)) K817 nin0)) K864 (ninS n850 nin0)) K869 (ninS n850 nin0)) K1036 (ninS n850 (ninS n870 nin0))) K1042 (ninS n850 (ninS n870 nin0))) K1048 (ninS n850 (ninS n870 nin0)))) K1077 (ninS n1063 nin0))
      have F1088 := (Fld.keep (Fld.ext E1052 (Fld.keep (Fld.keep (Fld.keep (Fld.keep (Fld.keep (Fld.ext E842 (Fld.keep (Fld.keep (Fld.other W795 (Fld.other W792 (Fld.ext E780 (Fld.ext E771 (Fld.keep Fv757 K762 nin0))) (Or.inl n785)) (Or.inl n785)) K802 (ninS n774 nin0)) K817 nin0)) K864 (ninS n850 nin0)) K869 (ninS n850 nin0)) K1036 (ninS n850 (ninS n870 nin0))) K1042 (ninS n850 (ninS n870 nin0))) K1048 (ninS n850 (ninS n870 nin0)))) K1077 (ninS n1063 nin0))
      have F1089 := (Arv.keep (Arv.ext F1059 E1052) K1077 (ninS n1069 nin0))
      refine cVirt X1085 hx hZ hown (by rw [hml]; rfl) e1085 (hwi hw 136 rfl) (hwi hw 137 rfl) (hwi hw 139 rfl) (hwi hw 138 rfl) (hwi hw 2 rfl) (hwi hw 140 rfl) (notFace_of_selects (args := #[]) (mvT hZ (hwi hw 139 rfl))) a757 F1080 [] [] rfl (rm_length hw a757 b757 k757 (1 : Int32) _ _ O1079 cz SCS hcz F1087 F1080 F1088 F1089) (hb hby at_260) rfl (lenOf pd_33 rfl) (by decide) (by decide) (Nat.le_of_ble_eq_true rfl) (by decide) (by decide) ?_
      rintro v1090 T1090 h1090 L1090 X1090 e1090 ⟨rfl, N1090, rfl⟩
      have N1090a := Fr.app N1085a N1090
      show Ends p e below _ T1090 (mkF m 263 #[iv i0, iv i1, iv ch387, iv ch388, iv ch389, iv ch390, iv (1 : Int32), iv (4 : Int32), rv a757, rv a762, rv a771, rv a817, rv a842, rv a1052, rv a757] [(.int (1 : Int32))])
      refine go (fun _ => XS.iload X1090.here hx rfl (hb hby at_263) rfl) ?_
      show Ends p e below _ T1090 (mkF m 265 #[iv i0, iv i1, iv ch387, iv ch388, iv ch389, iv ch390, iv (1 : Int32), iv (4 : Int32), rv a757, rv a762, rv a771, rv a817, rv a842, rv a1052, rv a757] [(.int (1 : Int32)), (.int (1 : Int32))])
      refine go (fun _ => XS.icmpYes X1090.here hx rfl (pc0 := 265) (pc' := 270) rfl (hb hby at_265) rfl (XT.ii_eq_t ((by decide) : (1 : Int32) = (1 : Int32))) (by decide) (by decide)) ?_
      show Ends p e below _ T1090 (mkF m 270 #[iv i0, iv i1, iv ch387, iv ch388, iv ch389, iv ch390, iv (1 : Int32), iv (4 : Int32), rv a757, rv a762, rv a771, rv a817, rv a842, rv a1052, rv a757] [])
      refine go (fun _ => XS.iload X1090.here hx rfl (hb hby at_270) rfl) ?_
      refine go (fun _ => XT.iconstV X1090.here hx rfl (1 : Int32) (hb hby at_272) (by decide)) ?_
      show Ends p e below _ T1090 (mkF m 273 #[iv i0, iv i1, iv ch387, iv ch388, iv ch389, iv ch390, iv (1 : Int32), iv (4 : Int32), rv a757, rv a762, rv a771, rv a817, rv a842, rv a1052, rv a757] [(.int (1 : Int32)), (.int (1 : Int32))])
      refine go (fun _ => XS.icmpNo X1090.here hx rfl (hb hby at_273) rfl (XT.ii_lt_f ((by decide) : ¬ ((1 : Int32) < (1 : Int32))))) ?_
      show Ends p e below _ T1090 (mkF m 276 #[iv i0, iv i1, iv ch387, iv ch388, iv ch389, iv ch390, iv (1 : Int32), iv (4 : Int32), rv a757, rv a762, rv a771, rv a817, rv a842, rv a1052, rv a757] [])
      refine go (fun _ => XS.aload X1090.here hx rfl (hb hby at_276) rfl rfl) ?_
      refine go (fun _ => XT.iconstV X1090.here hx rfl (0 : Int32) (hb hby at_278) (by decide)) ?_
      show Ends p e below _ T1090 (mkF m 279 #[iv i0, iv i1, iv ch387, iv ch388, iv ch389, iv ch390, iv (1 : Int32), iv (4 : Int32), rv a757, rv a762, rv a771, rv a817, rv a842, rv a1052, rv a757] [(.int (0 : Int32)), (.ref a757)])
      refine cVirt X1090 hx hZ hown (by rw [hml]; rfl) e1090 (hwi hw 146 rfl) (hwi hw 147 rfl) (hwi hw 149 rfl) (hwi hw 148 rfl) (hwi hw 2 rfl) (hwi hw 150 rfl) (notFace_of_selects (args := #[]) (mvT hZ (hwi hw 149 rfl))) a757 F1080 [(.int (0 : Int32))] [] rfl (rm_sc_0_1 hw a757 b757 k757 ch387 wS _ O1079 cz SCS hcz hsf SS F1087 F1080 F1088 F1089 lc387 gc387) (hb hby at_279) rfl (lenOf pd_34 rfl) (by decide) (by decide) (Nat.le_of_ble_eq_true rfl) (by decide) (by decide) ?_
      rintro v1091 T1091 h1091 L1091 X1091 e1091 ⟨rfl, N1091, rfl⟩
      have N1091a := Fr.app N1090a N1091
      show Ends p e below _ T1091 (mkF m 282 #[iv i0, iv i1, iv ch387, iv ch388, iv ch389, iv ch390, iv (1 : Int32), iv (4 : Int32), rv a757, rv a762, rv a771, rv a817, rv a842, rv a1052, rv a757] [(.int ch387)])
      refine go (fun _ => XS.iloadN X1091.here hx rfl (hb hby at_282) rfl) ?_
      show Ends p e below _ T1091 (mkF m 283 #[iv i0, iv i1, iv ch387, iv ch388, iv ch389, iv ch390, iv (1 : Int32), iv (4 : Int32), rv a757, rv a762, rv a771, rv a817, rv a842, rv a1052, rv a757] [(.int ch387), (.int ch387)])
      refine go (fun _ => XS.icmpYes X1091.here hx rfl (pc0 := 283) (pc' := 288) rfl (hb hby at_283) rfl (XT.ii_eq_t (rfl : ch387 = ch387)) (by decide) (by decide)) ?_
      show Ends p e below _ T1091 (mkF m 288 #[iv i0, iv i1, iv ch387, iv ch388, iv ch389, iv ch390, iv (1 : Int32), iv (4 : Int32), rv a757, rv a762, rv a771, rv a817, rv a842, rv a1052, rv a757] [])
      refine go (fun _ => XS.iload X1091.here hx rfl (hb hby at_288) rfl) ?_
      refine go (fun _ => XT.iconstV X1091.here hx rfl (2 : Int32) (hb hby at_290) (by decide)) ?_
      show Ends p e below _ T1091 (mkF m 291 #[iv i0, iv i1, iv ch387, iv ch388, iv ch389, iv ch390, iv (1 : Int32), iv (4 : Int32), rv a757, rv a762, rv a771, rv a817, rv a842, rv a1052, rv a757] [(.int (2 : Int32)), (.int (1 : Int32))])
      refine go (fun _ => XS.icmpYes X1091.here hx rfl (pc0 := 291) (pc' := 306) rfl (hb hby at_291) rfl (XT.ii_lt_t ((by decide) : (1 : Int32) < (2 : Int32))) (by decide) (by decide)) ?_
      show Ends p e below _ T1091 (mkF m 306 #[iv i0, iv i1, iv ch387, iv ch388, iv ch389, iv ch390, iv (1 : Int32), iv (4 : Int32), rv a757, rv a762, rv a771, rv a817, rv a842, rv a1052, rv a757] [])
      refine go (fun _ => XS.iload X1091.here hx rfl (hb hby at_306) rfl) ?_
      refine go (fun _ => XT.iconstV X1091.here hx rfl (3 : Int32) (hb hby at_308) (by decide)) ?_
      show Ends p e below _ T1091 (mkF m 309 #[iv i0, iv i1, iv ch387, iv ch388, iv ch389, iv ch390, iv (1 : Int32), iv (4 : Int32), rv a757, rv a762, rv a771, rv a817, rv a842, rv a1052, rv a757] [(.int (3 : Int32)), (.int (1 : Int32))])
      refine go (fun _ => XS.icmpYes X1091.here hx rfl (pc0 := 309) (pc' := 325) rfl (hb hby at_309) rfl (XT.ii_lt_t ((by decide) : (1 : Int32) < (3 : Int32))) (by decide) (by decide)) ?_
      show Ends p e below _ T1091 (mkF m 325 #[iv i0, iv i1, iv ch387, iv ch388, iv ch389, iv ch390, iv (1 : Int32), iv (4 : Int32), rv a757, rv a762, rv a771, rv a817, rv a842, rv a1052, rv a757] [])
      refine go (fun _ => XS.aload X1091.here hx rfl (hb hby at_325) rfl rfl) ?_
      show Ends p e below _ T1091 (mkF m 327 #[iv i0, iv i1, iv ch387, iv ch388, iv ch389, iv ch390, iv (1 : Int32), iv (4 : Int32), rv a757, rv a762, rv a771, rv a817, rv a842, rv a1052, rv a757] [(.ref a842)])
      refine cVirt X1091 hx hZ hown (by rw [hml]; rfl) e1091 (hwi hw 164 rfl) (hwi hw 165 rfl) (hwi hw 167 rfl) (hwi hw 166 rfl) (hwi hw 46 rfl) (hwi hw 168 rfl) (notFace_of_selects (args := #[]) (mvT hZ (hwi hw 167 rfl))) a842 F1081 [] [] rfl (rm_size hw a842 (4 : Int32) _ F1083) (hb hby at_327) rfl (lenOf pd_33 rfl) (by decide) (by decide) (Nat.le_of_ble_eq_true rfl) (by decide) (by decide) ?_
      rintro v1092 T1092 h1092 L1092 X1092 e1092 ⟨rfl, N1092, rfl⟩
      have N1092a := Fr.app N1091a N1092
      show Ends p e below _ T1092 (mkF m 330 #[iv i0, iv i1, iv ch387, iv ch388, iv ch389, iv ch390, iv (1 : Int32), iv (4 : Int32), rv a757, rv a762, rv a771, rv a817, rv a842, rv a1052, rv a757] [(.int (4 : Int32))])
      refine go (fun _ => XS.iload X1092.here hx rfl (hb hby at_330) rfl) ?_
      show Ends p e below _ T1092 (mkF m 332 #[iv i0, iv i1, iv ch387, iv ch388, iv ch389, iv ch390, iv (1 : Int32), iv (4 : Int32), rv a757, rv a762, rv a771, rv a817, rv a842, rv a1052, rv a757] [(.int (4 : Int32)), (.int (4 : Int32))])
      refine go (fun _ => XS.icmpNo X1092.here hx rfl (hb hby at_332) rfl (XT.ii_ne_f ((by decide) : (4 : Int32) = (4 : Int32)))) ?_
      show Ends p e below _ T1092 (mkF m 335 #[iv i0, iv i1, iv ch387, iv ch388, iv ch389, iv ch390, iv (1 : Int32), iv (4 : Int32), rv a757, rv a762, rv a771, rv a817, rv a842, rv a1052, rv a757] [])
      refine go (fun _ => XT.iconstV X1092.here hx rfl (1 : Int32) (hb hby at_335) (by decide)) ?_
      refine go (fun _ => XS.goto X1092.here hx rfl (pc0 := 336) (pc' := 340) rfl (hb hby at_336) (by decide) (by decide)) ?_
      show Ends p e below _ T1092 (mkF m 340 #[iv i0, iv i1, iv ch387, iv ch388, iv ch389, iv ch390, iv (1 : Int32), iv (4 : Int32), rv a757, rv a762, rv a771, rv a817, rv a842, rv a1052, rv a757] [(.int (1 : Int32))])
      exact endN X1092 hx hret (by simp) (hb hby at_340) (lvW X1092 hlk hZ (own_EW hw) hs0 hS hk H1078 e1092 (fun h => by rw [hret] at h; cases h) ⟨rfl, N1092a⟩ (by decide) (by decide))
  · rw [q391]
    show Ends p e below _ T0 (mkF m 42 #[iv i0, iv i1, iv ch387, iv ch388, iv ch389, iv ch390, .unset, .unset, .unset, .unset, .unset, .unset, .unset, .unset, .unset] [(.int (2 : Int32))])
    refine go (fun _ => XS.istore X0.here hx rfl (hb hby at_42) rfl (l' := #[iv i0, iv i1, iv ch387, iv ch388, iv ch389, iv ch390, iv (2 : Int32), .unset, .unset, .unset, .unset, .unset, .unset, .unset, .unset]) rfl) ?_
    refine go (fun _ => XS.iloadN X0.here hx rfl (hb hby at_44) rfl) ?_
    refine go (fun _ => XT.iconstV X0.here hx rfl (2 : Int32) (hb hby at_45) (by decide)) ?_
    refine go (fun _ => XT.iushr X0.here hx rfl (hb hby at_46) rfl) ?_
    refine go (fun _ => XT.iconstV X0.here hx rfl (3 : Int32) (hb hby at_47) (by decide)) ?_
    refine go (fun _ => XS.iand X0.here hx rfl (hb hby at_48) rfl) ?_
    show Ends p e below _ T0 (mkF m 49 #[iv i0, iv i1, iv ch387, iv ch388, iv ch389, iv ch390, iv (2 : Int32), .unset, .unset, .unset, .unset, .unset, .unset, .unset, .unset] [(.int ((XT.ushr i1 (2 : Int32)) &&& (3 : Int32)))])
    refine go (fun _ => XT.iconstV X0.here hx rfl (1 : Int32) (hb hby at_49) (by decide)) ?_
    refine go (fun _ => XS.iadd X0.here hx rfl (hb hby at_50) rfl) ?_
    refine go (fun _ => XS.istore X0.here hx rfl (hb hby at_51) rfl (l' := #[iv i0, iv i1, iv ch387, iv ch388, iv ch389, iv ch390, iv (2 : Int32), iv (((XT.ushr i1 (2 : Int32)) &&& (3 : Int32)) + (1 : Int32)), .unset, .unset, .unset, .unset, .unset, .unset, .unset]) rfl) ?_
    refine go (fun _ => XS.iload X0.here hx rfl (hb hby at_53) rfl) ?_
    show Ends p e below _ T0 (mkF m 55 #[iv i0, iv i1, iv ch387, iv ch388, iv ch389, iv ch390, iv (2 : Int32), iv (((XT.ushr i1 (2 : Int32)) &&& (3 : Int32)) + (1 : Int32)), .unset, .unset, .unset, .unset, .unset, .unset, .unset] [(.int (2 : Int32))])
    refine go (fun _ => XS.ifYes X0.here hx rfl (pc0 := 55) (pc' := 73) rfl (hb hby at_55) rfl (XT.i0_ne_t ((by decide) : ¬ ((2 : Int32) = (0 : Int32)))) (by decide) (by decide)) ?_
    show Ends p e below _ T0 (mkF m 73 #[iv i0, iv i1, iv ch387, iv ch388, iv ch389, iv ch390, iv (2 : Int32), iv (((XT.ushr i1 (2 : Int32)) &&& (3 : Int32)) + (1 : Int32)), .unset, .unset, .unset, .unset, .unset, .unset, .unset] [])
    refine go (fun _ => XS.iload X0.here hx rfl (hb hby at_73) rfl) ?_
    refine go (fun _ => XT.iconstV X0.here hx rfl (1 : Int32) (hb hby at_75) (by decide)) ?_
    show Ends p e below _ T0 (mkF m 76 #[iv i0, iv i1, iv ch387, iv ch388, iv ch389, iv ch390, iv (2 : Int32), iv (((XT.ushr i1 (2 : Int32)) &&& (3 : Int32)) + (1 : Int32)), .unset, .unset, .unset, .unset, .unset, .unset, .unset] [(.int (1 : Int32)), (.int (2 : Int32))])
    refine go (fun _ => XS.icmpYes X0.here hx rfl (pc0 := 76) (pc' := 88) rfl (hb hby at_76) rfl (XT.ii_ne_t ((by decide) : ¬ ((2 : Int32) = (1 : Int32)))) (by decide) (by decide)) ?_
    show Ends p e below _ T0 (mkF m 88 #[iv i0, iv i1, iv ch387, iv ch388, iv ch389, iv ch390, iv (2 : Int32), iv (((XT.ushr i1 (2 : Int32)) &&& (3 : Int32)) + (1 : Int32)), .unset, .unset, .unset, .unset, .unset, .unset, .unset] [])
    refine go (fun _ => XS.iload X0.here hx rfl (hb hby at_88) rfl) ?_
    refine go (fun _ => XT.iconstV X0.here hx rfl (2 : Int32) (hb hby at_90) (by decide)) ?_
    show Ends p e below _ T0 (mkF m 91 #[iv i0, iv i1, iv ch387, iv ch388, iv ch389, iv ch390, iv (2 : Int32), iv (((XT.ushr i1 (2 : Int32)) &&& (3 : Int32)) + (1 : Int32)), .unset, .unset, .unset, .unset, .unset, .unset, .unset] [(.int (2 : Int32)), (.int (2 : Int32))])
    refine go (fun _ => XS.icmpNo X0.here hx rfl (hb hby at_91) rfl (XT.ii_ne_f ((by decide) : (2 : Int32) = (2 : Int32)))) ?_
    show Ends p e below _ T0 (mkF m 94 #[iv i0, iv i1, iv ch387, iv ch388, iv ch389, iv ch390, iv (2 : Int32), iv (((XT.ushr i1 (2 : Int32)) &&& (3 : Int32)) + (1 : Int32)), .unset, .unset, .unset, .unset, .unset, .unset, .unset] [])
    obtain ⟨T1093, h1093, X1093, e1093, E1093, A1093, D1093, U1093, s1093⟩ := newO X0 hx hZ hown (hwi hw 0 rfl) (hwi hw 1 rfl) (hwi hw 2 rfl) e0 (g := (mkF m 94 #[iv i0, iv i1, iv ch387, iv ch388, iv ch389, iv ch390, iv (2 : Int32), iv (((XT.ushr i1 (2 : Int32)) &&& (3 : Int32)) + (1 : Int32)), .unset, .unset, .unset, .unset, .unset, .unset, .unset] [])) rfl (hb hby at_94) (by decide) (by decide)
    obtain ⟨a1093, g1093⟩ : ∃ z : Addr, z = h0.size := ⟨_, rfl⟩
    have f1093 : Z.heap.size ≤ a1093 := by rw [g1093]; exact (O0).1
    rw [← g1093] at A1093 D1093 U1093 s1093
    have C1094 : CHr Z own_EL s.vm h0 s.vm h1093 := CHr.ext E1093 H0.1
    have hk := Nat.le_trans hk C1094.2.1
    have H1094 := H0.trans C1094
    have O1095 : Ext Z.heap h1093 := xx O0 E1093
    have SF1093 : Safe Z own_EL s.vm h1093 a1093 := Safe.ext E1093 H0.1 (Safe.new (by rw [g1093]; exact Nat.le_refl _))
    refine go s1093 ?_
    show Ends p e below _ T1093 (mkF m 97 #[iv i0, iv i1, iv ch387, iv ch388, iv ch389, iv ch390, iv (2 : Int32), iv (((XT.ushr i1 (2 : Int32)) &&& (3 : Int32)) + (1 : Int32)), .unset, .unset, .unset, .unset, .unset, .unset, .unset] [(.ref a1093)])
    refine go (fun _ => XS.dup X1093.here hx rfl (hb hby at_97) rfl rfl) ?_
    refine go (fun _ => XT.iconstV X1093.here hx rfl (2 : Int32) (hb hby at_98) (by decide)) ?_
    show Ends p e below _ T1093 (mkF m 99 #[iv i0, iv i1, iv ch387, iv ch388, iv ch389, iv ch390, iv (2 : Int32), iv (((XT.ushr i1 (2 : Int32)) &&& (3 : Int32)) + (1 : Int32)), .unset, .unset, .unset, .unset, .unset, .unset, .unset] [(.int (2 : Int32)), (.ref a1093), (.ref a1093)])
    obtain ⟨T1096, h1096, k1096, X1096, e1096, E1096, A1096, s1096⟩ := newP X1093 hx hZ (hwi hw 3 rfl) e1093 (g := (mkF m 99 #[iv i0, iv i1, iv ch387, iv ch388, iv ch389, iv ch390, iv (2 : Int32), iv (((XT.ushr i1 (2 : Int32)) &&& (3 : Int32)) + (1 : Int32)), .unset, .unset, .unset, .unset, .unset, .unset, .unset] [(.int (2 : Int32)), (.ref a1093), (.ref a1093)])) rfl (hb hby at_99) rfl (by decide) (cap := 2) (by decide) (by decide) (by decide) (by decide)
    obtain ⟨a1096, g1096⟩ : ∃ z : Addr, z = h1093.size := ⟨_, rfl⟩
    have n1097 : a1093 ≠ a1096 := fun q => absurd (A1093.lt) (by rw [q, g1096]; exact Nat.lt_irrefl _)
    have f1096 : Z.heap.size ≤ a1096 := by rw [g1096]; exact (O1095).1
    rw [← g1096] at A1096 s1096
    have C1098 : CHr Z own_EL s.vm h1093 s.vm h1096 := CHr.ext E1096 H1094.1
    have hk := Nat.le_trans hk C1098.2.1
    have H1098 := H1094.trans C1098
    have O1099 : Ext Z.heap h1096 := xx O1095 E1096
    have SF1096 : Safe Z own_EL s.vm h1096 a1096 := Safe.ext E1096 H1094.1 (Safe.new (by rw [g1096]; exact Nat.le_refl _))
    have V1096 : Arv Z h1096 a1096 k1096 .char (2 : Int32) [(.int (0 : Int32)), (.int (0 : Int32))] (.int 0) := Arv.pad (Arv.new A1096 (by decide)) (pad_rep [] _ 2)
    refine go s1096 ?_
    show Ends p e below _ T1096 (mkF m 101 #[iv i0, iv i1, iv ch387, iv ch388, iv ch389, iv ch390, iv (2 : Int32), iv (((XT.ushr i1 (2 : Int32)) &&& (3 : Int32)) + (1 : Int32)), .unset, .unset, .unset, .unset, .unset, .unset, .unset] [(.ref a1096), (.ref a1093), (.ref a1093)])
    refine go (fun _ => XS.dup X1096.here hx rfl (hb hby at_101) rfl rfl) ?_
    refine go (fun _ => XT.iconstV X1096.here hx rfl (0 : Int32) (hb hby at_102) (by decide)) ?_
    refine go (fun _ => XS.iloadN X1096.here hx rfl (hb hby at_103) rfl) ?_
    show Ends p e below _ T1096 (mkF m 104 #[iv i0, iv i1, iv ch387, iv ch388, iv ch389, iv ch390, iv (2 : Int32), iv (((XT.ushr i1 (2 : Int32)) &&& (3 : Int32)) + (1 : Int32)), .unset, .unset, .unset, .unset, .unset, .unset, .unset] [(.int ch387), (.int (0 : Int32)), (.ref a1096), (.ref a1096), (.ref a1093), (.ref a1093)])
    obtain ⟨cl1100, A1100, q1100, S1100, M1100, H1100, G1100⟩ := id V1096
    obtain ⟨T1100, h1100, X1100, e1100, W1100, s1100⟩ := stC X1096 hx hZ e1096 A1100 (j := (0 : Int32)) (inb_of S1100 (by decide)) (g := (mkF m 104 #[iv i0, iv i1, iv ch387, iv ch388, iv ch389, iv ch390, iv (2 : Int32), iv (((XT.ushr i1 (2 : Int32)) &&& (3 : Int32)) + (1 : Int32)), .unset, .unset, .unset, .unset, .unset, .unset, .unset] [(.int ch387), (.int (0 : Int32)), (.ref a1096), (.ref a1096), (.ref a1093), (.ref a1093)])) rfl rfl (hb hby at_104)
    have r1100 : nar .char ch387 = ch387 := nc387
    rw [r1100] at W1100
    have N1100 := Fr.snoc X1100 (Fr.nil _) f1096
    have C1101 : CHr Z own_EL s.vm h1096 s.vm h1100 := CHr.wr W1100 SF1096 H1098.1
    have hk := Nat.le_trans hk C1101.2.1
    have H1101 := H1098.trans C1101
    have O1102 : Ext Z.heap h1100 := xw O1099 W1100 f1096
    have V1100 : Arv Z h1100 a1096 k1096 .char (2 : Int32) [(.int ch387), (.int (0 : Int32))] (.int 0) := Arv.set A1100 q1100 S1100 M1100 H1100 G1100 (by first | rfl | exact fits_nar_char ch387 | (rw [← r1100]; exact fits_nar_char ch387)) W1100 0 (by decide) (Nat.le_of_ble_eq_true rfl)
    refine go s1100 ?_
    show Ends p e below _ T1100 (mkF m 105 #[iv i0, iv i1, iv ch387, iv ch388, iv ch389, iv ch390, iv (2 : Int32), iv (((XT.ushr i1 (2 : Int32)) &&& (3 : Int32)) + (1 : Int32)), .unset, .unset, .unset, .unset, .unset, .unset, .unset] [(.ref a1096), (.ref a1093), (.ref a1093)])
    refine go (fun _ => XS.dup X1100.here hx rfl (hb hby at_105) rfl rfl) ?_
    refine go (fun _ => XT.iconstV X1100.here hx rfl (1 : Int32) (hb hby at_106) (by decide)) ?_
    refine go (fun _ => XS.iloadN X1100.here hx rfl (hb hby at_107) rfl) ?_
    show Ends p e below _ T1100 (mkF m 108 #[iv i0, iv i1, iv ch387, iv ch388, iv ch389, iv ch390, iv (2 : Int32), iv (((XT.ushr i1 (2 : Int32)) &&& (3 : Int32)) + (1 : Int32)), .unset, .unset, .unset, .unset, .unset, .unset, .unset] [(.int ch388), (.int (1 : Int32)), (.ref a1096), (.ref a1096), (.ref a1093), (.ref a1093)])
    obtain ⟨cl1103, A1103, q1103, S1103, M1103, H1103, G1103⟩ := id V1100
    obtain ⟨T1103, h1103, X1103, e1103, W1103, s1103⟩ := stC X1100 hx hZ e1100 A1103 (j := (1 : Int32)) (inb_of S1103 (by decide)) (g := (mkF m 108 #[iv i0, iv i1, iv ch387, iv ch388, iv ch389, iv ch390, iv (2 : Int32), iv (((XT.ushr i1 (2 : Int32)) &&& (3 : Int32)) + (1 : Int32)), .unset, .unset, .unset, .unset, .unset, .unset, .unset] [(.int ch388), (.int (1 : Int32)), (.ref a1096), (.ref a1096), (.ref a1093), (.ref a1093)])) rfl rfl (hb hby at_108)
    have r1103 : nar .char ch388 = ch388 := nc388
    rw [r1103] at W1103
    have N1103 := Fr.snoc X1103 N1100 f1096
    have F1105 := (Safe.wr W1100 SF1096 H1098.1 SF1096)
    have C1104 : CHr Z own_EL s.vm h1100 s.vm h1103 := CHr.wr W1103 F1105 H1101.1
    have hk := Nat.le_trans hk C1104.2.1
    have H1104 := H1101.trans C1104
    have O1106 : Ext Z.heap h1103 := xw O1102 W1103 f1096
    have V1103 : Arv Z h1103 a1096 k1096 .char (2 : Int32) [(.int ch387), (.int ch388)] (.int 0) := Arv.set A1103 q1103 S1103 M1103 H1103 G1103 (by first | rfl | exact fits_nar_char ch388 | (rw [← r1103]; exact fits_nar_char ch388)) W1103 1 (by decide) (Nat.le_of_ble_eq_true rfl)
    refine go s1103 ?_
    show Ends p e below _ T1103 (mkF m 109 #[iv i0, iv i1, iv ch387, iv ch388, iv ch389, iv ch390, iv (2 : Int32), iv (((XT.ushr i1 (2 : Int32)) &&& (3 : Int32)) + (1 : Int32)), .unset, .unset, .unset, .unset, .unset, .unset, .unset] [(.ref a1096), (.ref a1093), (.ref a1093)])
    have F1107 := (Exa.wr W1103 (Exa.wr W1100 (Exa.ext E1096 A1093)))
    have F1108 := (Fld.other W1103 (Fld.other W1100 (Fld.ext E1096 (D1093 (Or.inr (hwi hw 29 rfl)) (ty := (.array .byte)) (by decide))) (Or.inl n1097)) (Or.inl n1097))
    have F1109 := (Fld.other W1103 (Fld.other W1100 (Fld.ext E1096 (D1093 (Or.inr (hwi hw 27 rfl)) (ty := .byte) (by decide))) (Or.inl n1097)) (Or.inl n1097))
    refine cInit X1103 hx hZ hown (by rw [hml]; rfl) e1103 (hwi hw 4 rfl) (hwi hw 5 rfl) (hwi hw 2 rfl) (hwi hw 6 rfl) a1093 [(.ref a1096)] [(.ref a1093)] rfl (rm_new1_2 hw a1093 a1096 k1096 ch387 ch388 _ O1106 f1093 n1097 F1107 F1108 F1109 cz SCS hcz V1103 lc387 lc388) (hb hby at_109) rfl (lenOf pd_28 rfl) rfl (by decide) (by decide) (Nat.le_of_ble_eq_true rfl) (by decide) (by decide) ?_
    rintro v1110 T1110 h1110 L1110 X1110 e1110 ⟨b1110, k1110, rfl, N1110, K1110, g1110, Fv1110, Fc1110, V1110⟩
    have N1110a := Fr.app N1103 N1110
    have n1111 : a1093 ≠ b1110 := Nat.ne_of_lt (Nat.lt_of_lt_of_le (F1107.lt) g1110)
    have n1112 : a1096 ≠ b1110 := Nat.ne_of_lt (Nat.lt_of_lt_of_le (V1103.lt) g1110)
    have f1113 : Z.heap.size ≤ b1110 := Nat.le_trans (O1106).1 g1110
    have F1115 := (Safe.wr W1103 F1105 H1101.1 (Safe.wr W1100 SF1096 H1098.1 (Safe.ext E1096 H1094.1 SF1093)))
    have sf1114 : ∀ x ∈ [a1093], Safe Z own_EL s.vm h1103 x := (sfS F1115 sf0)
    have C1114 : CHr Z own_EL s.vm h1103 s.vm h1110 := CHr.keep K1110 sf1114 H1104.1
    have hk := Nat.le_trans hk C1114.2.1
    have H1114 := H1104.trans C1114
    have O1116 : Ext Z.heap h1110 := xk O1106 K1110 (allS f1093 all0)
    show Ends p e below _ T1110 (mkF m 112 #[iv i0, iv i1, iv ch387, iv ch388, iv ch389, iv ch390, iv (2 : Int32), iv (((XT.ushr i1 (2 : Int32)) &&& (3 : Int32)) + (1 : Int32)), .unset, .unset, .unset, .unset, .unset, .unset, .unset] [(.ref a1093)])
    refine go (fun _ => XS.astore X1110.here hx rfl (hb hby at_112) rfl rfl (l' := #[iv i0, iv i1, iv ch387, iv ch388, iv ch389, iv ch390, iv (2 : Int32), iv (((XT.ushr i1 (2 : Int32)) &&& (3 : Int32)) + (1 : Int32)), rv a1093, .unset, .unset, .unset, .unset, .unset, .unset]) rfl) ?_
    refine go (fun _ => XS.goto X1110.here hx rfl (pc0 := 114) (pc' := 142) rfl (hb hby at_114) (by decide) (by decide)) ?_
    refine go (fun _ => XS.iload X1110.here hx rfl (hb hby at_142) rfl) ?_
    show Ends p e below _ T1110 (mkF m 144 #[iv i0, iv i1, iv ch387, iv ch388, iv ch389, iv ch390, iv (2 : Int32), iv (((XT.ushr i1 (2 : Int32)) &&& (3 : Int32)) + (1 : Int32)), rv a1093, .unset, .unset, .unset, .unset, .unset, .unset] [(.int ch390)])
    refine cStat X1110 hx hZ hown (by rw [hml]; rfl) e1110 (hwi hw 30 rfl) (hwi hw 31 rfl) (hwi hw 2 rfl) (hwi hw 32 rfl) [(.int ch390)] [] rfl (rm_cvalueOf hw ch390 _ O1116 lc390 cz SCS hcz) (hb hby at_144) rfl (lenOf pd_29 rfl) (by decide) (by decide) (Nat.le_of_ble_eq_true rfl) (by decide) (by decide) ?_
    rintro v1117 T1117 h1117 L1117 X1117 e1117 ⟨a1117, b1117, k1117, rfl, N1117, K1117, ga1117, gb1117, nn1117, E1117, Fv1117, Fc1117, V1117⟩
    have N1117a := Fr.app N1110a N1117
    have F1118 := (Exa.keep F1107 K1110)
    have n1119 : a1093 ≠ a1117 := Nat.ne_of_lt (Nat.lt_of_lt_of_le (F1118.lt) ga1117)
    have F1120 := (Arv.keep V1103 K1110 (ninS (Ne.symm n1097) nin0))
    have n1121 : a1096 ≠ a1117 := Nat.ne_of_lt (Nat.lt_of_lt_of_le (F1120.lt) ga1117)
    have n1122 : b1110 ≠ a1117 := Nat.ne_of_lt (Nat.lt_of_lt_of_le (V1110.lt) ga1117)
    have f1123 : Z.heap.size ≤ a1117 := Nat.le_trans (O1116).1 ga1117
    have n1124 : a1093 ≠ b1117 := Nat.ne_of_lt (Nat.lt_of_lt_of_le (F1118.lt) gb1117)
    have n1125 : a1096 ≠ b1117 := Nat.ne_of_lt (Nat.lt_of_lt_of_le (F1120.lt) gb1117)
    have n1126 : b1110 ≠ b1117 := Nat.ne_of_lt (Nat.lt_of_lt_of_le (V1110.lt) gb1117)
    have f1127 : Z.heap.size ≤ b1117 := Nat.le_trans (O1116).1 gb1117
    have C1128 : CHr Z own_EL s.vm h1110 s.vm h1117 := CHr.keep K1117 sf0 H1114.1
    have hk := Nat.le_trans hk C1128.2.1
    have H1128 := H1114.trans C1128
    have O1129 : Ext Z.heap h1117 := xk O1116 K1117 all0
    show Ends p e below _ T1117 (mkF m 147 #[iv i0, iv i1, iv ch387, iv ch388, iv ch389, iv ch390, iv (2 : Int32), iv (((XT.ushr i1 (2 : Int32)) &&& (3 : Int32)) + (1 : Int32)), rv a1093, .unset, .unset, .unset, .unset, .unset, .unset] [(.ref a1117)])
    refine go (fun _ => XS.astore X1117.here hx rfl (hb hby at_147) rfl rfl (l' := #[iv i0, iv i1, iv ch387, iv ch388, iv ch389, iv ch390, iv (2 : Int32), iv (((XT.ushr i1 (2 : Int32)) &&& (3 : Int32)) + (1 : Int32)), rv a1093, rv a1117, .unset, .unset, .unset, .unset, .unset]) rfl) ?_
    show Ends p e below _ T1117 (mkF m 149 #[iv i0, iv i1, iv ch387, iv ch388, iv ch389, iv ch390, iv (2 : Int32), iv (((XT.ushr i1 (2 : Int32)) &&& (3 : Int32)) + (1 : Int32)), rv a1093, rv a1117, .unset, .unset, .unset, .unset, .unset] [])
    obtain ⟨T1130, h1130, X1130, e1130, E1130, A1130, D1130, U1130, s1130⟩ := newO X1117 hx hZ hown (hwi hw 0 rfl) (hwi hw 1 rfl) (hwi hw 2 rfl) e1117 (g := (mkF m 149 #[iv i0, iv i1, iv ch387, iv ch388, iv ch389, iv ch390, iv (2 : Int32), iv (((XT.ushr i1 (2 : Int32)) &&& (3 : Int32)) + (1 : Int32)), rv a1093, rv a1117, .unset, .unset, .unset, .unset, .unset] [])) rfl (hb hby at_149) (by decide) (by decide)
    have F1131 := (Exa.keep F1118 K1117)
    have F1132 := (Arv.keep F1120 K1117 nin0)
    have F1133 := (Arv.keep V1110 K1117 nin0)
    obtain ⟨a1130, g1130⟩ : ∃ z : Addr, z = h1117.size := ⟨_, rfl⟩
    have n1134 : a1093 ≠ a1130 := fun q => absurd (F1131.lt) (by rw [q, g1130]; exact Nat.lt_irrefl _)
    have n1135 : a1096 ≠ a1130 := fun q => absurd (F1132.lt) (by rw [q, g1130]; exact Nat.lt_irrefl _)
    have n1136 : a1117 ≠ a1130 := fun q => absurd (E1117.lt) (by rw [q, g1130]; exact Nat.lt_irrefl _)
    have n1137 : b1110 ≠ a1130 := fun q => absurd (F1133.lt) (by rw [q, g1130]; exact Nat.lt_irrefl _)
    have n1138 : b1117 ≠ a1130 := fun q => absurd (V1117.lt) (by rw [q, g1130]; exact Nat.lt_irrefl _)
    have f1130 : Z.heap.size ≤ a1130 := by rw [g1130]; exact (O1129).1
    rw [← g1130] at A1130 D1130 U1130 s1130
    have C1139 : CHr Z own_EL s.vm h1117 s.vm h1130 := CHr.ext E1130 H1128.1
    have hk := Nat.le_trans hk C1139.2.1
    have H1139 := H1128.trans C1139
    have O1140 : Ext Z.heap h1130 := xx O1129 E1130
    have SF1130 : Safe Z own_EL s.vm h1130 a1130 := Safe.ext E1130 H1128.1 (Safe.new (by rw [g1130]; exact Nat.le_refl _))
    refine go s1130 ?_
    show Ends p e below _ T1130 (mkF m 152 #[iv i0, iv i1, iv ch387, iv ch388, iv ch389, iv ch390, iv (2 : Int32), iv (((XT.ushr i1 (2 : Int32)) &&& (3 : Int32)) + (1 : Int32)), rv a1093, rv a1117, .unset, .unset, .unset, .unset, .unset] [(.ref a1130)])
    refine go (fun _ => XS.dup X1130.here hx rfl (hb hby at_152) rfl rfl) ?_
    refine go (fun _ => XT.iconstV X1130.here hx rfl (2 : Int32) (hb hby at_153) (by decide)) ?_
    show Ends p e below _ T1130 (mkF m 154 #[iv i0, iv i1, iv ch387, iv ch388, iv ch389, iv ch390, iv (2 : Int32), iv (((XT.ushr i1 (2 : Int32)) &&& (3 : Int32)) + (1 : Int32)), rv a1093, rv a1117, .unset, .unset, .unset, .unset, .unset] [(.int (2 : Int32)), (.ref a1130), (.ref a1130)])
    obtain ⟨T1141, h1141, k1141, X1141, e1141, E1141, A1141, s1141⟩ := newP X1130 hx hZ (hwi hw 3 rfl) e1130 (g := (mkF m 154 #[iv i0, iv i1, iv ch387, iv ch388, iv ch389, iv ch390, iv (2 : Int32), iv (((XT.ushr i1 (2 : Int32)) &&& (3 : Int32)) + (1 : Int32)), rv a1093, rv a1117, .unset, .unset, .unset, .unset, .unset] [(.int (2 : Int32)), (.ref a1130), (.ref a1130)])) rfl (hb hby at_154) rfl (by decide) (cap := 2) (by decide) (by decide) (by decide) (by decide)
    have F1142 := (Exa.ext E1130 F1131)
    have F1143 := (Arv.ext F1132 E1130)
    have F1144 := (Exa.ext E1130 E1117)
    have F1145 := (Arv.ext F1133 E1130)
    have F1146 := (Arv.ext V1117 E1130)
    obtain ⟨a1141, g1141⟩ : ∃ z : Addr, z = h1130.size := ⟨_, rfl⟩
    have n1147 : a1093 ≠ a1141 := fun q => absurd (F1142.lt) (by rw [q, g1141]; exact Nat.lt_irrefl _)
    have n1148 : a1096 ≠ a1141 := fun q => absurd (F1143.lt) (by rw [q, g1141]; exact Nat.lt_irrefl _)
    have n1149 : a1117 ≠ a1141 := fun q => absurd (F1144.lt) (by rw [q, g1141]; exact Nat.lt_irrefl _)
    have n1150 : a1130 ≠ a1141 := fun q => absurd (A1130.lt) (by rw [q, g1141]; exact Nat.lt_irrefl _)
    have n1151 : b1110 ≠ a1141 := fun q => absurd (F1145.lt) (by rw [q, g1141]; exact Nat.lt_irrefl _)
    have n1152 : b1117 ≠ a1141 := fun q => absurd (F1146.lt) (by rw [q, g1141]; exact Nat.lt_irrefl _)
    have f1141 : Z.heap.size ≤ a1141 := by rw [g1141]; exact (O1140).1
    rw [← g1141] at A1141 s1141
    have C1153 : CHr Z own_EL s.vm h1130 s.vm h1141 := CHr.ext E1141 H1139.1
    have hk := Nat.le_trans hk C1153.2.1
    have H1153 := H1139.trans C1153
    have O1154 : Ext Z.heap h1141 := xx O1140 E1141
    have SF1141 : Safe Z own_EL s.vm h1141 a1141 := Safe.ext E1141 H1139.1 (Safe.new (by rw [g1141]; exact Nat.le_refl _))
    have V1141 : Arv Z h1141 a1141 k1141 .char (2 : Int32) [(.int (0 : Int32)), (.int (0 : Int32))] (.int 0) := Arv.pad (Arv.new A1141 (by decide)) (pad_rep [] _ 2)
    refine go s1141 ?_
    show Ends p e below _ T1141 (mkF m 156 #[iv i0, iv i1, iv ch387, iv ch388, iv ch389, iv ch390, iv (2 : Int32), iv (((XT.ushr i1 (2 : Int32)) &&& (3 : Int32)) + (1 : Int32)), rv a1093, rv a1117, .unset, .unset, .unset, .unset, .unset] [(.ref a1141), (.ref a1130), (.ref a1130)])
    refine go (fun _ => XS.dup X1141.here hx rfl (hb hby at_156) rfl rfl) ?_
    refine go (fun _ => XT.iconstV X1141.here hx rfl (0 : Int32) (hb hby at_157) (by decide)) ?_
    refine go (fun _ => XS.iloadN X1141.here hx rfl (hb hby at_158) rfl) ?_
    show Ends p e below _ T1141 (mkF m 159 #[iv i0, iv i1, iv ch387, iv ch388, iv ch389, iv ch390, iv (2 : Int32), iv (((XT.ushr i1 (2 : Int32)) &&& (3 : Int32)) + (1 : Int32)), rv a1093, rv a1117, .unset, .unset, .unset, .unset, .unset] [(.int ch388), (.int (0 : Int32)), (.ref a1141), (.ref a1141), (.ref a1130), (.ref a1130)])
    obtain ⟨cl1155, A1155, q1155, S1155, M1155, H1155, G1155⟩ := id V1141
    obtain ⟨T1155, h1155, X1155, e1155, W1155, s1155⟩ := stC X1141 hx hZ e1141 A1155 (j := (0 : Int32)) (inb_of S1155 (by decide)) (g := (mkF m 159 #[iv i0, iv i1, iv ch387, iv ch388, iv ch389, iv ch390, iv (2 : Int32), iv (((XT.ushr i1 (2 : Int32)) &&& (3 : Int32)) + (1 : Int32)), rv a1093, rv a1117, .unset, .unset, .unset, .unset, .unset] [(.int ch388), (.int (0 : Int32)), (.ref a1141), (.ref a1141), (.ref a1130), (.ref a1130)])) rfl rfl (hb hby at_159)
    have r1155 : nar .char ch388 = ch388 := nc388
    rw [r1155] at W1155
    have N1155 := Fr.snoc X1155 N1117a f1141
    have C1156 : CHr Z own_EL s.vm h1141 s.vm h1155 := CHr.wr W1155 SF1141 H1153.1
    have hk := Nat.le_trans hk C1156.2.1
    have H1156 := H1153.trans C1156
    have O1157 : Ext Z.heap h1155 := xw O1154 W1155 f1141
    have V1155 : Arv Z h1155 a1141 k1141 .char (2 : Int32) [(.int ch388), (.int (0 : Int32))] (.int 0) := Arv.set A1155 q1155 S1155 M1155 H1155 G1155 (by first | rfl | exact fits_nar_char ch388 | (rw [← r1155]; exact fits_nar_char ch388)) W1155 0 (by decide) (Nat.le_of_ble_eq_true rfl)
    refine go s1155 ?_
    show Ends p e below _ T1155 (mkF m 160 #[iv i0, iv i1, iv ch387, iv ch388, iv ch389, iv ch390, iv (2 : Int32), iv (((XT.ushr i1 (2 : Int32)) &&& (3 : Int32)) + (1 : Int32)), rv a1093, rv a1117, .unset, .unset, .unset, .unset, .unset] [(.ref a1141), (.ref a1130), (.ref a1130)])
    refine go (fun _ => XS.dup X1155.here hx rfl (hb hby at_160) rfl rfl) ?_
    refine go (fun _ => XT.iconstV X1155.here hx rfl (1 : Int32) (hb hby at_161) (by decide)) ?_
    refine go (fun _ => XS.iloadN X1155.here hx rfl (hb hby at_162) rfl) ?_
    show Ends p e below _ T1155 (mkF m 163 #[iv i0, iv i1, iv ch387, iv ch388, iv ch389, iv ch390, iv (2 : Int32), iv (((XT.ushr i1 (2 : Int32)) &&& (3 : Int32)) + (1 : Int32)), rv a1093, rv a1117, .unset, .unset, .unset, .unset, .unset] [(.int ch387), (.int (1 : Int32)), (.ref a1141), (.ref a1141), (.ref a1130), (.ref a1130)])
    obtain ⟨cl1158, A1158, q1158, S1158, M1158, H1158, G1158⟩ := id V1155
    obtain ⟨T1158, h1158, X1158, e1158, W1158, s1158⟩ := stC X1155 hx hZ e1155 A1158 (j := (1 : Int32)) (inb_of S1158 (by decide)) (g := (mkF m 163 #[iv i0, iv i1, iv ch387, iv ch388, iv ch389, iv ch390, iv (2 : Int32), iv (((XT.ushr i1 (2 : Int32)) &&& (3 : Int32)) + (1 : Int32)), rv a1093, rv a1117, .unset, .unset, .unset, .unset, .unset] [(.int ch387), (.int (1 : Int32)), (.ref a1141), (.ref a1141), (.ref a1130), (.ref a1130)])) rfl rfl (hb hby at_163)
    have r1158 : nar .char ch387 = ch387 := nc387
    rw [r1158] at W1158
    have N1158 := Fr.snoc X1158 N1155 f1141
    have F1160 := (Safe.wr W1155 SF1141 H1153.1 SF1141)
    have C1159 : CHr Z own_EL s.vm h1155 s.vm h1158 := CHr.wr W1158 F1160 H1156.1
    have hk := Nat.le_trans hk C1159.2.1
    have H1159 := H1156.trans C1159
    have O1161 : Ext Z.heap h1158 := xw O1157 W1158 f1141
    have V1158 : Arv Z h1158 a1141 k1141 .char (2 : Int32) [(.int ch388), (.int ch387)] (.int 0) := Arv.set A1158 q1158 S1158 M1158 H1158 G1158 (by first | rfl | exact fits_nar_char ch387 | (rw [← r1158]; exact fits_nar_char ch387)) W1158 1 (by decide) (Nat.le_of_ble_eq_true rfl)
    refine go s1158 ?_
    show Ends p e below _ T1158 (mkF m 164 #[iv i0, iv i1, iv ch387, iv ch388, iv ch389, iv ch390, iv (2 : Int32), iv (((XT.ushr i1 (2 : Int32)) &&& (3 : Int32)) + (1 : Int32)), rv a1093, rv a1117, .unset, .unset, .unset, .unset, .unset] [(.ref a1141), (.ref a1130), (.ref a1130)])
    have F1162 := (Exa.wr W1158 (Exa.wr W1155 (Exa.ext E1141 A1130)))
    have F1163 := (Fld.other W1158 (Fld.other W1155 (Fld.ext E1141 (D1130 (Or.inr (hwi hw 29 rfl)) (ty := (.array .byte)) (by decide))) (Or.inl n1150)) (Or.inl n1150))
    have F1164 := (Fld.other W1158 (Fld.other W1155 (Fld.ext E1141 (D1130 (Or.inr (hwi hw 27 rfl)) (ty := .byte) (by decide))) (Or.inl n1150)) (Or.inl n1150))
    refine cInit X1158 hx hZ hown (by rw [hml]; rfl) e1158 (hwi hw 4 rfl) (hwi hw 5 rfl) (hwi hw 2 rfl) (hwi hw 6 rfl) a1130 [(.ref a1141)] [(.ref a1130)] rfl (rm_new1_2 hw a1130 a1141 k1141 ch388 ch387 _ O1161 f1130 n1150 F1162 F1163 F1164 cz SCS hcz V1158 lc388 lc387) (hb hby at_164) rfl (lenOf pd_28 rfl) rfl (by decide) (by decide) (Nat.le_of_ble_eq_true rfl) (by decide) (by decide) ?_
    rintro v1165 T1165 h1165 L1165 X1165 e1165 ⟨b1165, k1165, rfl, N1165, K1165, g1165, Fv1165, Fc1165, V1165⟩
    have N1165a := Fr.app N1158 N1165
    have F1166 := (Exa.wr W1158 (Exa.wr W1155 (Exa.ext E1141 F1142)))
    have n1167 : a1093 ≠ b1165 := Nat.ne_of_lt (Nat.lt_of_lt_of_le (F1166.lt) g1165)
    have F1168 := (Arv.other (Arv.other (Arv.ext F1143 E1141) W1155 n1148) W1158 n1148)
    have n1169 : a1096 ≠ b1165 := Nat.ne_of_lt (Nat.lt_of_lt_of_le (F1168.lt) g1165)
    have F1170 := (Exa.wr W1158 (Exa.wr W1155 (Exa.ext E1141 F1144)))
    have n1171 : a1117 ≠ b1165 := Nat.ne_of_lt (Nat.lt_of_lt_of_le (F1170.lt) g1165)
    have n1172 : a1130 ≠ b1165 := Nat.ne_of_lt (Nat.lt_of_lt_of_le (F1162.lt) g1165)
    have n1173 : a1141 ≠ b1165 := Nat.ne_of_lt (Nat.lt_of_lt_of_le (V1158.lt) g1165)
    have F1174 := (Arv.other (Arv.other (Arv.ext F1145 E1141) W1155 n1151) W1158 n1151)
    have n1175 : b1110 ≠ b1165 := Nat.ne_of_lt (Nat.lt_of_lt_of_le (F1174.lt) g1165)
    have F1176 := (Arv.other (Arv.other (Arv.ext F1146 E1141) W1155 n1152) W1158 n1152)
    have n1177 : b1117 ≠ b1165 := Nat.ne_of_lt (Nat.lt_of_lt_of_le (F1176.lt) g1165)
    have f1178 : Z.heap.size ≤ b1165 := Nat.le_trans (O1161).1 g1165
    have F1180 := (Safe.wr W1158 F1160 H1156.1 (Safe.wr W1155 SF1141 H1153.1 (Safe.ext E1141 H1139.1 SF1130)))
    have sf1179 : ∀ x ∈ [a1130], Safe Z own_EL s.vm h1158 x := (sfS F1180 sf0)
    have C1179 : CHr Z own_EL s.vm h1158 s.vm h1165 := CHr.keep K1165 sf1179 H1159.1
    have hk := Nat.le_trans hk C1179.2.1
    have H1179 := H1159.trans C1179
    have O1181 : Ext Z.heap h1165 := xk O1161 K1165 (allS f1130 all0)
    show Ends p e below _ T1165 (mkF m 167 #[iv i0, iv i1, iv ch387, iv ch388, iv ch389, iv ch390, iv (2 : Int32), iv (((XT.ushr i1 (2 : Int32)) &&& (3 : Int32)) + (1 : Int32)), rv a1093, rv a1117, .unset, .unset, .unset, .unset, .unset] [(.ref a1130)])
    refine go (fun _ => XS.astore X1165.here hx rfl (hb hby at_167) rfl rfl (l' := #[iv i0, iv i1, iv ch387, iv ch388, iv ch389, iv ch390, iv (2 : Int32), iv (((XT.ushr i1 (2 : Int32)) &&& (3 : Int32)) + (1 : Int32)), rv a1093, rv a1117, rv a1130, .unset, .unset, .unset, .unset]) rfl) ?_
    refine go (fun _ => XS.iload X1165.here hx rfl (hb hby at_169) rfl) ?_
    show Ends p e below _ T1165 (mkF m 171 #[iv i0, iv i1, iv ch387, iv ch388, iv ch389, iv ch390, iv (2 : Int32), iv (((XT.ushr i1 (2 : Int32)) &&& (3 : Int32)) + (1 : Int32)), rv a1093, rv a1117, rv a1130, .unset, .unset, .unset, .unset] [(.int ch389)])
    refine cStat X1165 hx hZ hown (by rw [hml]; rfl) e1165 (hwi hw 30 rfl) (hwi hw 31 rfl) (hwi hw 2 rfl) (hwi hw 32 rfl) [(.int ch389)] [] rfl (rm_cvalueOf hw ch389 _ O1181 lc389 cz SCS hcz) (hb hby at_171) rfl (lenOf pd_29 rfl) (by decide) (by decide) (Nat.le_of_ble_eq_true rfl) (by decide) (by decide) ?_
    rintro v1182 T1182 h1182 L1182 X1182 e1182 ⟨a1182, b1182, k1182, rfl, N1182, K1182, ga1182, gb1182, nn1182, E1182, Fv1182, Fc1182, V1182⟩
    have N1182a := Fr.app N1165a N1182
    have F1183 := (Exa.keep F1166 K1165)
    have n1184 : a1093 ≠ a1182 := Nat.ne_of_lt (Nat.lt_of_lt_of_le (F1183.lt) ga1182)
    have F1185 := (Arv.keep F1168 K1165 (ninS n1135 nin0))
    have n1186 : a1096 ≠ a1182 := Nat.ne_of_lt (Nat.lt_of_lt_of_le (F1185.lt) ga1182)
    have F1187 := (Exa.keep F1170 K1165)
    have n1188 : a1117 ≠ a1182 := Nat.ne_of_lt (Nat.lt_of_lt_of_le (F1187.lt) ga1182)
    have F1189 := (Exa.keep F1162 K1165)
    have n1190 : a1130 ≠ a1182 := Nat.ne_of_lt (Nat.lt_of_lt_of_le (F1189.lt) ga1182)
    have F1191 := (Arv.keep V1158 K1165 (ninS (Ne.symm n1150) nin0))
    have n1192 : a1141 ≠ a1182 := Nat.ne_of_lt (Nat.lt_of_lt_of_le (F1191.lt) ga1182)
    have F1193 := (Arv.keep F1174 K1165 (ninS n1137 nin0))
    have n1194 : b1110 ≠ a1182 := Nat.ne_of_lt (Nat.lt_of_lt_of_le (F1193.lt) ga1182)
    have F1195 := (Arv.keep F1176 K1165 (ninS n1138 nin0))
    have n1196 : b1117 ≠ a1182 := Nat.ne_of_lt (Nat.lt_of_lt_of_le (F1195.lt) ga1182)
    have n1197 : b1165 ≠ a1182 := Nat.ne_of_lt (Nat.lt_of_lt_of_le (V1165.lt) ga1182)
    have f1198 : Z.heap.size ≤ a1182 := Nat.le_trans (O1181).1 ga1182
    have n1199 : a1093 ≠ b1182 := Nat.ne_of_lt (Nat.lt_of_lt_of_le (F1183.lt) gb1182)
    have n1200 : a1096 ≠ b1182 := Nat.ne_of_lt (Nat.lt_of_lt_of_le (F1185.lt) gb1182)
    have n1201 : a1117 ≠ b1182 := Nat.ne_of_lt (Nat.lt_of_lt_of_le (F1187.lt) gb1182)
    have n1202 : a1130 ≠ b1182 := Nat.ne_of_lt (Nat.lt_of_lt_of_le (F1189.lt) gb1182)
    have n1203 : a1141 ≠ b1182 := Nat.ne_of_lt (Nat.lt_of_lt_of_le (F1191.lt) gb1182)
    have n1204 : b1110 ≠ b1182 := Nat.ne_of_lt (Nat.lt_of_lt_of_le (F1193.lt) gb1182)
    have n1205 : b1117 ≠ b1182 := Nat.ne_of_lt (Nat.lt_of_lt_of_le (F1195.lt) gb1182)
    have n1206 : b1165 ≠ b1182 := Nat.ne_of_lt (Nat.lt_of_lt_of_le (V1165.lt) gb1182)
    have f1207 : Z.heap.size ≤ b1182 := Nat.le_trans (O1181).1 gb1182
    have C1208 : CHr Z own_EL s.vm h1165 s.vm h1182 := CHr.keep K1182 sf0 H1179.1
    have hk := Nat.le_trans hk C1208.2.1
    have H1208 := H1179.trans C1208
    have O1209 : Ext Z.heap h1182 := xk O1181 K1182 all0
    show Ends p e below _ T1182 (mkF m 174 #[iv i0, iv i1, iv ch387, iv ch388, iv ch389, iv ch390, iv (2 : Int32), iv (((XT.ushr i1 (2 : Int32)) &&& (3 : Int32)) + (1 : Int32)), rv a1093, rv a1117, rv a1130, .unset, .unset, .unset, .unset] [(.ref a1182)])
    refine go (fun _ => XS.astore X1182.here hx rfl (hb hby at_174) rfl rfl (l' := #[iv i0, iv i1, iv ch387, iv ch388, iv ch389, iv ch390, iv (2 : Int32), iv (((XT.ushr i1 (2 : Int32)) &&& (3 : Int32)) + (1 : Int32)), rv a1093, rv a1117, rv a1130, rv a1182, .unset, .unset, .unset]) rfl) ?_
    show Ends p e below _ T1182 (mkF m 176 #[iv i0, iv i1, iv ch387, iv ch388, iv ch389, iv ch390, iv (2 : Int32), iv (((XT.ushr i1 (2 : Int32)) &&& (3 : Int32)) + (1 : Int32)), rv a1093, rv a1117, rv a1130, rv a1182, .unset, .unset, .unset] [])
    obtain ⟨T1210, h1210, X1210, e1210, E1210, A1210, D1210, U1210, s1210⟩ := newO X1182 hx hZ hown (hwi hw 44 rfl) (hwi hw 45 rfl) (hwi hw 46 rfl) e1182 (g := (mkF m 176 #[iv i0, iv i1, iv ch387, iv ch388, iv ch389, iv ch390, iv (2 : Int32), iv (((XT.ushr i1 (2 : Int32)) &&& (3 : Int32)) + (1 : Int32)), rv a1093, rv a1117, rv a1130, rv a1182, .unset, .unset, .unset] [])) rfl (hb hby at_176) (by decide) (by decide)
    have F1211 := (Exa.keep F1183 K1182)
    have F1212 := (Arv.keep F1185 K1182 nin0)
    have F1213 := (Exa.keep F1187 K1182)
    have F1214 := (Exa.keep F1189 K1182)
    have F1215 := (Arv.keep F1191 K1182 nin0)
    have F1216 := (Arv.keep F1193 K1182 nin0)
    have F1217 := (Arv.keep F1195 K1182 nin0)
    have F1218 := (Arv.keep V1165 K1182 nin0)
    obtain ⟨a1210, g1210⟩ : ∃ z : Addr, z = h1182.size := ⟨_, rfl⟩
    have n1219 : a1093 ≠ a1210 := fun q => absurd (F1211.lt) (by rw [q, g1210]; exact Nat.lt_irrefl _)
    have n1220 : a1096 ≠ a1210 := fun q => absurd (F1212.lt) (by rw [q, g1210]; exact Nat.lt_irrefl _)
    have n1221 : a1117 ≠ a1210 := fun q => absurd (F1213.lt) (by rw [q, g1210]; exact Nat.lt_irrefl _)
    have n1222 : a1130 ≠ a1210 := fun q => absurd (F1214.lt) (by rw [q, g1210]; exact Nat.lt_irrefl _)
    have n1223 : a1141 ≠ a1210 := fun q => absurd (F1215.lt) (by rw [q, g1210]; exact Nat.lt_irrefl _)
    have n1224 : a1182 ≠ a1210 := fun q => absurd (E1182.lt) (by rw [q, g1210]; exact Nat.lt_irrefl _)
    have n1225 : b1110 ≠ a1210 := fun q => absurd (F1216.lt) (by rw [q, g1210]; exact Nat.lt_irrefl _)
    have n1226 : b1117 ≠ a1210 := fun q => absurd (F1217.lt) (by rw [q, g1210]; exact Nat.lt_irrefl _)
    have n1227 : b1165 ≠ a1210 := fun q => absurd (F1218.lt) (by rw [q, g1210]; exact Nat.lt_irrefl _)
    have n1228 : b1182 ≠ a1210 := fun q => absurd (V1182.lt) (by rw [q, g1210]; exact Nat.lt_irrefl _)
    have f1210 : Z.heap.size ≤ a1210 := by rw [g1210]; exact (O1209).1
    rw [← g1210] at A1210 D1210 U1210 s1210
    have C1229 : CHr Z own_EL s.vm h1182 s.vm h1210 := CHr.ext E1210 H1208.1
    have hk := Nat.le_trans hk C1229.2.1
    have H1229 := H1208.trans C1229
    have O1230 : Ext Z.heap h1210 := xx O1209 E1210
    have SF1210 : Safe Z own_EL s.vm h1210 a1210 := Safe.ext E1210 H1208.1 (Safe.new (by rw [g1210]; exact Nat.le_refl _))
    refine go s1210 ?_
    show Ends p e below _ T1210 (mkF m 179 #[iv i0, iv i1, iv ch387, iv ch388, iv ch389, iv ch390, iv (2 : Int32), iv (((XT.ushr i1 (2 : Int32)) &&& (3 : Int32)) + (1 : Int32)), rv a1093, rv a1117, rv a1130, rv a1182, .unset, .unset, .unset] [(.ref a1210)])
    refine go (fun _ => XS.dup X1210.here hx rfl (hb hby at_179) rfl rfl) ?_
    show Ends p e below _ T1210 (mkF m 180 #[iv i0, iv i1, iv ch387, iv ch388, iv ch389, iv ch390, iv (2 : Int32), iv (((XT.ushr i1 (2 : Int32)) &&& (3 : Int32)) + (1 : Int32)), rv a1093, rv a1117, rv a1130, rv a1182, .unset, .unset, .unset] [(.ref a1210), (.ref a1210)])
    have F1231 := (D1210 (Or.inl (hwi hw 64 rfl)) (ty := .int) (by decide))
    have F1232 := (D1210 (Or.inl (hwi hw 67 rfl)) (ty := (.array (.object "java/lang/Object"))) (by decide))
    have F1233 := (D1210 (Or.inl (hwi hw 76 rfl)) (ty := .int) (by decide))
    refine cInit X1210 hx hZ hown (by rw [hml]; rfl) e1210 (hwi hw 47 rfl) (hwi hw 48 rfl) (hwi hw 46 rfl) (hwi hw 49 rfl) a1210 [] [(.ref a1210)] rfl (rm_alinit hw a1210 aD kD _ O1230 f1210 A1210 F1231 F1232 F1233 SD VD) (hb hby at_180) rfl (lenOf pd_12 rfl) rfl (by decide) (by decide) (Nat.le_of_ble_eq_true rfl) (by decide) (by decide) ?_
    rintro v1234 T1234 h1234 L1234 X1234 e1234 ⟨rfl, N1234, K1234, F11234, F21234, F31234⟩
    have N1234a := Fr.app N1182a N1234
    have sf1235 : ∀ x ∈ [a1210], Safe Z own_EL s.vm h1210 x := (sfS SF1210 sf0)
    have C1235 : CHr Z own_EL s.vm h1210 s.vm h1234 := CHr.keep K1234 sf1235 H1229.1
    have hk := Nat.le_trans hk C1235.2.1
    have H1235 := H1229.trans C1235
    have O1236 : Ext Z.heap h1234 := xk O1230 K1234 (allS f1210 all0)
    show Ends p e below _ T1234 (mkF m 183 #[iv i0, iv i1, iv ch387, iv ch388, iv ch389, iv ch390, iv (2 : Int32), iv (((XT.ushr i1 (2 : Int32)) &&& (3 : Int32)) + (1 : Int32)), rv a1093, rv a1117, rv a1130, rv a1182, .unset, .unset, .unset] [(.ref a1210)])
    refine go (fun _ => XS.astore X1234.here hx rfl (hb hby at_183) rfl rfl (l' := #[iv i0, iv i1, iv ch387, iv ch388, iv ch389, iv ch390, iv (2 : Int32), iv (((XT.ushr i1 (2 : Int32)) &&& (3 : Int32)) + (1 : Int32)), rv a1093, rv a1117, rv a1130, rv a1182, rv a1210, .unset, .unset]) rfl) ?_
    refine go (fun _ => XS.aload X1234.here hx rfl (hb hby at_185) rfl rfl) ?_
    refine go (fun _ => XS.aload X1234.here hx rfl (hb hby at_187) rfl rfl) ?_
    show Ends p e below _ T1234 (mkF m 189 #[iv i0, iv i1, iv ch387, iv ch388, iv ch389, iv ch390, iv (2 : Int32), iv (((XT.ushr i1 (2 : Int32)) &&& (3 : Int32)) + (1 : Int32)), rv a1093, rv a1117, rv a1130, rv a1182, rv a1210, .unset, .unset] [(.ref a1093), (.ref a1210)])
    have F1237 := (Exa.keep A1210 K1234)
    have F1238 := (Exa.keep (Exa.ext E1210 F1211) K1234)
    refine cVirt X1234 hx hZ hown (by rw [hml]; rfl) e1234 (hwi hw 68 rfl) (hwi hw 69 rfl) (hwi hw 71 rfl) (hwi hw 70 rfl) (hwi hw 46 rfl) (hwi hw 72 rfl) (notFace_of_selects (args := #[]) (mvT hZ (hwi hw 71 rfl))) a1210 F1237 [(.ref a1093)] [] rfl (rm_add_0 hw a1210 a1093 (0 : Int32) aD kD _ O1236 f1210 F1237 F11234 F21234 F31234 SD VD F1238 (Ne.symm n1219)) (hb hby at_189) rfl (lenOf pd_30 rfl) (by decide) (by decide) (Nat.le_of_ble_eq_true rfl) (by decide) (by decide) ?_
    rintro v1239 T1239 h1239 L1239 X1239 e1239 ⟨b1239, k1239, rfl, N1239, K1239, g1239, O1239, F11239, F21239, F31239, V1239⟩
    have N1239a := Fr.app N1234a N1239
    have n1240 : a1093 ≠ b1239 := Nat.ne_of_lt (Nat.lt_of_lt_of_le (F1238.lt) g1239)
    have F1241 := (Arv.keep (Arv.ext F1212 E1210) K1234 (ninS n1220 nin0))
    have n1242 : a1096 ≠ b1239 := Nat.ne_of_lt (Nat.lt_of_lt_of_le (F1241.lt) g1239)
    have F1243 := (Exa.keep (Exa.ext E1210 F1213) K1234)
    have n1244 : a1117 ≠ b1239 := Nat.ne_of_lt (Nat.lt_of_lt_of_le (F1243.lt) g1239)
    have F1245 := (Exa.keep (Exa.ext E1210 F1214) K1234)
    have n1246 : a1130 ≠ b1239 := Nat.ne_of_lt (Nat.lt_of_lt_of_le (F1245.lt) g1239)
    have F1247 := (Arv.keep (Arv.ext F1215 E1210) K1234 (ninS n1223 nin0))
    have n1248 : a1141 ≠ b1239 := Nat.ne_of_lt (Nat.lt_of_lt_of_le (F1247.lt) g1239)
    have F1249 := (Exa.keep (Exa.ext E1210 E1182) K1234)
    have n1250 : a1182 ≠ b1239 := Nat.ne_of_lt (Nat.lt_of_lt_of_le (F1249.lt) g1239)
    have n1251 : a1210 ≠ b1239 := Nat.ne_of_lt (Nat.lt_of_lt_of_le (F1237.lt) g1239)
    have F1252 := (Arv.keep (Arv.ext F1216 E1210) K1234 (ninS n1225 nin0))
    have n1253 : b1110 ≠ b1239 := Nat.ne_of_lt (Nat.lt_of_lt_of_le (F1252.lt) g1239)
    have F1254 := (Arv.keep (Arv.ext F1217 E1210) K1234 (ninS n1226 nin0))
    have n1255 : b1117 ≠ b1239 := Nat.ne_of_lt (Nat.lt_of_lt_of_le (F1254.lt) g1239)
    have F1256 := (Arv.keep (Arv.ext F1218 E1210) K1234 (ninS n1227 nin0))
    have n1257 : b1165 ≠ b1239 := Nat.ne_of_lt (Nat.lt_of_lt_of_le (F1256.lt) g1239)
    have F1258 := (Arv.keep (Arv.ext V1182 E1210) K1234 (ninS n1228 nin0))
    have n1259 : b1182 ≠ b1239 := Nat.ne_of_lt (Nat.lt_of_lt_of_le (F1258.lt) g1239)
    have f1260 : Z.heap.size ≤ b1239 := Nat.le_trans (O1236).1 g1239
    have F1262 := (Safe.keep K1234 sf1235 H1229.1 SF1210)
    have sf1261 : ∀ x ∈ [a1210], Safe Z own_EL s.vm h1234 x := (sfS F1262 sf0)
    have C1261 : CHr Z own_EL s.vm h1234 s.vm h1239 := CHr.keep K1239 sf1261 H1235.1
    have hk := Nat.le_trans hk C1261.2.1
    have H1261 := H1235.trans C1261
    have O1263 : Ext Z.heap h1239 := xk O1236 K1239 (allS f1210 all0)
    show Ends p e below _ T1239 (mkF m 192 #[iv i0, iv i1, iv ch387, iv ch388, iv ch389, iv ch390, iv (2 : Int32), iv (((XT.ushr i1 (2 : Int32)) &&& (3 : Int32)) + (1 : Int32)), rv a1093, rv a1117, rv a1130, rv a1182, rv a1210, .unset, .unset] [(.int (1 : Int32))])
    refine go (fun _ => XT.pop X1239.here hx rfl (hb hby at_192) rfl rfl) ?_
    show Ends p e below _ T1239 (mkF m 193 #[iv i0, iv i1, iv ch387, iv ch388, iv ch389, iv ch390, iv (2 : Int32), iv (((XT.ushr i1 (2 : Int32)) &&& (3 : Int32)) + (1 : Int32)), rv a1093, rv a1117, rv a1130, rv a1182, rv a1210, .unset, .unset] [])
    rcases own_q4 (XT.ushr i1 (2 : Int32)) with q1264 | q1264 | q1264 | q1264
    · rw [q1264]
      show Ends p e below _ T1239 (mkF m 193 #[iv i0, iv i1, iv ch387, iv ch388, iv ch389, iv ch390, iv (2 : Int32), iv (1 : Int32), rv a1093, rv a1117, rv a1130, rv a1182, rv a1210, .unset, .unset] [])
      refine go (fun _ => XS.iload X1239.here hx rfl (hb hby at_193) rfl) ?_
      refine go (fun _ => XT.iconstV X1239.here hx rfl (1 : Int32) (hb hby at_195) (by decide)) ?_
      show Ends p e below _ T1239 (mkF m 196 #[iv i0, iv i1, iv ch387, iv ch388, iv ch389, iv ch390, iv (2 : Int32), iv (1 : Int32), rv a1093, rv a1117, rv a1130, rv a1182, rv a1210, .unset, .unset] [(.int (1 : Int32)), (.int (1 : Int32))])
      refine go (fun _ => XS.icmpYes X1239.here hx rfl (pc0 := 196) (pc' := 207) rfl (hb hby at_196) rfl (XT.ii_le_t ((by decide) : ¬ ((1 : Int32) < (1 : Int32)))) (by decide) (by decide)) ?_
      show Ends p e below _ T1239 (mkF m 207 #[iv i0, iv i1, iv ch387, iv ch388, iv ch389, iv ch390, iv (2 : Int32), iv (1 : Int32), rv a1093, rv a1117, rv a1130, rv a1182, rv a1210, .unset, .unset] [])
      refine go (fun _ => XS.iload X1239.here hx rfl (hb hby at_207) rfl) ?_
      refine go (fun _ => XT.iconstV X1239.here hx rfl (2 : Int32) (hb hby at_209) (by decide)) ?_
      show Ends p e below _ T1239 (mkF m 210 #[iv i0, iv i1, iv ch387, iv ch388, iv ch389, iv ch390, iv (2 : Int32), iv (1 : Int32), rv a1093, rv a1117, rv a1130, rv a1182, rv a1210, .unset, .unset] [(.int (2 : Int32)), (.int (1 : Int32))])
      refine go (fun _ => XS.icmpYes X1239.here hx rfl (pc0 := 210) (pc' := 221) rfl (hb hby at_210) rfl (XT.ii_le_t ((by decide) : ¬ ((2 : Int32) < (1 : Int32)))) (by decide) (by decide)) ?_
      show Ends p e below _ T1239 (mkF m 221 #[iv i0, iv i1, iv ch387, iv ch388, iv ch389, iv ch390, iv (2 : Int32), iv (1 : Int32), rv a1093, rv a1117, rv a1130, rv a1182, rv a1210, .unset, .unset] [])
      refine go (fun _ => XS.iload X1239.here hx rfl (hb hby at_221) rfl) ?_
      refine go (fun _ => XT.iconstV X1239.here hx rfl (3 : Int32) (hb hby at_223) (by decide)) ?_
      show Ends p e below _ T1239 (mkF m 224 #[iv i0, iv i1, iv ch387, iv ch388, iv ch389, iv ch390, iv (2 : Int32), iv (1 : Int32), rv a1093, rv a1117, rv a1130, rv a1182, rv a1210, .unset, .unset] [(.int (3 : Int32)), (.int (1 : Int32))])
      refine go (fun _ => XS.icmpYes X1239.here hx rfl (pc0 := 224) (pc' := 235) rfl (hb hby at_224) rfl (XT.ii_le_t ((by decide) : ¬ ((3 : Int32) < (1 : Int32)))) (by decide) (by decide)) ?_
      show Ends p e below _ T1239 (mkF m 235 #[iv i0, iv i1, iv ch387, iv ch388, iv ch389, iv ch390, iv (2 : Int32), iv (1 : Int32), rv a1093, rv a1117, rv a1130, rv a1182, rv a1210, .unset, .unset] [])
      obtain ⟨T1265, h1265, X1265, e1265, E1265, A1265, D1265, U1265, s1265⟩ := newO X1239 hx hZ hown (hwi hw 99 rfl) (hwi hw 100 rfl) (hwi hw 101 rfl) e1239 (g := (mkF m 235 #[iv i0, iv i1, iv ch387, iv ch388, iv ch389, iv ch390, iv (2 : Int32), iv (1 : Int32), rv a1093, rv a1117, rv a1130, rv a1182, rv a1210, .unset, .unset] [])) rfl (hb hby at_235) (by decide) (by decide)
      have F1266 := (Exa.keep F1238 K1239)
      have F1267 := (Arv.keep F1241 K1239 (ninS n1220 nin0))
      have F1268 := (Exa.keep F1243 K1239)
      have F1269 := (Exa.keep F1245 K1239)
      have F1270 := (Arv.keep F1247 K1239 (ninS n1223 nin0))
      have F1271 := (Exa.keep F1249 K1239)
      have F1272 := (Exa.keep F1237 K1239)
      have F1273 := (Arv.keep F1252 K1239 (ninS n1225 nin0))
      have F1274 := (Arv.keep F1254 K1239 (ninS n1226 nin0))
      have F1275 := (Arv.keep F1256 K1239 (ninS n1227 nin0))
      have F1276 := (Arv.keep F1258 K1239 (ninS n1228 nin0))
      obtain ⟨a1265, g1265⟩ : ∃ z : Addr, z = h1239.size := ⟨_, rfl⟩
      have n1277 : a1093 ≠ a1265 := fun q => absurd (F1266.lt) (by rw [q, g1265]; exact Nat.lt_irrefl _)
      have n1278 : a1096 ≠ a1265 := fun q => absurd (F1267.lt) (by rw [q, g1265]; exact Nat.lt_irrefl _)
      have n1279 : a1117 ≠ a1265 := fun q => absurd (F1268.lt) (by rw [q, g1265]; exact Nat.lt_irrefl _)
      have n1280 : a1130 ≠ a1265 := fun q => absurd (F1269.lt) (by rw [q, g1265]; exact Nat.lt_irrefl _)
      have n1281 : a1141 ≠ a1265 := fun q => absurd (F1270.lt) (by rw [q, g1265]; exact Nat.lt_irrefl _)
      have n1282 : a1182 ≠ a1265 := fun q => absurd (F1271.lt) (by rw [q, g1265]; exact Nat.lt_irrefl _)
      have n1283 : a1210 ≠ a1265 := fun q => absurd (F1272.lt) (by rw [q, g1265]; exact Nat.lt_irrefl _)
      have n1284 : b1110 ≠ a1265 := fun q => absurd (F1273.lt) (by rw [q, g1265]; exact Nat.lt_irrefl _)
      have n1285 : b1117 ≠ a1265 := fun q => absurd (F1274.lt) (by rw [q, g1265]; exact Nat.lt_irrefl _)
      have n1286 : b1165 ≠ a1265 := fun q => absurd (F1275.lt) (by rw [q, g1265]; exact Nat.lt_irrefl _)
      have n1287 : b1182 ≠ a1265 := fun q => absurd (F1276.lt) (by rw [q, g1265]; exact Nat.lt_irrefl _)
      have n1288 : b1239 ≠ a1265 := fun q => absurd (V1239.lt) (by rw [q, g1265]; exact Nat.lt_irrefl _)
      have f1265 : Z.heap.size ≤ a1265 := by rw [g1265]; exact (O1263).1
      rw [← g1265] at A1265 D1265 U1265 s1265
      have C1289 : CHr Z own_EL s.vm h1239 s.vm h1265 := CHr.ext E1265 H1261.1
      have hk := Nat.le_trans hk C1289.2.1
      have H1289 := H1261.trans C1289
      have O1290 : Ext Z.heap h1265 := xx O1263 E1265
      have SF1265 : Safe Z own_EL s.vm h1265 a1265 := Safe.ext E1265 H1261.1 (Safe.new (by rw [g1265]; exact Nat.le_refl _))
      refine go s1265 ?_
      show Ends p e below _ T1265 (mkF m 238 #[iv i0, iv i1, iv ch387, iv ch388, iv ch389, iv ch390, iv (2 : Int32), iv (1 : Int32), rv a1093, rv a1117, rv a1130, rv a1182, rv a1210, .unset, .unset] [(.ref a1265)])
      refine go (fun _ => XS.dup X1265.here hx rfl (hb hby at_238) rfl rfl) ?_
      refine go (fun _ => XS.aload X1265.here hx rfl (hb hby at_239) rfl rfl) ?_
      show Ends p e below _ T1265 (mkF m 241 #[iv i0, iv i1, iv ch387, iv ch388, iv ch389, iv ch390, iv (2 : Int32), iv (1 : Int32), rv a1093, rv a1117, rv a1130, rv a1182, rv a1210, .unset, .unset] [(.ref a1210), (.ref a1265), (.ref a1265)])
      have F1291 := (D1265 (Or.inr (hwi hw 107 rfl)) (ty := (.object "java/util/List")) (by decide))
      refine cInit X1265 hx hZ hown (by rw [hml]; rfl) e1265 (hwi hw 102 rfl) (hwi hw 103 rfl) (hwi hw 101 rfl) (hwi hw 104 rfl) a1265 [(.ref a1210)] [(.ref a1265)] rfl (rm_pg hw a1265 a1210 _ O1290 f1265 A1265 F1291  ) (hb hby at_241) rfl (lenOf pd_31 rfl) rfl (by decide) (by decide) (Nat.le_of_ble_eq_true rfl) (by decide) (by decide) ?_
      rintro v1292 T1292 h1292 L1292 X1292 e1292 ⟨rfl, N1292, K1292, F1292_0⟩
      have N1292a := Fr.app N1239a N1292
      have sf1293 : ∀ x ∈ [a1265], Safe Z own_EL s.vm h1265 x := (sfS SF1265 sf0)
      have C1293 : CHr Z own_EL s.vm h1265 s.vm h1292 := CHr.keep K1292 sf1293 H1289.1
      have hk := Nat.le_trans hk C1293.2.1
      have H1293 := H1289.trans C1293
      have O1294 : Ext Z.heap h1292 := xk O1290 K1292 (allS f1265 all0)
      show Ends p e below _ T1292 (mkF m 244 #[iv i0, iv i1, iv ch387, iv ch388, iv ch389, iv ch390, iv (2 : Int32), iv (1 : Int32), rv a1093, rv a1117, rv a1130, rv a1182, rv a1210, .unset, .unset] [(.ref a1265)])
      refine go (fun _ => XS.astore X1292.here hx rfl (hb hby at_244) rfl rfl (l' := #[iv i0, iv i1, iv ch387, iv ch388, iv ch389, iv ch390, iv (2 : Int32), iv (1 : Int32), rv a1093, rv a1117, rv a1130, rv a1182, rv a1210, rv a1265, .unset]) rfl) ?_
      refine go (fun _ => XS.aload X1292.here hx rfl (hb hby at_246) rfl rfl) ?_
      show Ends p e below _ T1292 (mkF m 248 #[iv i0, iv i1, iv ch387, iv ch388, iv ch389, iv ch390, iv (2 : Int32), iv (1 : Int32), rv a1093, rv a1117, rv a1130, rv a1182, rv a1210, rv a1265, .unset] [(.ref a1265)])
      have F1295 := (Exa.keep (Exa.ext E1265 F1266) K1292)
      have F1296 := (Exa.keep (Exa.ext E1265 F1272) K1292)
      have F1297 := (Fld.keep (Fld.ext E1265 F21239) K1292 (ninS n1283 nin0))
      have F1298 := (Fld.keep (Fld.ext E1265 F31239) K1292 (ninS n1283 nin0))
      have F1299 := (Arv.keep (Arv.ext V1239 E1265) K1292 (ninS n1288 nin0))
      have F1301 := (Exa.keep A1265 K1292)
      refine cVirt X1292 hx hZ hown (by rw [hml]; rfl) e1292 (hwi hw 108 rfl) (hwi hw 109 rfl) (hwi hw 111 rfl) (hwi hw 110 rfl) (hwi hw 101 rfl) (hwi hw 112 rfl) (notFace_of_selects (args := #[]) (mvT hZ (hwi hw 111 rfl))) a1265 F1301 [] [] rfl (rm_name hw a1265 a1210 b1239 a1093 k1239 (1 : Int32) _ _ F1292_0 F1295 F1296 F1297 F1298 F1299 (by decide)) (hb hby at_248) rfl (lenOf pd_32 rfl) (by decide) (by decide) (Nat.le_of_ble_eq_true rfl) (by decide) (by decide) ?_
      rintro v1300 T1300 h1300 L1300 X1300 e1300 ⟨rfl, N1300, rfl⟩
      have N1300a := Fr.app N1292a N1300
      show Ends p e below _ T1300 (mkF m 251 #[iv i0, iv i1, iv ch387, iv ch388, iv ch389, iv ch390, iv (2 : Int32), iv (1 : Int32), rv a1093, rv a1117, rv a1130, rv a1182, rv a1210, rv a1265, .unset] [(.ref a1093)])
      refine go (fun _ => XS.astore X1300.here hx rfl (hb hby at_251) rfl rfl (l' := #[iv i0, iv i1, iv ch387, iv ch388, iv ch389, iv ch390, iv (2 : Int32), iv (1 : Int32), rv a1093, rv a1117, rv a1130, rv a1182, rv a1210, rv a1265, rv a1093]) rfl) ?_
      refine go (fun _ => XS.aload X1300.here hx rfl (hb hby at_253) rfl rfl) ?_
      show Ends p e below _ T1300 (mkF m 255 #[iv i0, iv i1, iv ch387, iv ch388, iv ch389, iv ch390, iv (2 : Int32), iv (1 : Int32), rv a1093, rv a1117, rv a1130, rv a1182, rv a1210, rv a1265, rv a1093] [(.ref a1093)])
      refine go (fun _ => XS.ifnullNo X1300.here hx rfl (hb hby at_255) rfl) ?_
      show Ends p e below _ T1300 (mkF m 258 #[iv i0, iv i1, iv ch387, iv ch388, iv ch389, iv ch390, iv (2 : Int32), iv (1 : Int32), rv a1093, rv a1117, rv a1130, rv a1182, rv a1210, rv a1265, rv a1093] [])
      refine go (fun _ => XS.aload X1300.here hx rfl (hb hby at_258) rfl rfl) ?_
      show Ends p e below _ T1300 (mkF m 260 #[iv i0, iv i1, iv ch387, iv ch388, iv ch389, iv ch390, iv (2 : Int32), iv (1 : Int32), rv a1093, rv a1117, rv a1130, rv a1182, rv a1210, rv a1265, rv a1093] [(.ref a1093)])
      have F1302 := (Fld.keep (Fld.ext E1265 (Fld.keep (Fld.keep (Fld.ext E1210 (Fld.keep (Fld.keep (Fld.other W1158 (Fld.other W1155 (Fld.ext E1141 (Fld.ext E1130 (Fld.keep Fc1110 K1117 nin0))) (Or.inl n1147)) (Or.inl n1147)) K1165 (ninS n1134 nin0)) K1182 nin0)) K1234 (ninS n1219 nin0)) K1239 (ninS n1219 nin0))) K1292 (ninS n1277 nin0))
      have F1303 := (Fld.keep (Fld.ext E1265 (Fld.keep (Fld.keep (Fld.ext E1210 (Fld.keep (Fld.keep (Fld.other W1158 (Fld.other W1155 (Fld.ext E1141 (Fld.ext E1130 (Fld.keep Fv1110 K1117 nin0))) (Or.inl n1147)) (Or.inl n1147)) K1165 (ninS n1134 nin0)) K1182 nin0)) K1234 (ninS n1219 nin0)) K1239 (ninS n1219 nin0))) K1292 (ninS n1277 nin0))
      have F1304 := (Arv.keep (Arv.ext F1273 E1265) K1292 (ninS n1284 nin0))
      refine cVirt X1300 hx hZ hown (by rw [hml]; rfl) e1300 (hwi hw 136 rfl) (hwi hw 137 rfl) (hwi hw 139 rfl) (hwi hw 138 rfl) (hwi hw 2 rfl) (hwi hw 140 rfl) (notFace_of_selects (args := #[]) (mvT hZ (hwi hw 139 rfl))) a1093 F1295 [] [] rfl (rm_length hw a1093 b1110 k1110 (2 : Int32) _ _ O1294 cz SCS hcz F1302 F1295 F1303 F1304) (hb hby at_260) rfl (lenOf pd_33 rfl) (by decide) (by decide) (Nat.le_of_ble_eq_true rfl) (by decide) (by decide) ?_
      rintro v1305 T1305 h1305 L1305 X1305 e1305 ⟨rfl, N1305, rfl⟩
      have N1305a := Fr.app N1300a N1305
      show Ends p e below _ T1305 (mkF m 263 #[iv i0, iv i1, iv ch387, iv ch388, iv ch389, iv ch390, iv (2 : Int32), iv (1 : Int32), rv a1093, rv a1117, rv a1130, rv a1182, rv a1210, rv a1265, rv a1093] [(.int (2 : Int32))])
      refine go (fun _ => XS.iload X1305.here hx rfl (hb hby at_263) rfl) ?_
      show Ends p e below _ T1305 (mkF m 265 #[iv i0, iv i1, iv ch387, iv ch388, iv ch389, iv ch390, iv (2 : Int32), iv (1 : Int32), rv a1093, rv a1117, rv a1130, rv a1182, rv a1210, rv a1265, rv a1093] [(.int (2 : Int32)), (.int (2 : Int32))])
      refine go (fun _ => XS.icmpYes X1305.here hx rfl (pc0 := 265) (pc' := 270) rfl (hb hby at_265) rfl (XT.ii_eq_t ((by decide) : (2 : Int32) = (2 : Int32))) (by decide) (by decide)) ?_
      show Ends p e below _ T1305 (mkF m 270 #[iv i0, iv i1, iv ch387, iv ch388, iv ch389, iv ch390, iv (2 : Int32), iv (1 : Int32), rv a1093, rv a1117, rv a1130, rv a1182, rv a1210, rv a1265, rv a1093] [])
      refine go (fun _ => XS.iload X1305.here hx rfl (hb hby at_270) rfl) ?_
      refine go (fun _ => XT.iconstV X1305.here hx rfl (1 : Int32) (hb hby at_272) (by decide)) ?_
      show Ends p e below _ T1305 (mkF m 273 #[iv i0, iv i1, iv ch387, iv ch388, iv ch389, iv ch390, iv (2 : Int32), iv (1 : Int32), rv a1093, rv a1117, rv a1130, rv a1182, rv a1210, rv a1265, rv a1093] [(.int (1 : Int32)), (.int (2 : Int32))])
      refine go (fun _ => XS.icmpNo X1305.here hx rfl (hb hby at_273) rfl (XT.ii_lt_f ((by decide) : ¬ ((2 : Int32) < (1 : Int32))))) ?_
      show Ends p e below _ T1305 (mkF m 276 #[iv i0, iv i1, iv ch387, iv ch388, iv ch389, iv ch390, iv (2 : Int32), iv (1 : Int32), rv a1093, rv a1117, rv a1130, rv a1182, rv a1210, rv a1265, rv a1093] [])
      refine go (fun _ => XS.aload X1305.here hx rfl (hb hby at_276) rfl rfl) ?_
      refine go (fun _ => XT.iconstV X1305.here hx rfl (0 : Int32) (hb hby at_278) (by decide)) ?_
      show Ends p e below _ T1305 (mkF m 279 #[iv i0, iv i1, iv ch387, iv ch388, iv ch389, iv ch390, iv (2 : Int32), iv (1 : Int32), rv a1093, rv a1117, rv a1130, rv a1182, rv a1210, rv a1265, rv a1093] [(.int (0 : Int32)), (.ref a1093)])
      refine cVirt X1305 hx hZ hown (by rw [hml]; rfl) e1305 (hwi hw 146 rfl) (hwi hw 147 rfl) (hwi hw 149 rfl) (hwi hw 148 rfl) (hwi hw 2 rfl) (hwi hw 150 rfl) (notFace_of_selects (args := #[]) (mvT hZ (hwi hw 149 rfl))) a1093 F1295 [(.int (0 : Int32))] [] rfl (rm_sc_0_2 hw a1093 b1110 k1110 ch387 ch388 wS _ O1294 cz SCS hcz hsf SS F1302 F1295 F1303 F1304 lc387 gc387) (hb hby at_279) rfl (lenOf pd_34 rfl) (by decide) (by decide) (Nat.le_of_ble_eq_true rfl) (by decide) (by decide) ?_
      rintro v1306 T1306 h1306 L1306 X1306 e1306 ⟨rfl, N1306, rfl⟩
      have N1306a := Fr.app N1305a N1306
      show Ends p e below _ T1306 (mkF m 282 #[iv i0, iv i1, iv ch387, iv ch388, iv ch389, iv ch390, iv (2 : Int32), iv (1 : Int32), rv a1093, rv a1117, rv a1130, rv a1182, rv a1210, rv a1265, rv a1093] [(.int ch387)])
      refine go (fun _ => XS.iloadN X1306.here hx rfl (hb hby at_282) rfl) ?_
      show Ends p e below _ T1306 (mkF m 283 #[iv i0, iv i1, iv ch387, iv ch388, iv ch389, iv ch390, iv (2 : Int32), iv (1 : Int32), rv a1093, rv a1117, rv a1130, rv a1182, rv a1210, rv a1265, rv a1093] [(.int ch387), (.int ch387)])
      refine go (fun _ => XS.icmpYes X1306.here hx rfl (pc0 := 283) (pc' := 288) rfl (hb hby at_283) rfl (XT.ii_eq_t (rfl : ch387 = ch387)) (by decide) (by decide)) ?_
      show Ends p e below _ T1306 (mkF m 288 #[iv i0, iv i1, iv ch387, iv ch388, iv ch389, iv ch390, iv (2 : Int32), iv (1 : Int32), rv a1093, rv a1117, rv a1130, rv a1182, rv a1210, rv a1265, rv a1093] [])
      refine go (fun _ => XS.iload X1306.here hx rfl (hb hby at_288) rfl) ?_
      refine go (fun _ => XT.iconstV X1306.here hx rfl (2 : Int32) (hb hby at_290) (by decide)) ?_
      show Ends p e below _ T1306 (mkF m 291 #[iv i0, iv i1, iv ch387, iv ch388, iv ch389, iv ch390, iv (2 : Int32), iv (1 : Int32), rv a1093, rv a1117, rv a1130, rv a1182, rv a1210, rv a1265, rv a1093] [(.int (2 : Int32)), (.int (2 : Int32))])
      refine go (fun _ => XS.icmpNo X1306.here hx rfl (hb hby at_291) rfl (XT.ii_lt_f ((by decide) : ¬ ((2 : Int32) < (2 : Int32))))) ?_
      show Ends p e below _ T1306 (mkF m 294 #[iv i0, iv i1, iv ch387, iv ch388, iv ch389, iv ch390, iv (2 : Int32), iv (1 : Int32), rv a1093, rv a1117, rv a1130, rv a1182, rv a1210, rv a1265, rv a1093] [])
      refine go (fun _ => XS.aload X1306.here hx rfl (hb hby at_294) rfl rfl) ?_
      refine go (fun _ => XT.iconstV X1306.here hx rfl (1 : Int32) (hb hby at_296) (by decide)) ?_
      show Ends p e below _ T1306 (mkF m 297 #[iv i0, iv i1, iv ch387, iv ch388, iv ch389, iv ch390, iv (2 : Int32), iv (1 : Int32), rv a1093, rv a1117, rv a1130, rv a1182, rv a1210, rv a1265, rv a1093] [(.int (1 : Int32)), (.ref a1093)])
      refine cVirt X1306 hx hZ hown (by rw [hml]; rfl) e1306 (hwi hw 146 rfl) (hwi hw 147 rfl) (hwi hw 149 rfl) (hwi hw 148 rfl) (hwi hw 2 rfl) (hwi hw 150 rfl) (notFace_of_selects (args := #[]) (mvT hZ (hwi hw 149 rfl))) a1093 F1295 [(.int (1 : Int32))] [] rfl (rm_sc_1_2 hw a1093 b1110 k1110 ch387 ch388 wS _ O1294 cz SCS hcz hsf SS F1302 F1295 F1303 F1304 lc388 gc388) (hb hby at_297) rfl (lenOf pd_34 rfl) (by decide) (by decide) (Nat.le_of_ble_eq_true rfl) (by decide) (by decide) ?_
      rintro v1307 T1307 h1307 L1307 X1307 e1307 ⟨rfl, N1307, rfl⟩
      have N1307a := Fr.app N1306a N1307
      show Ends p e below _ T1307 (mkF m 300 #[iv i0, iv i1, iv ch387, iv ch388, iv ch389, iv ch390, iv (2 : Int32), iv (1 : Int32), rv a1093, rv a1117, rv a1130, rv a1182, rv a1210, rv a1265, rv a1093] [(.int ch388)])
      refine go (fun _ => XS.iloadN X1307.here hx rfl (hb hby at_300) rfl) ?_
      show Ends p e below _ T1307 (mkF m 301 #[iv i0, iv i1, iv ch387, iv ch388, iv ch389, iv ch390, iv (2 : Int32), iv (1 : Int32), rv a1093, rv a1117, rv a1130, rv a1182, rv a1210, rv a1265, rv a1093] [(.int ch388), (.int ch388)])
      refine go (fun _ => XS.icmpYes X1307.here hx rfl (pc0 := 301) (pc' := 306) rfl (hb hby at_301) rfl (XT.ii_eq_t (rfl : ch388 = ch388)) (by decide) (by decide)) ?_
      show Ends p e below _ T1307 (mkF m 306 #[iv i0, iv i1, iv ch387, iv ch388, iv ch389, iv ch390, iv (2 : Int32), iv (1 : Int32), rv a1093, rv a1117, rv a1130, rv a1182, rv a1210, rv a1265, rv a1093] [])
      refine go (fun _ => XS.iload X1307.here hx rfl (hb hby at_306) rfl) ?_
      refine go (fun _ => XT.iconstV X1307.here hx rfl (3 : Int32) (hb hby at_308) (by decide)) ?_
      show Ends p e below _ T1307 (mkF m 309 #[iv i0, iv i1, iv ch387, iv ch388, iv ch389, iv ch390, iv (2 : Int32), iv (1 : Int32), rv a1093, rv a1117, rv a1130, rv a1182, rv a1210, rv a1265, rv a1093] [(.int (3 : Int32)), (.int (2 : Int32))])
      refine go (fun _ => XS.icmpYes X1307.here hx rfl (pc0 := 309) (pc' := 325) rfl (hb hby at_309) rfl (XT.ii_lt_t ((by decide) : (2 : Int32) < (3 : Int32))) (by decide) (by decide)) ?_
      show Ends p e below _ T1307 (mkF m 325 #[iv i0, iv i1, iv ch387, iv ch388, iv ch389, iv ch390, iv (2 : Int32), iv (1 : Int32), rv a1093, rv a1117, rv a1130, rv a1182, rv a1210, rv a1265, rv a1093] [])
      refine go (fun _ => XS.aload X1307.here hx rfl (hb hby at_325) rfl rfl) ?_
      show Ends p e below _ T1307 (mkF m 327 #[iv i0, iv i1, iv ch387, iv ch388, iv ch389, iv ch390, iv (2 : Int32), iv (1 : Int32), rv a1093, rv a1117, rv a1130, rv a1182, rv a1210, rv a1265, rv a1093] [(.ref a1210)])
      refine cVirt X1307 hx hZ hown (by rw [hml]; rfl) e1307 (hwi hw 164 rfl) (hwi hw 165 rfl) (hwi hw 167 rfl) (hwi hw 166 rfl) (hwi hw 46 rfl) (hwi hw 168 rfl) (notFace_of_selects (args := #[]) (mvT hZ (hwi hw 167 rfl))) a1210 F1296 [] [] rfl (rm_size hw a1210 (1 : Int32) _ F1298) (hb hby at_327) rfl (lenOf pd_33 rfl) (by decide) (by decide) (Nat.le_of_ble_eq_true rfl) (by decide) (by decide) ?_
      rintro v1308 T1308 h1308 L1308 X1308 e1308 ⟨rfl, N1308, rfl⟩
      have N1308a := Fr.app N1307a N1308
      show Ends p e below _ T1308 (mkF m 330 #[iv i0, iv i1, iv ch387, iv ch388, iv ch389, iv ch390, iv (2 : Int32), iv (1 : Int32), rv a1093, rv a1117, rv a1130, rv a1182, rv a1210, rv a1265, rv a1093] [(.int (1 : Int32))])
      refine go (fun _ => XS.iload X1308.here hx rfl (hb hby at_330) rfl) ?_
      show Ends p e below _ T1308 (mkF m 332 #[iv i0, iv i1, iv ch387, iv ch388, iv ch389, iv ch390, iv (2 : Int32), iv (1 : Int32), rv a1093, rv a1117, rv a1130, rv a1182, rv a1210, rv a1265, rv a1093] [(.int (1 : Int32)), (.int (1 : Int32))])
      refine go (fun _ => XS.icmpNo X1308.here hx rfl (hb hby at_332) rfl (XT.ii_ne_f ((by decide) : (1 : Int32) = (1 : Int32)))) ?_
      show Ends p e below _ T1308 (mkF m 335 #[iv i0, iv i1, iv ch387, iv ch388, iv ch389, iv ch390, iv (2 : Int32), iv (1 : Int32), rv a1093, rv a1117, rv a1130, rv a1182, rv a1210, rv a1265, rv a1093] [])
      refine go (fun _ => XT.iconstV X1308.here hx rfl (1 : Int32) (hb hby at_335) (by decide)) ?_
      refine go (fun _ => XS.goto X1308.here hx rfl (pc0 := 336) (pc' := 340) rfl (hb hby at_336) (by decide) (by decide)) ?_
      show Ends p e below _ T1308 (mkF m 340 #[iv i0, iv i1, iv ch387, iv ch388, iv ch389, iv ch390, iv (2 : Int32), iv (1 : Int32), rv a1093, rv a1117, rv a1130, rv a1182, rv a1210, rv a1265, rv a1093] [(.int (1 : Int32))])
      exact endN X1308 hx hret (by simp) (hb hby at_340) (lvW X1308 hlk hZ (own_EW hw) hs0 hS hk H1293 e1308 (fun h => by rw [hret] at h; cases h) ⟨rfl, N1308a⟩ (by decide) (by decide))
    · rw [q1264]
      show Ends p e below _ T1239 (mkF m 193 #[iv i0, iv i1, iv ch387, iv ch388, iv ch389, iv ch390, iv (2 : Int32), iv (2 : Int32), rv a1093, rv a1117, rv a1130, rv a1182, rv a1210, .unset, .unset] [])
      refine go (fun _ => XS.iload X1239.here hx rfl (hb hby at_193) rfl) ?_
      refine go (fun _ => XT.iconstV X1239.here hx rfl (1 : Int32) (hb hby at_195) (by decide)) ?_
      show Ends p e below _ T1239 (mkF m 196 #[iv i0, iv i1, iv ch387, iv ch388, iv ch389, iv ch390, iv (2 : Int32), iv (2 : Int32), rv a1093, rv a1117, rv a1130, rv a1182, rv a1210, .unset, .unset] [(.int (1 : Int32)), (.int (2 : Int32))])
      refine go (fun _ => XS.icmpNo X1239.here hx rfl (hb hby at_196) rfl (XT.ii_le_f ((by decide) : (1 : Int32) < (2 : Int32)))) ?_
      show Ends p e below _ T1239 (mkF m 199 #[iv i0, iv i1, iv ch387, iv ch388, iv ch389, iv ch390, iv (2 : Int32), iv (2 : Int32), rv a1093, rv a1117, rv a1130, rv a1182, rv a1210, .unset, .unset] [])
      refine go (fun _ => XS.aload X1239.here hx rfl (hb hby at_199) rfl rfl) ?_
      refine go (fun _ => XS.aload X1239.here hx rfl (hb hby at_201) rfl rfl) ?_
      show Ends p e below _ T1239 (mkF m 203 #[iv i0, iv i1, iv ch387, iv ch388, iv ch389, iv ch390, iv (2 : Int32), iv (2 : Int32), rv a1093, rv a1117, rv a1130, rv a1182, rv a1210, .unset, .unset] [(.ref a1117), (.ref a1210)])
      have F1309 := (Exa.keep F1237 K1239)
      have F1310 := (Exa.keep F1243 K1239)
      refine cVirt X1239 hx hZ hown (by rw [hml]; rfl) e1239 (hwi hw 68 rfl) (hwi hw 69 rfl) (hwi hw 71 rfl) (hwi hw 70 rfl) (hwi hw 46 rfl) (hwi hw 72 rfl) (notFace_of_selects (args := #[]) (mvT hZ (hwi hw 71 rfl))) a1210 F1309 [(.ref a1117)] [] rfl (rm_add_1 hw a1210 a1117 b1239 k1239 (1 : Int32) a1093 _ O1263 f1210 F1309 F11239 F21239 F31239 f1260 n1251 O1239 V1239 F1310 (Ne.symm n1221) (Ne.symm n1244)) (hb hby at_203) rfl (lenOf pd_30 rfl) (by decide) (by decide) (Nat.le_of_ble_eq_true rfl) (by decide) (by decide) ?_
      rintro v1311 T1311 h1311 L1311 X1311 e1311 ⟨rfl, N1311, K1311, F11311, F21311, F31311, V1311⟩
      have N1311a := Fr.app N1239a N1311
      have F1313 := (Safe.keep K1239 sf1261 H1235.1 F1262)
      have sf1312 : ∀ x ∈ [a1210, b1239], Safe Z own_EL s.vm h1239 x := (sfS F1313 (sfS (Safe.arv hZ.alike V1239 (by decide)) sf0))
      have C1312 : CHr Z own_EL s.vm h1239 s.vm h1311 := CHr.keep K1311 sf1312 H1261.1
      have hk := Nat.le_trans hk C1312.2.1
      have H1312 := H1261.trans C1312
      have O1314 : Ext Z.heap h1311 := xk O1263 K1311 (allS f1210 (allS f1260 all0))
      show Ends p e below _ T1311 (mkF m 206 #[iv i0, iv i1, iv ch387, iv ch388, iv ch389, iv ch390, iv (2 : Int32), iv (2 : Int32), rv a1093, rv a1117, rv a1130, rv a1182, rv a1210, .unset, .unset] [(.int (1 : Int32))])
      refine go (fun _ => XT.pop X1311.here hx rfl (hb hby at_206) rfl rfl) ?_
      refine go (fun _ => XS.iload X1311.here hx rfl (hb hby at_207) rfl) ?_
      refine go (fun _ => XT.iconstV X1311.here hx rfl (2 : Int32) (hb hby at_209) (by decide)) ?_
      show Ends p e below _ T1311 (mkF m 210 #[iv i0, iv i1, iv ch387, iv ch388, iv ch389, iv ch390, iv (2 : Int32), iv (2 : Int32), rv a1093, rv a1117, rv a1130, rv a1182, rv a1210, .unset, .unset] [(.int (2 : Int32)), (.int (2 : Int32))])
      refine go (fun _ => XS.icmpYes X1311.here hx rfl (pc0 := 210) (pc' := 221) rfl (hb hby at_210) rfl (XT.ii_le_t ((by decide) : ¬ ((2 : Int32) < (2 : Int32)))) (by decide) (by decide)) ?_
      show Ends p e below _ T1311 (mkF m 221 #[iv i0, iv i1, iv ch387, iv ch388, iv ch389, iv ch390, iv (2 : Int32), iv (2 : Int32), rv a1093, rv a1117, rv a1130, rv a1182, rv a1210, .unset, .unset] [])
      refine go (fun _ => XS.iload X1311.here hx rfl (hb hby at_221) rfl) ?_
      refine go (fun _ => XT.iconstV X1311.here hx rfl (3 : Int32) (hb hby at_223) (by decide)) ?_
      show Ends p e below _ T1311 (mkF m 224 #[iv i0, iv i1, iv ch387, iv ch388, iv ch389, iv ch390, iv (2 : Int32), iv (2 : Int32), rv a1093, rv a1117, rv a1130, rv a1182, rv a1210, .unset, .unset] [(.int (3 : Int32)), (.int (2 : Int32))])
      refine go (fun _ => XS.icmpYes X1311.here hx rfl (pc0 := 224) (pc' := 235) rfl (hb hby at_224) rfl (XT.ii_le_t ((by decide) : ¬ ((3 : Int32) < (2 : Int32)))) (by decide) (by decide)) ?_
      show Ends p e below _ T1311 (mkF m 235 #[iv i0, iv i1, iv ch387, iv ch388, iv ch389, iv ch390, iv (2 : Int32), iv (2 : Int32), rv a1093, rv a1117, rv a1130, rv a1182, rv a1210, .unset, .unset] [])
      obtain ⟨T1315, h1315, X1315, e1315, E1315, A1315, D1315, U1315, s1315⟩ := newO X1311 hx hZ hown (hwi hw 99 rfl) (hwi hw 100 rfl) (hwi hw 101 rfl) e1311 (g := (mkF m 235 #[iv i0, iv i1, iv ch387, iv ch388, iv ch389, iv ch390, iv (2 : Int32), iv (2 : Int32), rv a1093, rv a1117, rv a1130, rv a1182, rv a1210, .unset, .unset] [])) rfl (hb hby at_235) (by decide) (by decide)
      have F1316 := (Exa.keep (Exa.keep F1238 K1239) K1311)
      have F1317 := (Arv.keep (Arv.keep F1241 K1239 (ninS n1220 nin0)) K1311 (ninS n1220 (ninS n1242 nin0)))
      have F1318 := (Exa.keep F1310 K1311)
      have F1319 := (Exa.keep (Exa.keep F1245 K1239) K1311)
      have F1320 := (Arv.keep (Arv.keep F1247 K1239 (ninS n1223 nin0)) K1311 (ninS n1223 (ninS n1248 nin0)))
      have F1321 := (Exa.keep (Exa.keep F1249 K1239) K1311)
      have F1322 := (Exa.keep F1309 K1311)
      have F1323 := (Arv.keep (Arv.keep F1252 K1239 (ninS n1225 nin0)) K1311 (ninS n1225 (ninS n1253 nin0)))
      have F1324 := (Arv.keep (Arv.keep F1254 K1239 (ninS n1226 nin0)) K1311 (ninS n1226 (ninS n1255 nin0)))
      have F1325 := (Arv.keep (Arv.keep F1256 K1239 (ninS n1227 nin0)) K1311 (ninS n1227 (ninS n1257 nin0)))
      have F1326 := (Arv.keep (Arv.keep F1258 K1239 (ninS n1228 nin0)) K1311 (ninS n1228 (ninS n1259 nin0)))
      obtain ⟨a1315, g1315⟩ : ∃ z : Addr, z = h1311.size := ⟨_, rfl⟩
      have n1327 : a1093 ≠ a1315 := fun q => absurd (F1316.lt) (by rw [q, g1315]; exact Nat.lt_irrefl _)
      have n1328 : a1096 ≠ a1315 := fun q => absurd (F1317.lt) (by rw [q, g1315]; exact Nat.lt_irrefl _)
      have n1329 : a1117 ≠ a1315 := fun q => absurd (F1318.lt) (by rw [q, g1315]; exact Nat.lt_irrefl _)
      have n1330 : a1130 ≠ a1315 := fun q => absurd (F1319.lt) (by rw [q, g1315]; exact Nat.lt_irrefl _)
      have n1331 : a1141 ≠ a1315 := fun q => absurd (F1320.lt) (by rw [q, g1315]; exact Nat.lt_irrefl _)
      have n1332 : a1182 ≠ a1315 := fun q => absurd (F1321.lt) (by rw [q, g1315]; exact Nat.lt_irrefl _)
      have n1333 : a1210 ≠ a1315 := fun q => absurd (F1322.lt) (by rw [q, g1315]; exact Nat.lt_irrefl _)
      have n1334 : b1110 ≠ a1315 := fun q => absurd (F1323.lt) (by rw [q, g1315]; exact Nat.lt_irrefl _)
      have n1335 : b1117 ≠ a1315 := fun q => absurd (F1324.lt) (by rw [q, g1315]; exact Nat.lt_irrefl _)
      have n1336 : b1165 ≠ a1315 := fun q => absurd (F1325.lt) (by rw [q, g1315]; exact Nat.lt_irrefl _)
      have n1337 : b1182 ≠ a1315 := fun q => absurd (F1326.lt) (by rw [q, g1315]; exact Nat.lt_irrefl _)
      have n1338 : b1239 ≠ a1315 := fun q => absurd (V1311.lt) (by rw [q, g1315]; exact Nat.lt_irrefl _)
      have f1315 : Z.heap.size ≤ a1315 := by rw [g1315]; exact (O1314).1
      rw [← g1315] at A1315 D1315 U1315 s1315
      have C1339 : CHr Z own_EL s.vm h1311 s.vm h1315 := CHr.ext E1315 H1312.1
      have hk := Nat.le_trans hk C1339.2.1
      have H1339 := H1312.trans C1339
      have O1340 : Ext Z.heap h1315 := xx O1314 E1315
      have SF1315 : Safe Z own_EL s.vm h1315 a1315 := Safe.ext E1315 H1312.1 (Safe.new (by rw [g1315]; exact Nat.le_refl _))
      refine go s1315 ?_
      show Ends p e below _ T1315 (mkF m 238 #[iv i0, iv i1, iv ch387, iv ch388, iv ch389, iv ch390, iv (2 : Int32), iv (2 : Int32), rv a1093, rv a1117, rv a1130, rv a1182, rv a1210, .unset, .unset] [(.ref a1315)])
      refine go (fun _ => XS.dup X1315.here hx rfl (hb hby at_238) rfl rfl) ?_
      refine go (fun _ => XS.aload X1315.here hx rfl (hb hby at_239) rfl rfl) ?_
      show Ends p e below _ T1315 (mkF m 241 #[iv i0, iv i1, iv ch387, iv ch388, iv ch389, iv ch390, iv (2 : Int32), iv (2 : Int32), rv a1093, rv a1117, rv a1130, rv a1182, rv a1210, .unset, .unset] [(.ref a1210), (.ref a1315), (.ref a1315)])
      have F1341 := (D1315 (Or.inr (hwi hw 107 rfl)) (ty := (.object "java/util/List")) (by decide))
      refine cInit X1315 hx hZ hown (by rw [hml]; rfl) e1315 (hwi hw 102 rfl) (hwi hw 103 rfl) (hwi hw 101 rfl) (hwi hw 104 rfl) a1315 [(.ref a1210)] [(.ref a1315)] rfl (rm_pg hw a1315 a1210 _ O1340 f1315 A1315 F1341  ) (hb hby at_241) rfl (lenOf pd_31 rfl) rfl (by decide) (by decide) (Nat.le_of_ble_eq_true rfl) (by decide) (by decide) ?_
      rintro v1342 T1342 h1342 L1342 X1342 e1342 ⟨rfl, N1342, K1342, F1342_0⟩
      have N1342a := Fr.app N1311a N1342
      have sf1343 : ∀ x ∈ [a1315], Safe Z own_EL s.vm h1315 x := (sfS SF1315 sf0)
      have C1343 : CHr Z own_EL s.vm h1315 s.vm h1342 := CHr.keep K1342 sf1343 H1339.1
      have hk := Nat.le_trans hk C1343.2.1
      have H1343 := H1339.trans C1343
      have O1344 : Ext Z.heap h1342 := xk O1340 K1342 (allS f1315 all0)
      show Ends p e below _ T1342 (mkF m 244 #[iv i0, iv i1, iv ch387, iv ch388, iv ch389, iv ch390, iv (2 : Int32), iv (2 : Int32), rv a1093, rv a1117, rv a1130, rv a1182, rv a1210, .unset, .unset] [(.ref a1315)])
      refine go (fun _ => XS.astore X1342.here hx rfl (hb hby at_244) rfl rfl (l' := #[iv i0, iv i1, iv ch387, iv ch388, iv ch389, iv ch390, iv (2 : Int32), iv (2 : Int32), rv a1093, rv a1117, rv a1130, rv a1182, rv a1210, rv a1315, .unset]) rfl) ?_
      refine go (fun _ => XS.aload X1342.here hx rfl (hb hby at_246) rfl rfl) ?_
      show Ends p e below _ T1342 (mkF m 248 #[iv i0, iv i1, iv ch387, iv ch388, iv ch389, iv ch390, iv (2 : Int32), iv (2 : Int32), rv a1093, rv a1117, rv a1130, rv a1182, rv a1210, rv a1315, .unset] [(.ref a1315)])
      have F1345 := (Exa.keep (Exa.ext E1315 F1316) K1342)
      have F1346 := (Exa.keep (Exa.ext E1315 F1322) K1342)
      have F1347 := (Fld.keep (Fld.ext E1315 F21311) K1342 (ninS n1333 nin0))
      have F1348 := (Fld.keep (Fld.ext E1315 F31311) K1342 (ninS n1333 nin0))
      have F1349 := (Arv.keep (Arv.ext V1311 E1315) K1342 (ninS n1338 nin0))
      have F1351 := (Exa.keep A1315 K1342)
      refine cVirt X1342 hx hZ hown (by rw [hml]; rfl) e1342 (hwi hw 108 rfl) (hwi hw 109 rfl) (hwi hw 111 rfl) (hwi hw 110 rfl) (hwi hw 101 rfl) (hwi hw 112 rfl) (notFace_of_selects (args := #[]) (mvT hZ (hwi hw 111 rfl))) a1315 F1351 [] [] rfl (rm_name hw a1315 a1210 b1239 a1093 k1239 (2 : Int32) _ _ F1342_0 F1345 F1346 F1347 F1348 F1349 (by decide)) (hb hby at_248) rfl (lenOf pd_32 rfl) (by decide) (by decide) (Nat.le_of_ble_eq_true rfl) (by decide) (by decide) ?_
      rintro v1350 T1350 h1350 L1350 X1350 e1350 ⟨rfl, N1350, rfl⟩
      have N1350a := Fr.app N1342a N1350
      show Ends p e below _ T1350 (mkF m 251 #[iv i0, iv i1, iv ch387, iv ch388, iv ch389, iv ch390, iv (2 : Int32), iv (2 : Int32), rv a1093, rv a1117, rv a1130, rv a1182, rv a1210, rv a1315, .unset] [(.ref a1093)])
      refine go (fun _ => XS.astore X1350.here hx rfl (hb hby at_251) rfl rfl (l' := #[iv i0, iv i1, iv ch387, iv ch388, iv ch389, iv ch390, iv (2 : Int32), iv (2 : Int32), rv a1093, rv a1117, rv a1130, rv a1182, rv a1210, rv a1315, rv a1093]) rfl) ?_
      refine go (fun _ => XS.aload X1350.here hx rfl (hb hby at_253) rfl rfl) ?_
      show Ends p e below _ T1350 (mkF m 255 #[iv i0, iv i1, iv ch387, iv ch388, iv ch389, iv ch390, iv (2 : Int32), iv (2 : Int32), rv a1093, rv a1117, rv a1130, rv a1182, rv a1210, rv a1315, rv a1093] [(.ref a1093)])
      refine go (fun _ => XS.ifnullNo X1350.here hx rfl (hb hby at_255) rfl) ?_
      show Ends p e below _ T1350 (mkF m 258 #[iv i0, iv i1, iv ch387, iv ch388, iv ch389, iv ch390, iv (2 : Int32), iv (2 : Int32), rv a1093, rv a1117, rv a1130, rv a1182, rv a1210, rv a1315, rv a1093] [])
      refine go (fun _ => XS.aload X1350.here hx rfl (hb hby at_258) rfl rfl) ?_
      show Ends p e below _ T1350 (mkF m 260 #[iv i0, iv i1, iv ch387, iv ch388, iv ch389, iv ch390, iv (2 : Int32), iv (2 : Int32), rv a1093, rv a1117, rv a1130, rv a1182, rv a1210, rv a1315, rv a1093] [(.ref a1093)])
      have F1352 := (Fld.keep (Fld.ext E1315 (Fld.keep (Fld.keep (Fld.keep (Fld.ext E1210 (Fld.keep (Fld.keep (Fld.other W1158 (Fld.other W1155 (Fld.ext E1141 (Fld.ext E1130 (Fld.keep Fc1110 K1117 nin0))) (Or.inl n1147)) (Or.inl n1147)) K1165 (ninS n1134 nin0)) K1182 nin0)) K1234 (ninS n1219 nin0)) K1239 (ninS n1219 nin0)) K1311 (ninS n1219 (ninS n1240 nin0)))) K1342 (ninS n1327 nin0))
      have F1353 := (Fld.keep (Fld.ext E1315 (Fld.keep (Fld.keep (Fld.keep (Fld.ext E1210 (Fld.keep (Fld.keep (Fld.other W1158 (Fld.other W1155 (Fld.ext E1141 (Fld.ext E1130 (Fld.keep Fv1110 K1117 nin0))) (Or.inl n1147)) (Or.inl n1147)) K1165 (ninS n1134 nin0)) K1182 nin0)) K1234 (ninS n1219 nin0)) K1239 (ninS n1219 nin0)) K1311 (ninS n1219 (ninS n1240 nin0)))) K1342 (ninS n1327 nin0))
      have F1354 := (Arv.keep (Arv.ext F1323 E1315) K1342 (ninS n1334 nin0))
      refine cVirt X1350 hx hZ hown (by rw [hml]; rfl) e1350 (hwi hw 136 rfl) (hwi hw 137 rfl) (hwi hw 139 rfl) (hwi hw 138 rfl) (hwi hw 2 rfl) (hwi hw 140 rfl) (notFace_of_selects (args := #[]) (mvT hZ (hwi hw 139 rfl))) a1093 F1345 [] [] rfl (rm_length hw a1093 b1110 k1110 (2 : Int32) _ _ O1344 cz SCS hcz F1352 F1345 F1353 F1354) (hb hby at_260) rfl (lenOf pd_33 rfl) (by decide) (by decide) (Nat.le_of_ble_eq_true rfl) (by decide) (by decide) ?_
      rintro v1355 T1355 h1355 L1355 X1355 e1355 ⟨rfl, N1355, rfl⟩
      have N1355a := Fr.app N1350a N1355
      show Ends p e below _ T1355 (mkF m 263 #[iv i0, iv i1, iv ch387, iv ch388, iv ch389, iv ch390, iv (2 : Int32), iv (2 : Int32), rv a1093, rv a1117, rv a1130, rv a1182, rv a1210, rv a1315, rv a1093] [(.int (2 : Int32))])
      refine go (fun _ => XS.iload X1355.here hx rfl (hb hby at_263) rfl) ?_
      show Ends p e below _ T1355 (mkF m 265 #[iv i0, iv i1, iv ch387, iv ch388, iv ch389, iv ch390, iv (2 : Int32), iv (2 : Int32), rv a1093, rv a1117, rv a1130, rv a1182, rv a1210, rv a1315, rv a1093] [(.int (2 : Int32)), (.int (2 : Int32))])
      refine go (fun _ => XS.icmpYes X1355.here hx rfl (pc0 := 265) (pc' := 270) rfl (hb hby at_265) rfl (XT.ii_eq_t ((by decide) : (2 : Int32) = (2 : Int32))) (by decide) (by decide)) ?_
      show Ends p e below _ T1355 (mkF m 270 #[iv i0, iv i1, iv ch387, iv ch388, iv ch389, iv ch390, iv (2 : Int32), iv (2 : Int32), rv a1093, rv a1117, rv a1130, rv a1182, rv a1210, rv a1315, rv a1093] [])
      refine go (fun _ => XS.iload X1355.here hx rfl (hb hby at_270) rfl) ?_
      refine go (fun _ => XT.iconstV X1355.here hx rfl (1 : Int32) (hb hby at_272) (by decide)) ?_
      show Ends p e below _ T1355 (mkF m 273 #[iv i0, iv i1, iv ch387, iv ch388, iv ch389, iv ch390, iv (2 : Int32), iv (2 : Int32), rv a1093, rv a1117, rv a1130, rv a1182, rv a1210, rv a1315, rv a1093] [(.int (1 : Int32)), (.int (2 : Int32))])
      refine go (fun _ => XS.icmpNo X1355.here hx rfl (hb hby at_273) rfl (XT.ii_lt_f ((by decide) : ¬ ((2 : Int32) < (1 : Int32))))) ?_
      show Ends p e below _ T1355 (mkF m 276 #[iv i0, iv i1, iv ch387, iv ch388, iv ch389, iv ch390, iv (2 : Int32), iv (2 : Int32), rv a1093, rv a1117, rv a1130, rv a1182, rv a1210, rv a1315, rv a1093] [])
      refine go (fun _ => XS.aload X1355.here hx rfl (hb hby at_276) rfl rfl) ?_
      refine go (fun _ => XT.iconstV X1355.here hx rfl (0 : Int32) (hb hby at_278) (by decide)) ?_
      show Ends p e below _ T1355 (mkF m 279 #[iv i0, iv i1, iv ch387, iv ch388, iv ch389, iv ch390, iv (2 : Int32), iv (2 : Int32), rv a1093, rv a1117, rv a1130, rv a1182, rv a1210, rv a1315, rv a1093] [(.int (0 : Int32)), (.ref a1093)])
      refine cVirt X1355 hx hZ hown (by rw [hml]; rfl) e1355 (hwi hw 146 rfl) (hwi hw 147 rfl) (hwi hw 149 rfl) (hwi hw 148 rfl) (hwi hw 2 rfl) (hwi hw 150 rfl) (notFace_of_selects (args := #[]) (mvT hZ (hwi hw 149 rfl))) a1093 F1345 [(.int (0 : Int32))] [] rfl (rm_sc_0_2 hw a1093 b1110 k1110 ch387 ch388 wS _ O1344 cz SCS hcz hsf SS F1352 F1345 F1353 F1354 lc387 gc387) (hb hby at_279) rfl (lenOf pd_34 rfl) (by decide) (by decide) (Nat.le_of_ble_eq_true rfl) (by decide) (by decide) ?_
      rintro v1356 T1356 h1356 L1356 X1356 e1356 ⟨rfl, N1356, rfl⟩
      have N1356a := Fr.app N1355a N1356
      show Ends p e below _ T1356 (mkF m 282 #[iv i0, iv i1, iv ch387, iv ch388, iv ch389, iv ch390, iv (2 : Int32), iv (2 : Int32), rv a1093, rv a1117, rv a1130, rv a1182, rv a1210, rv a1315, rv a1093] [(.int ch387)])
      refine go (fun _ => XS.iloadN X1356.here hx rfl (hb hby at_282) rfl) ?_
      show Ends p e below _ T1356 (mkF m 283 #[iv i0, iv i1, iv ch387, iv ch388, iv ch389, iv ch390, iv (2 : Int32), iv (2 : Int32), rv a1093, rv a1117, rv a1130, rv a1182, rv a1210, rv a1315, rv a1093] [(.int ch387), (.int ch387)])
      refine go (fun _ => XS.icmpYes X1356.here hx rfl (pc0 := 283) (pc' := 288) rfl (hb hby at_283) rfl (XT.ii_eq_t (rfl : ch387 = ch387)) (by decide) (by decide)) ?_
      show Ends p e below _ T1356 (mkF m 288 #[iv i0, iv i1, iv ch387, iv ch388, iv ch389, iv ch390, iv (2 : Int32), iv (2 : Int32), rv a1093, rv a1117, rv a1130, rv a1182, rv a1210, rv a1315, rv a1093] [])
      refine go (fun _ => XS.iload X1356.here hx rfl (hb hby at_288) rfl) ?_
      refine go (fun _ => XT.iconstV X1356.here hx rfl (2 : Int32) (hb hby at_290) (by decide)) ?_
      show Ends p e below _ T1356 (mkF m 291 #[iv i0, iv i1, iv ch387, iv ch388, iv ch389, iv ch390, iv (2 : Int32), iv (2 : Int32), rv a1093, rv a1117, rv a1130, rv a1182, rv a1210, rv a1315, rv a1093] [(.int (2 : Int32)), (.int (2 : Int32))])
      refine go (fun _ => XS.icmpNo X1356.here hx rfl (hb hby at_291) rfl (XT.ii_lt_f ((by decide) : ¬ ((2 : Int32) < (2 : Int32))))) ?_
      show Ends p e below _ T1356 (mkF m 294 #[iv i0, iv i1, iv ch387, iv ch388, iv ch389, iv ch390, iv (2 : Int32), iv (2 : Int32), rv a1093, rv a1117, rv a1130, rv a1182, rv a1210, rv a1315, rv a1093] [])
      refine go (fun _ => XS.aload X1356.here hx rfl (hb hby at_294) rfl rfl) ?_
      refine go (fun _ => XT.iconstV X1356.here hx rfl (1 : Int32) (hb hby at_296) (by decide)) ?_
      show Ends p e below _ T1356 (mkF m 297 #[iv i0, iv i1, iv ch387, iv ch388, iv ch389, iv ch390, iv (2 : Int32), iv (2 : Int32), rv a1093, rv a1117, rv a1130, rv a1182, rv a1210, rv a1315, rv a1093] [(.int (1 : Int32)), (.ref a1093)])
      refine cVirt X1356 hx hZ hown (by rw [hml]; rfl) e1356 (hwi hw 146 rfl) (hwi hw 147 rfl) (hwi hw 149 rfl) (hwi hw 148 rfl) (hwi hw 2 rfl) (hwi hw 150 rfl) (notFace_of_selects (args := #[]) (mvT hZ (hwi hw 149 rfl))) a1093 F1345 [(.int (1 : Int32))] [] rfl (rm_sc_1_2 hw a1093 b1110 k1110 ch387 ch388 wS _ O1344 cz SCS hcz hsf SS F1352 F1345 F1353 F1354 lc388 gc388) (hb hby at_297) rfl (lenOf pd_34 rfl) (by decide) (by decide) (Nat.le_of_ble_eq_true rfl) (by decide) (by decide) ?_
      rintro v1357 T1357 h1357 L1357 X1357 e1357 ⟨rfl, N1357, rfl⟩
      have N1357a := Fr.app N1356a N1357
      show Ends p e below _ T1357 (mkF m 300 #[iv i0, iv i1, iv ch387, iv ch388, iv ch389, iv ch390, iv (2 : Int32), iv (2 : Int32), rv a1093, rv a1117, rv a1130, rv a1182, rv a1210, rv a1315, rv a1093] [(.int ch388)])
      refine go (fun _ => XS.iloadN X1357.here hx rfl (hb hby at_300) rfl) ?_
      show Ends p e below _ T1357 (mkF m 301 #[iv i0, iv i1, iv ch387, iv ch388, iv ch389, iv ch390, iv (2 : Int32), iv (2 : Int32), rv a1093, rv a1117, rv a1130, rv a1182, rv a1210, rv a1315, rv a1093] [(.int ch388), (.int ch388)])
      refine go (fun _ => XS.icmpYes X1357.here hx rfl (pc0 := 301) (pc' := 306) rfl (hb hby at_301) rfl (XT.ii_eq_t (rfl : ch388 = ch388)) (by decide) (by decide)) ?_
      show Ends p e below _ T1357 (mkF m 306 #[iv i0, iv i1, iv ch387, iv ch388, iv ch389, iv ch390, iv (2 : Int32), iv (2 : Int32), rv a1093, rv a1117, rv a1130, rv a1182, rv a1210, rv a1315, rv a1093] [])
      refine go (fun _ => XS.iload X1357.here hx rfl (hb hby at_306) rfl) ?_
      refine go (fun _ => XT.iconstV X1357.here hx rfl (3 : Int32) (hb hby at_308) (by decide)) ?_
      show Ends p e below _ T1357 (mkF m 309 #[iv i0, iv i1, iv ch387, iv ch388, iv ch389, iv ch390, iv (2 : Int32), iv (2 : Int32), rv a1093, rv a1117, rv a1130, rv a1182, rv a1210, rv a1315, rv a1093] [(.int (3 : Int32)), (.int (2 : Int32))])
      refine go (fun _ => XS.icmpYes X1357.here hx rfl (pc0 := 309) (pc' := 325) rfl (hb hby at_309) rfl (XT.ii_lt_t ((by decide) : (2 : Int32) < (3 : Int32))) (by decide) (by decide)) ?_
      show Ends p e below _ T1357 (mkF m 325 #[iv i0, iv i1, iv ch387, iv ch388, iv ch389, iv ch390, iv (2 : Int32), iv (2 : Int32), rv a1093, rv a1117, rv a1130, rv a1182, rv a1210, rv a1315, rv a1093] [])
      refine go (fun _ => XS.aload X1357.here hx rfl (hb hby at_325) rfl rfl) ?_
      show Ends p e below _ T1357 (mkF m 327 #[iv i0, iv i1, iv ch387, iv ch388, iv ch389, iv ch390, iv (2 : Int32), iv (2 : Int32), rv a1093, rv a1117, rv a1130, rv a1182, rv a1210, rv a1315, rv a1093] [(.ref a1210)])
      refine cVirt X1357 hx hZ hown (by rw [hml]; rfl) e1357 (hwi hw 164 rfl) (hwi hw 165 rfl) (hwi hw 167 rfl) (hwi hw 166 rfl) (hwi hw 46 rfl) (hwi hw 168 rfl) (notFace_of_selects (args := #[]) (mvT hZ (hwi hw 167 rfl))) a1210 F1346 [] [] rfl (rm_size hw a1210 (2 : Int32) _ F1348) (hb hby at_327) rfl (lenOf pd_33 rfl) (by decide) (by decide) (Nat.le_of_ble_eq_true rfl) (by decide) (by decide) ?_
      rintro v1358 T1358 h1358 L1358 X1358 e1358 ⟨rfl, N1358, rfl⟩
      have N1358a := Fr.app N1357a N1358
      show Ends p e below _ T1358 (mkF m 330 #[iv i0, iv i1, iv ch387, iv ch388, iv ch389, iv ch390, iv (2 : Int32), iv (2 : Int32), rv a1093, rv a1117, rv a1130, rv a1182, rv a1210, rv a1315, rv a1093] [(.int (2 : Int32))])
      refine go (fun _ => XS.iload X1358.here hx rfl (hb hby at_330) rfl) ?_
      show Ends p e below _ T1358 (mkF m 332 #[iv i0, iv i1, iv ch387, iv ch388, iv ch389, iv ch390, iv (2 : Int32), iv (2 : Int32), rv a1093, rv a1117, rv a1130, rv a1182, rv a1210, rv a1315, rv a1093] [(.int (2 : Int32)), (.int (2 : Int32))])
      refine go (fun _ => XS.icmpNo X1358.here hx rfl (hb hby at_332) rfl (XT.ii_ne_f ((by decide) : (2 : Int32) = (2 : Int32)))) ?_
      show Ends p e below _ T1358 (mkF m 335 #[iv i0, iv i1, iv ch387, iv ch388, iv ch389, iv ch390, iv (2 : Int32), iv (2 : Int32), rv a1093, rv a1117, rv a1130, rv a1182, rv a1210, rv a1315, rv a1093] [])
      refine go (fun _ => XT.iconstV X1358.here hx rfl (1 : Int32) (hb hby at_335) (by decide)) ?_
      refine go (fun _ => XS.goto X1358.here hx rfl (pc0 := 336) (pc' := 340) rfl (hb hby at_336) (by decide) (by decide)) ?_
      show Ends p e below _ T1358 (mkF m 340 #[iv i0, iv i1, iv ch387, iv ch388, iv ch389, iv ch390, iv (2 : Int32), iv (2 : Int32), rv a1093, rv a1117, rv a1130, rv a1182, rv a1210, rv a1315, rv a1093] [(.int (1 : Int32))])
      exact endN X1358 hx hret (by simp) (hb hby at_340) (lvW X1358 hlk hZ (own_EW hw) hs0 hS hk H1343 e1358 (fun h => by rw [hret] at h; cases h) ⟨rfl, N1358a⟩ (by decide) (by decide))
    · rw [q1264]
      show Ends p e below _ T1239 (mkF m 193 #[iv i0, iv i1, iv ch387, iv ch388, iv ch389, iv ch390, iv (2 : Int32), iv (3 : Int32), rv a1093, rv a1117, rv a1130, rv a1182, rv a1210, .unset, .unset] [])
      refine go (fun _ => XS.iload X1239.here hx rfl (hb hby at_193) rfl) ?_
      refine go (fun _ => XT.iconstV X1239.here hx rfl (1 : Int32) (hb hby at_195) (by decide)) ?_
      show Ends p e below _ T1239 (mkF m 196 #[iv i0, iv i1, iv ch387, iv ch388, iv ch389, iv ch390, iv (2 : Int32), iv (3 : Int32), rv a1093, rv a1117, rv a1130, rv a1182, rv a1210, .unset, .unset] [(.int (1 : Int32)), (.int (3 : Int32))])
      refine go (fun _ => XS.icmpNo X1239.here hx rfl (hb hby at_196) rfl (XT.ii_le_f ((by decide) : (1 : Int32) < (3 : Int32)))) ?_
      show Ends p e below _ T1239 (mkF m 199 #[iv i0, iv i1, iv ch387, iv ch388, iv ch389, iv ch390, iv (2 : Int32), iv (3 : Int32), rv a1093, rv a1117, rv a1130, rv a1182, rv a1210, .unset, .unset] [])
      refine go (fun _ => XS.aload X1239.here hx rfl (hb hby at_199) rfl rfl) ?_
      refine go (fun _ => XS.aload X1239.here hx rfl (hb hby at_201) rfl rfl) ?_
      show Ends p e below _ T1239 (mkF m 203 #[iv i0, iv i1, iv ch387, iv ch388, iv ch389, iv ch390, iv (2 : Int32), iv (3 : Int32), rv a1093, rv a1117, rv a1130, rv a1182, rv a1210, .unset, .unset] [(.ref a1117), (.ref a1210)])
      have F1359 := (Exa.keep F1237 K1239)
      have F1360 := (Exa.keep F1243 K1239)
      refine cVirt X1239 hx hZ hown (by rw [hml]; rfl) e1239 (hwi hw 68 rfl) (hwi hw 69 rfl) (hwi hw 71 rfl) (hwi hw 70 rfl) (hwi hw 46 rfl) (hwi hw 72 rfl) (notFace_of_selects (args := #[]) (mvT hZ (hwi hw 71 rfl))) a1210 F1359 [(.ref a1117)] [] rfl (rm_add_1 hw a1210 a1117 b1239 k1239 (1 : Int32) a1093 _ O1263 f1210 F1359 F11239 F21239 F31239 f1260 n1251 O1239 V1239 F1360 (Ne.symm n1221) (Ne.symm n1244)) (hb hby at_203) rfl (lenOf pd_30 rfl) (by decide) (by decide) (Nat.le_of_ble_eq_true rfl) (by decide) (by decide) ?_
      rintro v1361 T1361 h1361 L1361 X1361 e1361 ⟨rfl, N1361, K1361, F11361, F21361, F31361, V1361⟩
      have N1361a := Fr.app N1239a N1361
      have F1363 := (Safe.keep K1239 sf1261 H1235.1 F1262)
      have sf1362 : ∀ x ∈ [a1210, b1239], Safe Z own_EL s.vm h1239 x := (sfS F1363 (sfS (Safe.arv hZ.alike V1239 (by decide)) sf0))
      have C1362 : CHr Z own_EL s.vm h1239 s.vm h1361 := CHr.keep K1361 sf1362 H1261.1
      have hk := Nat.le_trans hk C1362.2.1
      have H1362 := H1261.trans C1362
      have O1364 : Ext Z.heap h1361 := xk O1263 K1361 (allS f1210 (allS f1260 all0))
      show Ends p e below _ T1361 (mkF m 206 #[iv i0, iv i1, iv ch387, iv ch388, iv ch389, iv ch390, iv (2 : Int32), iv (3 : Int32), rv a1093, rv a1117, rv a1130, rv a1182, rv a1210, .unset, .unset] [(.int (1 : Int32))])
      refine go (fun _ => XT.pop X1361.here hx rfl (hb hby at_206) rfl rfl) ?_
      refine go (fun _ => XS.iload X1361.here hx rfl (hb hby at_207) rfl) ?_
      refine go (fun _ => XT.iconstV X1361.here hx rfl (2 : Int32) (hb hby at_209) (by decide)) ?_
      show Ends p e below _ T1361 (mkF m 210 #[iv i0, iv i1, iv ch387, iv ch388, iv ch389, iv ch390, iv (2 : Int32), iv (3 : Int32), rv a1093, rv a1117, rv a1130, rv a1182, rv a1210, .unset, .unset] [(.int (2 : Int32)), (.int (3 : Int32))])
      refine go (fun _ => XS.icmpNo X1361.here hx rfl (hb hby at_210) rfl (XT.ii_le_f ((by decide) : (2 : Int32) < (3 : Int32)))) ?_
      show Ends p e below _ T1361 (mkF m 213 #[iv i0, iv i1, iv ch387, iv ch388, iv ch389, iv ch390, iv (2 : Int32), iv (3 : Int32), rv a1093, rv a1117, rv a1130, rv a1182, rv a1210, .unset, .unset] [])
      refine go (fun _ => XS.aload X1361.here hx rfl (hb hby at_213) rfl rfl) ?_
      refine go (fun _ => XS.aload X1361.here hx rfl (hb hby at_215) rfl rfl) ?_
      show Ends p e below _ T1361 (mkF m 217 #[iv i0, iv i1, iv ch387, iv ch388, iv ch389, iv ch390, iv (2 : Int32), iv (3 : Int32), rv a1093, rv a1117, rv a1130, rv a1182, rv a1210, .unset, .unset] [(.ref a1130), (.ref a1210)])
      have F1365 := (Exa.keep F1359 K1361)
      have F1366 := (Exa.keep (Exa.keep F1245 K1239) K1361)
      refine cVirt X1361 hx hZ hown (by rw [hml]; rfl) e1361 (hwi hw 68 rfl) (hwi hw 69 rfl) (hwi hw 71 rfl) (hwi hw 70 rfl) (hwi hw 46 rfl) (hwi hw 72 rfl) (notFace_of_selects (args := #[]) (mvT hZ (hwi hw 71 rfl))) a1210 F1365 [(.ref a1130)] [] rfl (rm_add_2 hw a1210 a1130 b1239 k1239 (2 : Int32) a1093 a1117 _ O1364 f1210 F1365 F11361 F21361 F31361 f1260 n1251 O1239 V1361 F1366 (Ne.symm n1222) (Ne.symm n1246)) (hb hby at_217) rfl (lenOf pd_30 rfl) (by decide) (by decide) (Nat.le_of_ble_eq_true rfl) (by decide) (by decide) ?_
      rintro v1367 T1367 h1367 L1367 X1367 e1367 ⟨rfl, N1367, K1367, F11367, F21367, F31367, V1367⟩
      have N1367a := Fr.app N1361a N1367
      have F1369 := (Safe.keep K1361 sf1362 H1261.1 F1363)
      have sf1368 : ∀ x ∈ [a1210, b1239], Safe Z own_EL s.vm h1361 x := (sfS F1369 (sfS (Safe.arv hZ.alike V1361 (by decide)) sf0))
      have C1368 : CHr Z own_EL s.vm h1361 s.vm h1367 := CHr.keep K1367 sf1368 H1362.1
      have hk := Nat.le_trans hk C1368.2.1
      have H1368 := H1362.trans C1368
      have O1370 : Ext Z.heap h1367 := xk O1364 K1367 (allS f1210 (allS f1260 all0))
      show Ends p e below _ T1367 (mkF m 220 #[iv i0, iv i1, iv ch387, iv ch388, iv ch389, iv ch390, iv (2 : Int32), iv (3 : Int32), rv a1093, rv a1117, rv a1130, rv a1182, rv a1210, .unset, .unset] [(.int (1 : Int32))])
      refine go (fun _ => XT.pop X1367.here hx rfl (hb hby at_220) rfl rfl) ?_
      refine go (fun _ => XS.iload X1367.here hx rfl (hb hby at_221) rfl) ?_
      refine go (fun _ => XT.iconstV X1367.here hx rfl (3 : Int32) (hb hby at_223) (by decide)) ?_
      show Ends p e below _ T1367 (mkF m 224 #[iv i0, iv i1, iv ch387, iv ch388, iv ch389, iv ch390, iv (2 : Int32), iv (3 : Int32), rv a1093, rv a1117, rv a1130, rv a1182, rv a1210, .unset, .unset] [(.int (3 : Int32)), (.int (3 : Int32))])
      refine go (fun _ => XS.icmpYes X1367.here hx rfl (pc0 := 224) (pc' := 235) rfl (hb hby at_224) rfl (XT.ii_le_t ((by decide) : ¬ ((3 : Int32) < (3 : Int32)))) (by decide) (by decide)) ?_
      show Ends p e below _ T1367 (mkF m 235 #[iv i0, iv i1, iv ch387, iv ch388, iv ch389, iv ch390, iv (2 : Int32), iv (3 : Int32), rv a1093, rv a1117, rv a1130, rv a1182, rv a1210, .unset, .unset] [])
      obtain ⟨T1371, h1371, X1371, e1371, E1371, A1371, D1371, U1371, s1371⟩ := newO X1367 hx hZ hown (hwi hw 99 rfl) (hwi hw 100 rfl) (hwi hw 101 rfl) e1367 (g := (mkF m 235 #[iv i0, iv i1, iv ch387, iv ch388, iv ch389, iv ch390, iv (2 : Int32), iv (3 : Int32), rv a1093, rv a1117, rv a1130, rv a1182, rv a1210, .unset, .unset] [])) rfl (hb hby at_235) (by decide) (by decide)
      have F1372 := (Exa.keep (Exa.keep (Exa.keep F1238 K1239) K1361) K1367)
      have F1373 := (Arv.keep (Arv.keep (Arv.keep F1241 K1239 (ninS n1220 nin0)) K1361 (ninS n1220 (ninS n1242 nin0))) K1367 (ninS n1220 (ninS n1242 nin0)))
      have F1374 := (Exa.keep (Exa.keep F1360 K1361) K1367)
      have F1375 := (Exa.keep F1366 K1367)
      have F1376 := (Arv.keep (Arv.keep (Arv.keep F1247 K1239 (ninS n1223 nin0)) K1361 (ninS n1223 (ninS n1248 nin0))) K1367 (ninS n1223 (ninS n1248 nin0)))
      have F1377 := (Exa.keep (Exa.keep (Exa.keep F1249 K1239) K1361) K1367)
      have F1378 := (Exa.keep F1365 K1367)
      have F1379 := (Arv.keep (Arv.keep (Arv.keep F1252 K1239 (ninS n1225 nin0)) K1361 (ninS n1225 (ninS n1253 nin0))) K1367 (ninS n1225 (ninS n1253 nin0)))
      have F1380 := (Arv.keep (Arv.keep (Arv.keep F1254 K1239 (ninS n1226 nin0)) K1361 (ninS n1226 (ninS n1255 nin0))) K1367 (ninS n1226 (ninS n1255 nin0)))
      have F1381 := (Arv.keep (Arv.keep (Arv.keep F1256 K1239 (ninS n1227 nin0)) K1361 (ninS n1227 (ninS n1257 nin0))) K1367 (ninS n1227 (ninS n1257 nin0)))
      have F1382 := (Arv.keep (Arv.keep (Arv.keep F1258 K1239 (ninS n1228 nin0)) K1361 (ninS n1228 (ninS n1259 nin0))) K1367 (ninS n1228 (ninS n1259 nin0)))
      obtain ⟨a1371, g1371⟩ : ∃ z : Addr, z = h1367.size := ⟨_, rfl⟩
      have n1383 : a1093 ≠ a1371 := fun q => absurd (F1372.lt) (by rw [q, g1371]; exact Nat.lt_irrefl _)
      have n1384 : a1096 ≠ a1371 := fun q => absurd (F1373.lt) (by rw [q, g1371]; exact Nat.lt_irrefl _)
      have n1385 : a1117 ≠ a1371 := fun q => absurd (F1374.lt) (by rw [q, g1371]; exact Nat.lt_irrefl _)
      have n1386 : a1130 ≠ a1371 := fun q => absurd (F1375.lt) (by rw [q, g1371]; exact Nat.lt_irrefl _)
      have n1387 : a1141 ≠ a1371 := fun q => absurd (F1376.lt) (by rw [q, g1371]; exact Nat.lt_irrefl _)
      have n1388 : a1182 ≠ a1371 := fun q => absurd (F1377.lt) (by rw [q, g1371]; exact Nat.lt_irrefl _)
      have n1389 : a1210 ≠ a1371 := fun q => absurd (F1378.lt) (by rw [q, g1371]; exact Nat.lt_irrefl _)
      have n1390 : b1110 ≠ a1371 := fun q => absurd (F1379.lt) (by rw [q, g1371]; exact Nat.lt_irrefl _)
      have n1391 : b1117 ≠ a1371 := fun q => absurd (F1380.lt) (by rw [q, g1371]; exact Nat.lt_irrefl _)
      have n1392 : b1165 ≠ a1371 := fun q => absurd (F1381.lt) (by rw [q, g1371]; exact Nat.lt_irrefl _)
      have n1393 : b1182 ≠ a1371 := fun q => absurd (F1382.lt) (by rw [q, g1371]; exact Nat.lt_irrefl _)
      have n1394 : b1239 ≠ a1371 := fun q => absurd (V1367.lt) (by rw [q, g1371]; exact Nat.lt_irrefl _)
      have f1371 : Z.heap.size ≤ a1371 := by rw [g1371]; exact (O1370).1
      rw [← g1371] at A1371 D1371 U1371 s1371
      have C1395 : CHr Z own_EL s.vm h1367 s.vm h1371 := CHr.ext E1371 H1368.1
      have hk := Nat.le_trans hk C1395.2.1
      have H1395 := H1368.trans C1395
      have O1396 : Ext Z.heap h1371 := xx O1370 E1371
      have SF1371 : Safe Z own_EL s.vm h1371 a1371 := Safe.ext E1371 H1368.1 (Safe.new (by rw [g1371]; exact Nat.le_refl _))
      refine go s1371 ?_
      show Ends p e below _ T1371 (mkF m 238 #[iv i0, iv i1, iv ch387, iv ch388, iv ch389, iv ch390, iv (2 : Int32), iv (3 : Int32), rv a1093, rv a1117, rv a1130, rv a1182, rv a1210, .unset, .unset] [(.ref a1371)])
      refine go (fun _ => XS.dup X1371.here hx rfl (hb hby at_238) rfl rfl) ?_
      refine go (fun _ => XS.aload X1371.here hx rfl (hb hby at_239) rfl rfl) ?_
      show Ends p e below _ T1371 (mkF m 241 #[iv i0, iv i1, iv ch387, iv ch388, iv ch389, iv ch390, iv (2 : Int32), iv (3 : Int32), rv a1093, rv a1117, rv a1130, rv a1182, rv a1210, .unset, .unset] [(.ref a1210), (.ref a1371), (.ref a1371)])
      have F1397 := (D1371 (Or.inr (hwi hw 107 rfl)) (ty := (.object "java/util/List")) (by decide))
      refine cInit X1371 hx hZ hown (by rw [hml]; rfl) e1371 (hwi hw 102 rfl) (hwi hw 103 rfl) (hwi hw 101 rfl) (hwi hw 104 rfl) a1371 [(.ref a1210)] [(.ref a1371)] rfl (rm_pg hw a1371 a1210 _ O1396 f1371 A1371 F1397  ) (hb hby at_241) rfl (lenOf pd_31 rfl) rfl (by decide) (by decide) (Nat.le_of_ble_eq_true rfl) (by decide) (by decide) ?_
      rintro v1398 T1398 h1398 L1398 X1398 e1398 ⟨rfl, N1398, K1398, F1398_0⟩
      have N1398a := Fr.app N1367a N1398
      have sf1399 : ∀ x ∈ [a1371], Safe Z own_EL s.vm h1371 x := (sfS SF1371 sf0)
      have C1399 : CHr Z own_EL s.vm h1371 s.vm h1398 := CHr.keep K1398 sf1399 H1395.1
      have hk := Nat.le_trans hk C1399.2.1
      have H1399 := H1395.trans C1399
      have O1400 : Ext Z.heap h1398 := xk O1396 K1398 (allS f1371 all0)
      show Ends p e below _ T1398 (mkF m 244 #[iv i0, iv i1, iv ch387, iv ch388, iv ch389, iv ch390, iv (2 : Int32), iv (3 : Int32), rv a1093, rv a1117, rv a1130, rv a1182, rv a1210, .unset, .unset] [(.ref a1371)])
      refine go (fun _ => XS.astore X1398.here hx rfl (hb hby at_244) rfl rfl (l' := #[iv i0, iv i1, iv ch387, iv ch388, iv ch389, iv ch390, iv (2 : Int32), iv (3 : Int32), rv a1093, rv a1117, rv a1130, rv a1182, rv a1210, rv a1371, .unset]) rfl) ?_
      refine go (fun _ => XS.aload X1398.here hx rfl (hb hby at_246) rfl rfl) ?_
      show Ends p e below _ T1398 (mkF m 248 #[iv i0, iv i1, iv ch387, iv ch388, iv ch389, iv ch390, iv (2 : Int32), iv (3 : Int32), rv a1093, rv a1117, rv a1130, rv a1182, rv a1210, rv a1371, .unset] [(.ref a1371)])
      have F1401 := (Exa.keep (Exa.ext E1371 F1372) K1398)
      have F1402 := (Exa.keep (Exa.ext E1371 F1378) K1398)
      have F1403 := (Fld.keep (Fld.ext E1371 F21367) K1398 (ninS n1389 nin0))
      have F1404 := (Fld.keep (Fld.ext E1371 F31367) K1398 (ninS n1389 nin0))
      have F1405 := (Arv.keep (Arv.ext V1367 E1371) K1398 (ninS n1394 nin0))
      have F1407 := (Exa.keep A1371 K1398)
      refine cVirt X1398 hx hZ hown (by rw [hml]; rfl) e1398 (hwi hw 108 rfl) (hwi hw 109 rfl) (hwi hw 111 rfl) (hwi hw 110 rfl) (hwi hw 101 rfl) (hwi hw 112 rfl) (notFace_of_selects (args := #[]) (mvT hZ (hwi hw 111 rfl))) a1371 F1407 [] [] rfl (rm_name hw a1371 a1210 b1239 a1093 k1239 (3 : Int32) _ _ F1398_0 F1401 F1402 F1403 F1404 F1405 (by decide)) (hb hby at_248) rfl (lenOf pd_32 rfl) (by decide) (by decide) (Nat.le_of_ble_eq_true rfl) (by decide) (by decide) ?_
      rintro v1406 T1406 h1406 L1406 X1406 e1406 ⟨rfl, N1406, rfl⟩
      have N1406a := Fr.app N1398a N1406
      show Ends p e below _ T1406 (mkF m 251 #[iv i0, iv i1, iv ch387, iv ch388, iv ch389, iv ch390, iv (2 : Int32), iv (3 : Int32), rv a1093, rv a1117, rv a1130, rv a1182, rv a1210, rv a1371, .unset] [(.ref a1093)])
      refine go (fun _ => XS.astore X1406.here hx rfl (hb hby at_251) rfl rfl (l' := #[iv i0, iv i1, iv ch387, iv ch388, iv ch389, iv ch390, iv (2 : Int32), iv (3 : Int32), rv a1093, rv a1117, rv a1130, rv a1182, rv a1210, rv a1371, rv a1093]) rfl) ?_
      refine go (fun _ => XS.aload X1406.here hx rfl (hb hby at_253) rfl rfl) ?_
      show Ends p e below _ T1406 (mkF m 255 #[iv i0, iv i1, iv ch387, iv ch388, iv ch389, iv ch390, iv (2 : Int32), iv (3 : Int32), rv a1093, rv a1117, rv a1130, rv a1182, rv a1210, rv a1371, rv a1093] [(.ref a1093)])
      refine go (fun _ => XS.ifnullNo X1406.here hx rfl (hb hby at_255) rfl) ?_
      show Ends p e below _ T1406 (mkF m 258 #[iv i0, iv i1, iv ch387, iv ch388, iv ch389, iv ch390, iv (2 : Int32), iv (3 : Int32), rv a1093, rv a1117, rv a1130, rv a1182, rv a1210, rv a1371, rv a1093] [])
      refine go (fun _ => XS.aload X1406.here hx rfl (hb hby at_258) rfl rfl) ?_
      show Ends p e below _ T1406 (mkF m 260 #[iv i0, iv i1, iv ch387, iv ch388, iv ch389, iv ch390, iv (2 : Int32), iv (3 : Int32), rv a1093, rv a1117, rv a1130, rv a1182, rv a1210, rv a1371, rv a1093] [(.ref a1093)])
      have F1408 := (Fld.keep (Fld.ext E1371 (Fld.keep (Fld.keep (Fld.keep (Fld.keep (Fld.ext E1210 (Fld.keep (Fld.keep (Fld.other W1158 (Fld.other W1155 (Fld.ext E1141 (Fld.ext E1130 (Fld.keep Fc1110 K1117 nin0))) (Or.inl n1147)) (Or.inl n1147)) K1165 (ninS n1134 nin0)) K1182 nin0)) K1234 (ninS n1219 nin0)) K1239 (ninS n1219 nin0)) K1361 (ninS n1219 (ninS n1240 nin0))) K1367 (ninS n1219 (ninS n1240 nin0)))) K1398 (ninS n1383 nin0))
      have F1409 := (Fld.keep (Fld.ext E1371 (Fld.keep (Fld.keep (Fld.keep (Fld.keep (Fld.ext E1210 (Fld.keep (Fld.keep (Fld.other W1158 (Fld.other W1155 (Fld.ext E1141 (Fld.ext E1130 (Fld.keep Fv1110 K1117 nin0))) (Or.inl n1147)) (Or.inl n1147)) K1165 (ninS n1134 nin0)) K1182 nin0)) K1234 (ninS n1219 nin0)) K1239 (ninS n1219 nin0)) K1361 (ninS n1219 (ninS n1240 nin0))) K1367 (ninS n1219 (ninS n1240 nin0)))) K1398 (ninS n1383 nin0))
      have F1410 := (Arv.keep (Arv.ext F1379 E1371) K1398 (ninS n1390 nin0))
      refine cVirt X1406 hx hZ hown (by rw [hml]; rfl) e1406 (hwi hw 136 rfl) (hwi hw 137 rfl) (hwi hw 139 rfl) (hwi hw 138 rfl) (hwi hw 2 rfl) (hwi hw 140 rfl) (notFace_of_selects (args := #[]) (mvT hZ (hwi hw 139 rfl))) a1093 F1401 [] [] rfl (rm_length hw a1093 b1110 k1110 (2 : Int32) _ _ O1400 cz SCS hcz F1408 F1401 F1409 F1410) (hb hby at_260) rfl (lenOf pd_33 rfl) (by decide) (by decide) (Nat.le_of_ble_eq_true rfl) (by decide) (by decide) ?_
      rintro v1411 T1411 h1411 L1411 X1411 e1411 ⟨rfl, N1411, rfl⟩
      have N1411a := Fr.app N1406a N1411
      show Ends p e below _ T1411 (mkF m 263 #[iv i0, iv i1, iv ch387, iv ch388, iv ch389, iv ch390, iv (2 : Int32), iv (3 : Int32), rv a1093, rv a1117, rv a1130, rv a1182, rv a1210, rv a1371, rv a1093] [(.int (2 : Int32))])
      refine go (fun _ => XS.iload X1411.here hx rfl (hb hby at_263) rfl) ?_
      show Ends p e below _ T1411 (mkF m 265 #[iv i0, iv i1, iv ch387, iv ch388, iv ch389, iv ch390, iv (2 : Int32), iv (3 : Int32), rv a1093, rv a1117, rv a1130, rv a1182, rv a1210, rv a1371, rv a1093] [(.int (2 : Int32)), (.int (2 : Int32))])
      refine go (fun _ => XS.icmpYes X1411.here hx rfl (pc0 := 265) (pc' := 270) rfl (hb hby at_265) rfl (XT.ii_eq_t ((by decide) : (2 : Int32) = (2 : Int32))) (by decide) (by decide)) ?_
      show Ends p e below _ T1411 (mkF m 270 #[iv i0, iv i1, iv ch387, iv ch388, iv ch389, iv ch390, iv (2 : Int32), iv (3 : Int32), rv a1093, rv a1117, rv a1130, rv a1182, rv a1210, rv a1371, rv a1093] [])
      refine go (fun _ => XS.iload X1411.here hx rfl (hb hby at_270) rfl) ?_
      refine go (fun _ => XT.iconstV X1411.here hx rfl (1 : Int32) (hb hby at_272) (by decide)) ?_
      show Ends p e below _ T1411 (mkF m 273 #[iv i0, iv i1, iv ch387, iv ch388, iv ch389, iv ch390, iv (2 : Int32), iv (3 : Int32), rv a1093, rv a1117, rv a1130, rv a1182, rv a1210, rv a1371, rv a1093] [(.int (1 : Int32)), (.int (2 : Int32))])
      refine go (fun _ => XS.icmpNo X1411.here hx rfl (hb hby at_273) rfl (XT.ii_lt_f ((by decide) : ¬ ((2 : Int32) < (1 : Int32))))) ?_
      show Ends p e below _ T1411 (mkF m 276 #[iv i0, iv i1, iv ch387, iv ch388, iv ch389, iv ch390, iv (2 : Int32), iv (3 : Int32), rv a1093, rv a1117, rv a1130, rv a1182, rv a1210, rv a1371, rv a1093] [])
      refine go (fun _ => XS.aload X1411.here hx rfl (hb hby at_276) rfl rfl) ?_
      refine go (fun _ => XT.iconstV X1411.here hx rfl (0 : Int32) (hb hby at_278) (by decide)) ?_
      show Ends p e below _ T1411 (mkF m 279 #[iv i0, iv i1, iv ch387, iv ch388, iv ch389, iv ch390, iv (2 : Int32), iv (3 : Int32), rv a1093, rv a1117, rv a1130, rv a1182, rv a1210, rv a1371, rv a1093] [(.int (0 : Int32)), (.ref a1093)])
      refine cVirt X1411 hx hZ hown (by rw [hml]; rfl) e1411 (hwi hw 146 rfl) (hwi hw 147 rfl) (hwi hw 149 rfl) (hwi hw 148 rfl) (hwi hw 2 rfl) (hwi hw 150 rfl) (notFace_of_selects (args := #[]) (mvT hZ (hwi hw 149 rfl))) a1093 F1401 [(.int (0 : Int32))] [] rfl (rm_sc_0_2 hw a1093 b1110 k1110 ch387 ch388 wS _ O1400 cz SCS hcz hsf SS F1408 F1401 F1409 F1410 lc387 gc387) (hb hby at_279) rfl (lenOf pd_34 rfl) (by decide) (by decide) (Nat.le_of_ble_eq_true rfl) (by decide) (by decide) ?_
      rintro v1412 T1412 h1412 L1412 X1412 e1412 ⟨rfl, N1412, rfl⟩
      have N1412a := Fr.app N1411a N1412
      show Ends p e below _ T1412 (mkF m 282 #[iv i0, iv i1, iv ch387, iv ch388, iv ch389, iv ch390, iv (2 : Int32), iv (3 : Int32), rv a1093, rv a1117, rv a1130, rv a1182, rv a1210, rv a1371, rv a1093] [(.int ch387)])
      refine go (fun _ => XS.iloadN X1412.here hx rfl (hb hby at_282) rfl) ?_
      show Ends p e below _ T1412 (mkF m 283 #[iv i0, iv i1, iv ch387, iv ch388, iv ch389, iv ch390, iv (2 : Int32), iv (3 : Int32), rv a1093, rv a1117, rv a1130, rv a1182, rv a1210, rv a1371, rv a1093] [(.int ch387), (.int ch387)])
      refine go (fun _ => XS.icmpYes X1412.here hx rfl (pc0 := 283) (pc' := 288) rfl (hb hby at_283) rfl (XT.ii_eq_t (rfl : ch387 = ch387)) (by decide) (by decide)) ?_
      show Ends p e below _ T1412 (mkF m 288 #[iv i0, iv i1, iv ch387, iv ch388, iv ch389, iv ch390, iv (2 : Int32), iv (3 : Int32), rv a1093, rv a1117, rv a1130, rv a1182, rv a1210, rv a1371, rv a1093] [])
      refine go (fun _ => XS.iload X1412.here hx rfl (hb hby at_288) rfl) ?_
      refine go (fun _ => XT.iconstV X1412.here hx rfl (2 : Int32) (hb hby at_290) (by decide)) ?_
      show Ends p e below _ T1412 (mkF m 291 #[iv i0, iv i1, iv ch387, iv ch388, iv ch389, iv ch390, iv (2 : Int32), iv (3 : Int32), rv a1093, rv a1117, rv a1130, rv a1182, rv a1210, rv a1371, rv a1093] [(.int (2 : Int32)), (.int (2 : Int32))])
      refine go (fun _ => XS.icmpNo X1412.here hx rfl (hb hby at_291) rfl (XT.ii_lt_f ((by decide) : ¬ ((2 : Int32) < (2 : Int32))))) ?_
      show Ends p e below _ T1412 (mkF m 294 #[iv i0, iv i1, iv ch387, iv ch388, iv ch389, iv ch390, iv (2 : Int32), iv (3 : Int32), rv a1093, rv a1117, rv a1130, rv a1182, rv a1210, rv a1371, rv a1093] [])
      refine go (fun _ => XS.aload X1412.here hx rfl (hb hby at_294) rfl rfl) ?_
      refine go (fun _ => XT.iconstV X1412.here hx rfl (1 : Int32) (hb hby at_296) (by decide)) ?_
      show Ends p e below _ T1412 (mkF m 297 #[iv i0, iv i1, iv ch387, iv ch388, iv ch389, iv ch390, iv (2 : Int32), iv (3 : Int32), rv a1093, rv a1117, rv a1130, rv a1182, rv a1210, rv a1371, rv a1093] [(.int (1 : Int32)), (.ref a1093)])
      refine cVirt X1412 hx hZ hown (by rw [hml]; rfl) e1412 (hwi hw 146 rfl) (hwi hw 147 rfl) (hwi hw 149 rfl) (hwi hw 148 rfl) (hwi hw 2 rfl) (hwi hw 150 rfl) (notFace_of_selects (args := #[]) (mvT hZ (hwi hw 149 rfl))) a1093 F1401 [(.int (1 : Int32))] [] rfl (rm_sc_1_2 hw a1093 b1110 k1110 ch387 ch388 wS _ O1400 cz SCS hcz hsf SS F1408 F1401 F1409 F1410 lc388 gc388) (hb hby at_297) rfl (lenOf pd_34 rfl) (by decide) (by decide) (Nat.le_of_ble_eq_true rfl) (by decide) (by decide) ?_
      rintro v1413 T1413 h1413 L1413 X1413 e1413 ⟨rfl, N1413, rfl⟩
      have N1413a := Fr.app N1412a N1413
      show Ends p e below _ T1413 (mkF m 300 #[iv i0, iv i1, iv ch387, iv ch388, iv ch389, iv ch390, iv (2 : Int32), iv (3 : Int32), rv a1093, rv a1117, rv a1130, rv a1182, rv a1210, rv a1371, rv a1093] [(.int ch388)])
      refine go (fun _ => XS.iloadN X1413.here hx rfl (hb hby at_300) rfl) ?_
      show Ends p e below _ T1413 (mkF m 301 #[iv i0, iv i1, iv ch387, iv ch388, iv ch389, iv ch390, iv (2 : Int32), iv (3 : Int32), rv a1093, rv a1117, rv a1130, rv a1182, rv a1210, rv a1371, rv a1093] [(.int ch388), (.int ch388)])
      refine go (fun _ => XS.icmpYes X1413.here hx rfl (pc0 := 301) (pc' := 306) rfl (hb hby at_301) rfl (XT.ii_eq_t (rfl : ch388 = ch388)) (by decide) (by decide)) ?_
      show Ends p e below _ T1413 (mkF m 306 #[iv i0, iv i1, iv ch387, iv ch388, iv ch389, iv ch390, iv (2 : Int32), iv (3 : Int32), rv a1093, rv a1117, rv a1130, rv a1182, rv a1210, rv a1371, rv a1093] [])
      refine go (fun _ => XS.iload X1413.here hx rfl (hb hby at_306) rfl) ?_
      refine go (fun _ => XT.iconstV X1413.here hx rfl (3 : Int32) (hb hby at_308) (by decide)) ?_
      show Ends p e below _ T1413 (mkF m 309 #[iv i0, iv i1, iv ch387, iv ch388, iv ch389, iv ch390, iv (2 : Int32), iv (3 : Int32), rv a1093, rv a1117, rv a1130, rv a1182, rv a1210, rv a1371, rv a1093] [(.int (3 : Int32)), (.int (2 : Int32))])
      refine go (fun _ => XS.icmpYes X1413.here hx rfl (pc0 := 309) (pc' := 325) rfl (hb hby at_309) rfl (XT.ii_lt_t ((by decide) : (2 : Int32) < (3 : Int32))) (by decide) (by decide)) ?_
      show Ends p e below _ T1413 (mkF m 325 #[iv i0, iv i1, iv ch387, iv ch388, iv ch389, iv ch390, iv (2 : Int32), iv (3 : Int32), rv a1093, rv a1117, rv a1130, rv a1182, rv a1210, rv a1371, rv a1093] [])
      refine go (fun _ => XS.aload X1413.here hx rfl (hb hby at_325) rfl rfl) ?_
      show Ends p e below _ T1413 (mkF m 327 #[iv i0, iv i1, iv ch387, iv ch388, iv ch389, iv ch390, iv (2 : Int32), iv (3 : Int32), rv a1093, rv a1117, rv a1130, rv a1182, rv a1210, rv a1371, rv a1093] [(.ref a1210)])
      refine cVirt X1413 hx hZ hown (by rw [hml]; rfl) e1413 (hwi hw 164 rfl) (hwi hw 165 rfl) (hwi hw 167 rfl) (hwi hw 166 rfl) (hwi hw 46 rfl) (hwi hw 168 rfl) (notFace_of_selects (args := #[]) (mvT hZ (hwi hw 167 rfl))) a1210 F1402 [] [] rfl (rm_size hw a1210 (3 : Int32) _ F1404) (hb hby at_327) rfl (lenOf pd_33 rfl) (by decide) (by decide) (Nat.le_of_ble_eq_true rfl) (by decide) (by decide) ?_
      rintro v1414 T1414 h1414 L1414 X1414 e1414 ⟨rfl, N1414, rfl⟩
      have N1414a := Fr.app N1413a N1414
      show Ends p e below _ T1414 (mkF m 330 #[iv i0, iv i1, iv ch387, iv ch388, iv ch389, iv ch390, iv (2 : Int32), iv (3 : Int32), rv a1093, rv a1117, rv a1130, rv a1182, rv a1210, rv a1371, rv a1093] [(.int (3 : Int32))])
      refine go (fun _ => XS.iload X1414.here hx rfl (hb hby at_330) rfl) ?_
      show Ends p e below _ T1414 (mkF m 332 #[iv i0, iv i1, iv ch387, iv ch388, iv ch389, iv ch390, iv (2 : Int32), iv (3 : Int32), rv a1093, rv a1117, rv a1130, rv a1182, rv a1210, rv a1371, rv a1093] [(.int (3 : Int32)), (.int (3 : Int32))])
      refine go (fun _ => XS.icmpNo X1414.here hx rfl (hb hby at_332) rfl (XT.ii_ne_f ((by decide) : (3 : Int32) = (3 : Int32)))) ?_
      show Ends p e below _ T1414 (mkF m 335 #[iv i0, iv i1, iv ch387, iv ch388, iv ch389, iv ch390, iv (2 : Int32), iv (3 : Int32), rv a1093, rv a1117, rv a1130, rv a1182, rv a1210, rv a1371, rv a1093] [])
      refine go (fun _ => XT.iconstV X1414.here hx rfl (1 : Int32) (hb hby at_335) (by decide)) ?_
      refine go (fun _ => XS.goto X1414.here hx rfl (pc0 := 336) (pc' := 340) rfl (hb hby at_336) (by decide) (by decide)) ?_
      show Ends p e below _ T1414 (mkF m 340 #[iv i0, iv i1, iv ch387, iv ch388, iv ch389, iv ch390, iv (2 : Int32), iv (3 : Int32), rv a1093, rv a1117, rv a1130, rv a1182, rv a1210, rv a1371, rv a1093] [(.int (1 : Int32))])
      exact endN X1414 hx hret (by simp) (hb hby at_340) (lvW X1414 hlk hZ (own_EW hw) hs0 hS hk H1399 e1414 (fun h => by rw [hret] at h; cases h) ⟨rfl, N1414a⟩ (by decide) (by decide))
    · rw [q1264]
      show Ends p e below _ T1239 (mkF m 193 #[iv i0, iv i1, iv ch387, iv ch388, iv ch389, iv ch390, iv (2 : Int32), iv (4 : Int32), rv a1093, rv a1117, rv a1130, rv a1182, rv a1210, .unset, .unset] [])
      refine go (fun _ => XS.iload X1239.here hx rfl (hb hby at_193) rfl) ?_
      refine go (fun _ => XT.iconstV X1239.here hx rfl (1 : Int32) (hb hby at_195) (by decide)) ?_
      show Ends p e below _ T1239 (mkF m 196 #[iv i0, iv i1, iv ch387, iv ch388, iv ch389, iv ch390, iv (2 : Int32), iv (4 : Int32), rv a1093, rv a1117, rv a1130, rv a1182, rv a1210, .unset, .unset] [(.int (1 : Int32)), (.int (4 : Int32))])
      refine go (fun _ => XS.icmpNo X1239.here hx rfl (hb hby at_196) rfl (XT.ii_le_f ((by decide) : (1 : Int32) < (4 : Int32)))) ?_
      show Ends p e below _ T1239 (mkF m 199 #[iv i0, iv i1, iv ch387, iv ch388, iv ch389, iv ch390, iv (2 : Int32), iv (4 : Int32), rv a1093, rv a1117, rv a1130, rv a1182, rv a1210, .unset, .unset] [])
      refine go (fun _ => XS.aload X1239.here hx rfl (hb hby at_199) rfl rfl) ?_
      refine go (fun _ => XS.aload X1239.here hx rfl (hb hby at_201) rfl rfl) ?_
      show Ends p e below _ T1239 (mkF m 203 #[iv i0, iv i1, iv ch387, iv ch388, iv ch389, iv ch390, iv (2 : Int32), iv (4 : Int32), rv a1093, rv a1117, rv a1130, rv a1182, rv a1210, .unset, .unset] [(.ref a1117), (.ref a1210)])
      have F1415 := (Exa.keep F1237 K1239)
      have F1416 := (Exa.keep F1243 K1239)
      refine cVirt X1239 hx hZ hown (by rw [hml]; rfl) e1239 (hwi hw 68 rfl) (hwi hw 69 rfl) (hwi hw 71 rfl) (hwi hw 70 rfl) (hwi hw 46 rfl) (hwi hw 72 rfl) (notFace_of_selects (args := #[]) (mvT hZ (hwi hw 71 rfl))) a1210 F1415 [(.ref a1117)] [] rfl (rm_add_1 hw a1210 a1117 b1239 k1239 (1 : Int32) a1093 _ O1263 f1210 F1415 F11239 F21239 F31239 f1260 n1251 O1239 V1239 F1416 (Ne.symm n1221) (Ne.symm n1244)) (hb hby at_203) rfl (lenOf pd_30 rfl) (by decide) (by decide) (Nat.le_of_ble_eq_true rfl) (by decide) (by decide) ?_
      rintro v1417 T1417 h1417 L1417 X1417 e1417 ⟨rfl, N1417, K1417, F11417, F21417, F31417, V1417⟩
      have N1417a := Fr.app N1239a N1417
      have F1419 := (Safe.keep K1239 sf1261 H1235.1 F1262)
      have sf1418 : ∀ x ∈ [a1210, b1239], Safe Z own_EL s.vm h1239 x := (sfS F1419 (sfS (Safe.arv hZ.alike V1239 (by decide)) sf0))
      have C1418 : CHr Z own_EL s.vm h1239 s.vm h1417 := CHr.keep K1417 sf1418 H1261.1
      have hk := Nat.le_trans hk C1418.2.1
      have H1418 := H1261.trans C1418
      have O1420 : Ext Z.heap h1417 := xk O1263 K1417 (allS f1210 (allS f1260 all0))
      show Ends p e below _ T1417 (mkF m 206 #[iv i0, iv i1, iv ch387, iv ch388, iv ch389, iv ch390, iv (2 : Int32), iv (4 : Int32), rv a1093, rv a1117, rv a1130, rv a1182, rv a1210, .unset, .unset] [(.int (1 : Int32))])
      refine go (fun _ => XT.pop X1417.here hx rfl (hb hby at_206) rfl rfl) ?_
      refine go (fun _ => XS.iload X1417.here hx rfl (hb hby at_207) rfl) ?_
      refine go (fun _ => XT.iconstV X1417.here hx rfl (2 : Int32) (hb hby at_209) (by decide)) ?_
      show Ends p e below _ T1417 (mkF m 210 #[iv i0, iv i1, iv ch387, iv ch388, iv ch389, iv ch390, iv (2 : Int32), iv (4 : Int32), rv a1093, rv a1117, rv a1130, rv a1182, rv a1210, .unset, .unset] [(.int (2 : Int32)), (.int (4 : Int32))])
      refine go (fun _ => XS.icmpNo X1417.here hx rfl (hb hby at_210) rfl (XT.ii_le_f ((by decide) : (2 : Int32) < (4 : Int32)))) ?_
      show Ends p e below _ T1417 (mkF m 213 #[iv i0, iv i1, iv ch387, iv ch388, iv ch389, iv ch390, iv (2 : Int32), iv (4 : Int32), rv a1093, rv a1117, rv a1130, rv a1182, rv a1210, .unset, .unset] [])
      refine go (fun _ => XS.aload X1417.here hx rfl (hb hby at_213) rfl rfl) ?_
      refine go (fun _ => XS.aload X1417.here hx rfl (hb hby at_215) rfl rfl) ?_
      show Ends p e below _ T1417 (mkF m 217 #[iv i0, iv i1, iv ch387, iv ch388, iv ch389, iv ch390, iv (2 : Int32), iv (4 : Int32), rv a1093, rv a1117, rv a1130, rv a1182, rv a1210, .unset, .unset] [(.ref a1130), (.ref a1210)])
      have F1421 := (Exa.keep F1415 K1417)
      have F1422 := (Exa.keep (Exa.keep F1245 K1239) K1417)
      refine cVirt X1417 hx hZ hown (by rw [hml]; rfl) e1417 (hwi hw 68 rfl) (hwi hw 69 rfl) (hwi hw 71 rfl) (hwi hw 70 rfl) (hwi hw 46 rfl) (hwi hw 72 rfl) (notFace_of_selects (args := #[]) (mvT hZ (hwi hw 71 rfl))) a1210 F1421 [(.ref a1130)] [] rfl (rm_add_2 hw a1210 a1130 b1239 k1239 (2 : Int32) a1093 a1117 _ O1420 f1210 F1421 F11417 F21417 F31417 f1260 n1251 O1239 V1417 F1422 (Ne.symm n1222) (Ne.symm n1246)) (hb hby at_217) rfl (lenOf pd_30 rfl) (by decide) (by decide) (Nat.le_of_ble_eq_true rfl) (by decide) (by decide) ?_
      rintro v1423 T1423 h1423 L1423 X1423 e1423 ⟨rfl, N1423, K1423, F11423, F21423, F31423, V1423⟩
      have N1423a := Fr.app N1417a N1423
      have F1425 := (Safe.keep K1417 sf1418 H1261.1 F1419)
      have sf1424 : ∀ x ∈ [a1210, b1239], Safe Z own_EL s.vm h1417 x := (sfS F1425 (sfS (Safe.arv hZ.alike V1417 (by decide)) sf0))
      have C1424 : CHr Z own_EL s.vm h1417 s.vm h1423 := CHr.keep K1423 sf1424 H1418.1
      have hk := Nat.le_trans hk C1424.2.1
      have H1424 := H1418.trans C1424
      have O1426 : Ext Z.heap h1423 := xk O1420 K1423 (allS f1210 (allS f1260 all0))
      show Ends p e below _ T1423 (mkF m 220 #[iv i0, iv i1, iv ch387, iv ch388, iv ch389, iv ch390, iv (2 : Int32), iv (4 : Int32), rv a1093, rv a1117, rv a1130, rv a1182, rv a1210, .unset, .unset] [(.int (1 : Int32))])
      refine go (fun _ => XT.pop X1423.here hx rfl (hb hby at_220) rfl rfl) ?_
      refine go (fun _ => XS.iload X1423.here hx rfl (hb hby at_221) rfl) ?_
      refine go (fun _ => XT.iconstV X1423.here hx rfl (3 : Int32) (hb hby at_223) (by decide)) ?_
      show Ends p e below _ T1423 (mkF m 224 #[iv i0, iv i1, iv ch387, iv ch388, iv ch389, iv ch390, iv (2 : Int32), iv (4 : Int32), rv a1093, rv a1117, rv a1130, rv a1182, rv a1210, .unset, .unset] [(.int (3 : Int32)), (.int (4 : Int32))])
      refine go (fun _ => XS.icmpNo X1423.here hx rfl (hb hby at_224) rfl (XT.ii_le_f ((by decide) : (3 : Int32) < (4 : Int32)))) ?_
      show Ends p e below _ T1423 (mkF m 227 #[iv i0, iv i1, iv ch387, iv ch388, iv ch389, iv ch390, iv (2 : Int32), iv (4 : Int32), rv a1093, rv a1117, rv a1130, rv a1182, rv a1210, .unset, .unset] [])
      refine go (fun _ => XS.aload X1423.here hx rfl (hb hby at_227) rfl rfl) ?_
      refine go (fun _ => XS.aload X1423.here hx rfl (hb hby at_229) rfl rfl) ?_
      show Ends p e below _ T1423 (mkF m 231 #[iv i0, iv i1, iv ch387, iv ch388, iv ch389, iv ch390, iv (2 : Int32), iv (4 : Int32), rv a1093, rv a1117, rv a1130, rv a1182, rv a1210, .unset, .unset] [(.ref a1182), (.ref a1210)])
      have F1427 := (Exa.keep F1421 K1423)
      have F1428 := (Exa.keep (Exa.keep (Exa.keep F1249 K1239) K1417) K1423)
      refine cVirt X1423 hx hZ hown (by rw [hml]; rfl) e1423 (hwi hw 68 rfl) (hwi hw 69 rfl) (hwi hw 71 rfl) (hwi hw 70 rfl) (hwi hw 46 rfl) (hwi hw 72 rfl) (notFace_of_selects (args := #[]) (mvT hZ (hwi hw 71 rfl))) a1210 F1427 [(.ref a1182)] [] rfl (rm_add_3 hw a1210 a1182 b1239 k1239 (3 : Int32) a1093 a1117 a1130 _ O1426 f1210 F1427 F11423 F21423 F31423 f1260 n1251 O1239 V1423 F1428 (Ne.symm n1224) (Ne.symm n1250)) (hb hby at_231) rfl (lenOf pd_30 rfl) (by decide) (by decide) (Nat.le_of_ble_eq_true rfl) (by decide) (by decide) ?_
      rintro v1429 T1429 h1429 L1429 X1429 e1429 ⟨rfl, N1429, K1429, F11429, F21429, F31429, V1429⟩
      have N1429a := Fr.app N1423a N1429
      have F1431 := (Safe.keep K1423 sf1424 H1418.1 F1425)
      have sf1430 : ∀ x ∈ [a1210, b1239], Safe Z own_EL s.vm h1423 x := (sfS F1431 (sfS (Safe.arv hZ.alike V1423 (by decide)) sf0))
      have C1430 : CHr Z own_EL s.vm h1423 s.vm h1429 := CHr.keep K1429 sf1430 H1424.1
      have hk := Nat.le_trans hk C1430.2.1
      have H1430 := H1424.trans C1430
      have O1432 : Ext Z.heap h1429 := xk O1426 K1429 (allS f1210 (allS f1260 all0))
      show Ends p e below _ T1429 (mkF m 234 #[iv i0, iv i1, iv ch387, iv ch388, iv ch389, iv ch390, iv (2 : Int32), iv (4 : Int32), rv a1093, rv a1117, rv a1130, rv a1182, rv a1210, .unset, .unset] [(.int (1 : Int32))])
      refine go (fun _ => XT.pop X1429.here hx rfl (hb hby at_234) rfl rfl) ?_
      show Ends p e below _ T1429 (mkF m 235 #[iv i0, iv i1, iv ch387, iv ch388, iv ch389, iv ch390, iv (2 : Int32), iv (4 : Int32), rv a1093, rv a1117, rv a1130, rv a1182, rv a1210, .unset, .unset] [])
      obtain ⟨T1433, h1433, X1433, e1433, E1433, A1433, D1433, U1433, s1433⟩ := newO X1429 hx hZ hown (hwi hw 99 rfl) (hwi hw 100 rfl) (hwi hw 101 rfl) e1429 (g := (mkF m 235 #[iv i0, iv i1, iv ch387, iv ch388, iv ch389, iv ch390, iv (2 : Int32), iv (4 : Int32), rv a1093, rv a1117, rv a1130, rv a1182, rv a1210, .unset, .unset] [])) rfl (hb hby at_235) (by decide) (by decide)
      have F1434 := (Exa.keep (Exa.keep (Exa.keep (Exa.keep F1238 K1239) K1417) K1423) K1429)
      have F1435 := (Arv.keep (Arv.keep (Arv.keep (Arv.keep F1241 K1239 (ninS n1220 nin0)) K1417 (ninS n1220 (ninS n1242 nin0))) K1423 (ninS n1220 (ninS n1242 nin0))) K1429 (ninS n1220 (ninS n1242 nin0)))
      have F1436 := (Exa.keep (Exa.keep (Exa.keep F1416 K1417) K1423) K1429)
      have F1437 := (Exa.keep (Exa.keep F1422 K1423) K1429)
      have F1438 := (Arv.keep (Arv.keep (Arv.keep (Arv.keep F1247 K1239 (ninS n1223 nin0)) K1417 (ninS n1223 (ninS n1248 nin0))) K1423 (ninS n1223 (ninS n1248 nin0))) K1429 (ninS n1223 (ninS n1248 nin0)))
      have F1439 := (Exa.keep F1428 K1429)
      have F1440 := (Exa.keep F1427 K1429)
      have F1441 := (Arv.keep (Arv.keep (Arv.keep (Arv.keep F1252 K1239 (ninS n1225 nin0)) K1417 (ninS n1225 (ninS n1253 nin0))) K1423 (ninS n1225 (ninS n1253 nin0))) K1429 (ninS n1225 (ninS n1253 nin0)))
      have F1442 := (Arv.keep (Arv.keep (Arv.keep (Arv.keep F1254 K1239 (ninS n1226 nin0)) K1417 (ninS n1226 (ninS n1255 nin0))) K1423 (ninS n1226 (ninS n1255 nin0))) K1429 (ninS n1226 (ninS n1255 nin0)))
      have F1443 := (Arv.keep (Arv.keep (Arv.keep (Arv.keep F1256 K1239 (ninS n1227 nin0)) K1417 (ninS n1227 (ninS n1257 nin0))) K1423 (ninS n1227 (ninS n1257 nin0))) K1429 (ninS n1227 (ninS n1257 nin0)))
      have F1444 := (Arv.keep (Arv.keep (Arv.keep (Arv.keep F1258 K1239 (ninS n1228 nin0)) K1417 (ninS n1228 (ninS n1259 nin0))) K1423 (ninS n1228 (ninS n1259 nin0))) K1429 (ninS n1228 (ninS n1259 nin0)))
      obtain ⟨a1433, g1433⟩ : ∃ z : Addr, z = h1429.size := ⟨_, rfl⟩
      have n1445 : a1093 ≠ a1433 := fun q => absurd (F1434.lt) (by rw [q, g1433]; exact Nat.lt_irrefl _)
      have n1446 : a1096 ≠ a1433 := fun q => absurd (F1435.lt) (by rw [q, g1433]; exact Nat.lt_irrefl _)
      have n1447 : a1117 ≠ a1433 := fun q => absurd (F1436.lt) (by rw [q, g1433]; exact Nat.lt_irrefl _)
      have n1448 : a1130 ≠ a1433 := fun q => absurd (F1437.lt) (by rw [q, g1433]; exact Nat.lt_irrefl _)
      have n1449 : a1141 ≠ a1433 := fun q => absurd (F1438.lt) (by rw [q, g1433]; exact Nat.lt_irrefl _)
      have n1450 : a1182 ≠ a1433 := fun q => absurd (F1439.lt) (by rw [q, g1433]; exact Nat.lt_irrefl _)
      have n1451 : a1210 ≠ a1433 := fun q => absurd (F1440.lt) (by rw [q, g1433]; exact Nat.lt_irrefl _)
      have n1452 : b1110 ≠ a1433 := fun q => absurd (F1441.lt) (by rw [q, g1433]; exact Nat.lt_irrefl _)
      have n1453 : b1117 ≠ a1433 := fun q => absurd (F1442.lt) (by rw [q, g1433]; exact Nat.lt_irrefl _)
      have n1454 : b1165 ≠ a1433 := fun q => absurd (F1443.lt) (by rw [q, g1433]; exact Nat.lt_irrefl _)
      have n1455 : b1182 ≠ a1433 := fun q => absurd (F1444.lt) (by rw [q, g1433]; exact Nat.lt_irrefl _)
      have n1456 : b1239 ≠ a1433 := fun q => absurd (V1429.lt) (by rw [q, g1433]; exact Nat.lt_irrefl _)
      have f1433 : Z.heap.size ≤ a1433 := by rw [g1433]; exact (O1432).1
      rw [← g1433] at A1433 D1433 U1433 s1433
      have C1457 : CHr Z own_EL s.vm h1429 s.vm h1433 := CHr.ext E1433 H1430.1
      have hk := Nat.le_trans hk C1457.2.1
      have H1457 := H1430.trans C1457
      have O1458 : Ext Z.heap h1433 := xx O1432 E1433
      have SF1433 : Safe Z own_EL s.vm h1433 a1433 := Safe.ext E1433 H1430.1 (Safe.new (by rw [g1433]; exact Nat.le_refl _))
      refine go s1433 ?_
      show Ends p e below _ T1433 (mkF m 238 #[iv i0, iv i1, iv ch387, iv ch388, iv ch389, iv ch390, iv (2 : Int32), iv (4 : Int32), rv a1093, rv a1117, rv a1130, rv a1182, rv a1210, .unset, .unset] [(.ref a1433)])
      refine go (fun _ => XS.dup X1433.here hx rfl (hb hby at_238) rfl rfl) ?_
      refine go (fun _ => XS.aload X1433.here hx rfl (hb hby at_239) rfl rfl) ?_
      show Ends p e below _ T1433 (mkF m 241 #[iv i0, iv i1, iv ch387, iv ch388, iv ch389, iv ch390, iv (2 : Int32), iv (4 : Int32), rv a1093, rv a1117, rv a1130, rv a1182, rv a1210, .unset, .unset] [(.ref a1210), (.ref a1433), (.ref a1433)])
      have F1459 := (D1433 (Or.inr (hwi hw 107 rfl)) (ty := (.object "java/util/List")) (by decide))
      refine cInit X1433 hx hZ hown (by rw [hml]; rfl) e1433 (hwi hw 102 rfl) (hwi hw 103 rfl) (hwi hw 101 rfl) (hwi hw 104 rfl) a1433 [(.ref a1210)] [(.ref a1433)] rfl (rm_pg hw a1433 a1210 _ O1458 f1433 A1433 F1459  ) (hb hby at_241) rfl (lenOf pd_31 rfl) rfl (by decide) (by decide) (Nat.le_of_ble_eq_true rfl) (by decide) (by decide) ?_
      rintro v1460 T1460 h1460 L1460 X1460 e1460 ⟨rfl, N1460, K1460, F1460_0⟩
      have N1460a := Fr.app N1429a N1460
      have sf1461 : ∀ x ∈ [a1433], Safe Z own_EL s.vm h1433 x := (sfS SF1433 sf0)
      have C1461 : CHr Z own_EL s.vm h1433 s.vm h1460 := CHr.keep K1460 sf1461 H1457.1
      have hk := Nat.le_trans hk C1461.2.1
      have H1461 := H1457.trans C1461
      have O1462 : Ext Z.heap h1460 := xk O1458 K1460 (allS f1433 all0)
      show Ends p e below _ T1460 (mkF m 244 #[iv i0, iv i1, iv ch387, iv ch388, iv ch389, iv ch390, iv (2 : Int32), iv (4 : Int32), rv a1093, rv a1117, rv a1130, rv a1182, rv a1210, .unset, .unset] [(.ref a1433)])
      refine go (fun _ => XS.astore X1460.here hx rfl (hb hby at_244) rfl rfl (l' := #[iv i0, iv i1, iv ch387, iv ch388, iv ch389, iv ch390, iv (2 : Int32), iv (4 : Int32), rv a1093, rv a1117, rv a1130, rv a1182, rv a1210, rv a1433, .unset]) rfl) ?_
      refine go (fun _ => XS.aload X1460.here hx rfl (hb hby at_246) rfl rfl) ?_
      show Ends p e below _ T1460 (mkF m 248 #[iv i0, iv i1, iv ch387, iv ch388, iv ch389, iv ch390, iv (2 : Int32), iv (4 : Int32), rv a1093, rv a1117, rv a1130, rv a1182, rv a1210, rv a1433, .unset] [(.ref a1433)])
      have F1463 := (Exa.keep (Exa.ext E1433 F1434) K1460)
      have F1464 := (Exa.keep (Exa.ext E1433 F1440) K1460)
      have F1465 := (Fld.keep (Fld.ext E1433 F21429) K1460 (ninS n1451 nin0))
      have F1466 := (Fld.keep (Fld.ext E1433 F31429) K1460 (ninS n1451 nin0))
      have F1467 := (Arv.keep (Arv.ext V1429 E1433) K1460 (ninS n1456 nin0))
      have F1469 := (Exa.keep A1433 K1460)
      refine cVirt X1460 hx hZ hown (by rw [hml]; rfl) e1460 (hwi hw 108 rfl) (hwi hw 109 rfl) (hwi hw 111 rfl) (hwi hw 110 rfl) (hwi hw 101 rfl) (hwi hw 112 rfl) (notFace_of_selects (args := #[]) (mvT hZ (hwi hw 111 rfl))) a1433 F1469 [] [] rfl (rm_name hw a1433 a1210 b1239 a1093 k1239 (4 : Int32) _ _ F1460_0 F1463 F1464 F1465 F1466 F1467 (by decide)) (hb hby at_248) rfl (lenOf pd_32 rfl) (by decide) (by decide) (Nat.le_of_ble_eq_true rfl) (by decide) (by decide) ?_
      rintro v1468 T1468 h1468 L1468 X1468 e1468 ⟨rfl, N1468, rfl⟩
      have N1468a := Fr.app N1460a N1468
      show Ends p e below _ T1468 (mkF m 251 #[iv i0, iv i1, iv ch387, iv ch388, iv ch389, iv ch390, iv (2 : Int32), iv (4 : Int32), rv a1093, rv a1117, rv a1130, rv a1182, rv a1210, rv a1433, .unset] [(.ref a1093)])
      refine go (fun _ => XS.astore X1468.here hx rfl (hb hby at_251) rfl rfl (l' := #[iv i0, iv i1, iv ch387, iv ch388, iv ch389, iv ch390, iv (2 : Int32), iv (4 : Int32), rv a1093, rv a1117, rv a1130, rv a1182, rv a1210, rv a1433, rv a1093]) rfl) ?_
      refine go (fun _ => XS.aload X1468.here hx rfl (hb hby at_253) rfl rfl) ?_
      show Ends p e below _ T1468 (mkF m 255 #[iv i0, iv i1, iv ch387, iv ch388, iv ch389, iv ch390, iv (2 : Int32), iv (4 : Int32), rv a1093, rv a1117, rv a1130, rv a1182, rv a1210, rv a1433, rv a1093] [(.ref a1093)])
      refine go (fun _ => XS.ifnullNo X1468.here hx rfl (hb hby at_255) rfl) ?_
      show Ends p e below _ T1468 (mkF m 258 #[iv i0, iv i1, iv ch387, iv ch388, iv ch389, iv ch390, iv (2 : Int32), iv (4 : Int32), rv a1093, rv a1117, rv a1130, rv a1182, rv a1210, rv a1433, rv a1093] [])
      refine go (fun _ => XS.aload X1468.here hx rfl (hb hby at_258) rfl rfl) ?_
      show Ends p e below _ T1468 (mkF m 260 #[iv i0, iv i1, iv ch387, iv ch388, iv ch389, iv ch390, iv (2 : Int32), iv (4 : Int32), rv a1093, rv a1117, rv a1130, rv a1182, rv a1210, rv a1433, rv a1093] [(.ref a1093)])
      have F1470 := (Fld.keep (Fld.ext E1433 (Fld.keep (Fld.keep (Fld.keep (Fld.keep (Fld.keep (Fld.ext E1210 (Fld.keep (Fld.keep (Fld.other W1158 (Fld.other W1155 (Fld.ext E1141 (Fld.ext E1130 (Fld.keep Fc1110 K1117 nin0))) (Or.inl n1147)) (Or.inl n1147)) K1165 (ninS n1134 nin0)) K1182 nin0)) K1234 (ninS n1219 nin0)) K1239 (ninS n1219 nin0)) K1417 (ninS n1219 (ninS n1240 nin0))) K1423 (ninS n1219 (ninS n1240 nin0))) K1429 (ninS n1219 (ninS n1240 nin0)))) K1460 (ninS n1445 nin0))
      have F1471 := (Fld.keep (Fld.ext E1433 (Fld.keep (Fld.keep (Fld.keep (Fld.keep (Fld.keep (Fld.ext E1210 (Fld.keep (Fld.keep (Fld.other W1158 (Fld.other W1155 (Fld.ext E1141 (Fld.ext E1130 (Fld.keep Fv1110 K1117 nin0))) (Or.inl n1147)) (Or.inl n1147)) K1165 (ninS n1134 nin0)) K1182 nin0)) K1234 (ninS n1219 nin0)) K1239 (ninS n1219 nin0)) K1417 (ninS n1219 (ninS n1240 nin0))) K1423 (ninS n1219 (ninS n1240 nin0))) K1429 (ninS n1219 (ninS n1240 nin0)))) K1460 (ninS n1445 nin0))
      have F1472 := (Arv.keep (Arv.ext F1441 E1433) K1460 (ninS n1452 nin0))
      refine cVirt X1468 hx hZ hown (by rw [hml]; rfl) e1468 (hwi hw 136 rfl) (hwi hw 137 rfl) (hwi hw 139 rfl) (hwi hw 138 rfl) (hwi hw 2 rfl) (hwi hw 140 rfl) (notFace_of_selects (args := #[]) (mvT hZ (hwi hw 139 rfl))) a1093 F1463 [] [] rfl (rm_length hw a1093 b1110 k1110 (2 : Int32) _ _ O1462 cz SCS hcz F1470 F1463 F1471 F1472) (hb hby at_260) rfl (lenOf pd_33 rfl) (by decide) (by decide) (Nat.le_of_ble_eq_true rfl) (by decide) (by decide) ?_
      rintro v1473 T1473 h1473 L1473 X1473 e1473 ⟨rfl, N1473, rfl⟩
      have N1473a := Fr.app N1468a N1473
      show Ends p e below _ T1473 (mkF m 263 #[iv i0, iv i1, iv ch387, iv ch388, iv ch389, iv ch390, iv (2 : Int32), iv (4 : Int32), rv a1093, rv a1117, rv a1130, rv a1182, rv a1210, rv a1433, rv a1093] [(.int (2 : Int32))])
      refine go (fun _ => XS.iload X1473.here hx rfl (hb hby at_263) rfl) ?_
      show Ends p e below _ T1473 (mkF m 265 #[iv i0, iv i1, iv ch387, iv ch388, iv ch389, iv ch390, iv (2 : Int32), iv (4 : Int32), rv a1093, rv a1117, rv a1130, rv a1182, rv a1210, rv a1433, rv a1093] [(.int (2 : Int32)), (.int (2 : Int32))])
      refine go (fun _ => XS.icmpYes X1473.here hx rfl (pc0 := 265) (pc' := 270) rfl (hb hby at_265) rfl (XT.ii_eq_t ((by decide) : (2 : Int32) = (2 : Int32))) (by decide) (by decide)) ?_
      show Ends p e below _ T1473 (mkF m 270 #[iv i0, iv i1, iv ch387, iv ch388, iv ch389, iv ch390, iv (2 : Int32), iv (4 : Int32), rv a1093, rv a1117, rv a1130, rv a1182, rv a1210, rv a1433, rv a1093] [])
      refine go (fun _ => XS.iload X1473.here hx rfl (hb hby at_270) rfl) ?_
      refine go (fun _ => XT.iconstV X1473.here hx rfl (1 : Int32) (hb hby at_272) (by decide)) ?_
      show Ends p e below _ T1473 (mkF m 273 #[iv i0, iv i1, iv ch387, iv ch388, iv ch389, iv ch390, iv (2 : Int32), iv (4 : Int32), rv a1093, rv a1117, rv a1130, rv a1182, rv a1210, rv a1433, rv a1093] [(.int (1 : Int32)), (.int (2 : Int32))])
      refine go (fun _ => XS.icmpNo X1473.here hx rfl (hb hby at_273) rfl (XT.ii_lt_f ((by decide) : ¬ ((2 : Int32) < (1 : Int32))))) ?_
      show Ends p e below _ T1473 (mkF m 276 #[iv i0, iv i1, iv ch387, iv ch388, iv ch389, iv ch390, iv (2 : Int32), iv (4 : Int32), rv a1093, rv a1117, rv a1130, rv a1182, rv a1210, rv a1433, rv a1093] [])
      refine go (fun _ => XS.aload X1473.here hx rfl (hb hby at_276) rfl rfl) ?_
      refine go (fun _ => XT.iconstV X1473.here hx rfl (0 : Int32) (hb hby at_278) (by decide)) ?_
      show Ends p e below _ T1473 (mkF m 279 #[iv i0, iv i1, iv ch387, iv ch388, iv ch389, iv ch390, iv (2 : Int32), iv (4 : Int32), rv a1093, rv a1117, rv a1130, rv a1182, rv a1210, rv a1433, rv a1093] [(.int (0 : Int32)), (.ref a1093)])
      refine cVirt X1473 hx hZ hown (by rw [hml]; rfl) e1473 (hwi hw 146 rfl) (hwi hw 147 rfl) (hwi hw 149 rfl) (hwi hw 148 rfl) (hwi hw 2 rfl) (hwi hw 150 rfl) (notFace_of_selects (args := #[]) (mvT hZ (hwi hw 149 rfl))) a1093 F1463 [(.int (0 : Int32))] [] rfl (rm_sc_0_2 hw a1093 b1110 k1110 ch387 ch388 wS _ O1462 cz SCS hcz hsf SS F1470 F1463 F1471 F1472 lc387 gc387) (hb hby at_279) rfl (lenOf pd_34 rfl) (by decide) (by decide) (Nat.le_of_ble_eq_true rfl) (by decide) (by decide) ?_
      rintro v1474 T1474 h1474 L1474 X1474 e1474 ⟨rfl, N1474, rfl⟩
      have N1474a := Fr.app N1473a N1474
      show Ends p e below _ T1474 (mkF m 282 #[iv i0, iv i1, iv ch387, iv ch388, iv ch389, iv ch390, iv (2 : Int32), iv (4 : Int32), rv a1093, rv a1117, rv a1130, rv a1182, rv a1210, rv a1433, rv a1093] [(.int ch387)])
      refine go (fun _ => XS.iloadN X1474.here hx rfl (hb hby at_282) rfl) ?_
      show Ends p e below _ T1474 (mkF m 283 #[iv i0, iv i1, iv ch387, iv ch388, iv ch389, iv ch390, iv (2 : Int32), iv (4 : Int32), rv a1093, rv a1117, rv a1130, rv a1182, rv a1210, rv a1433, rv a1093] [(.int ch387), (.int ch387)])
      refine go (fun _ => XS.icmpYes X1474.here hx rfl (pc0 := 283) (pc' := 288) rfl (hb hby at_283) rfl (XT.ii_eq_t (rfl : ch387 = ch387)) (by decide) (by decide)) ?_
      show Ends p e below _ T1474 (mkF m 288 #[iv i0, iv i1, iv ch387, iv ch388, iv ch389, iv ch390, iv (2 : Int32), iv (4 : Int32), rv a1093, rv a1117, rv a1130, rv a1182, rv a1210, rv a1433, rv a1093] [])
      refine go (fun _ => XS.iload X1474.here hx rfl (hb hby at_288) rfl) ?_
      refine go (fun _ => XT.iconstV X1474.here hx rfl (2 : Int32) (hb hby at_290) (by decide)) ?_
      show Ends p e below _ T1474 (mkF m 291 #[iv i0, iv i1, iv ch387, iv ch388, iv ch389, iv ch390, iv (2 : Int32), iv (4 : Int32), rv a1093, rv a1117, rv a1130, rv a1182, rv a1210, rv a1433, rv a1093] [(.int (2 : Int32)), (.int (2 : Int32))])
      refine go (fun _ => XS.icmpNo X1474.here hx rfl (hb hby at_291) rfl (XT.ii_lt_f ((by decide) : ¬ ((2 : Int32) < (2 : Int32))))) ?_
      show Ends p e below _ T1474 (mkF m 294 #[iv i0, iv i1, iv ch387, iv ch388, iv ch389, iv ch390, iv (2 : Int32), iv (4 : Int32), rv a1093, rv a1117, rv a1130, rv a1182, rv a1210, rv a1433, rv a1093] [])
      refine go (fun _ => XS.aload X1474.here hx rfl (hb hby at_294) rfl rfl) ?_
      refine go (fun _ => XT.iconstV X1474.here hx rfl (1 : Int32) (hb hby at_296) (by decide)) ?_
      show Ends p e below _ T1474 (mkF m 297 #[iv i0, iv i1, iv ch387, iv ch388, iv ch389, iv ch390, iv (2 : Int32), iv (4 : Int32), rv a1093, rv a1117, rv a1130, rv a1182, rv a1210, rv a1433, rv a1093] [(.int (1 : Int32)), (.ref a1093)])
      refine cVirt X1474 hx hZ hown (by rw [hml]; rfl) e1474 (hwi hw 146 rfl) (hwi hw 147 rfl) (hwi hw 149 rfl) (hwi hw 148 rfl) (hwi hw 2 rfl) (hwi hw 150 rfl) (notFace_of_selects (args := #[]) (mvT hZ (hwi hw 149 rfl))) a1093 F1463 [(.int (1 : Int32))] [] rfl (rm_sc_1_2 hw a1093 b1110 k1110 ch387 ch388 wS _ O1462 cz SCS hcz hsf SS F1470 F1463 F1471 F1472 lc388 gc388) (hb hby at_297) rfl (lenOf pd_34 rfl) (by decide) (by decide) (Nat.le_of_ble_eq_true rfl) (by decide) (by decide) ?_
      rintro v1475 T1475 h1475 L1475 X1475 e1475 ⟨rfl, N1475, rfl⟩
      have N1475a := Fr.app N1474a N1475
      show Ends p e below _ T1475 (mkF m 300 #[iv i0, iv i1, iv ch387, iv ch388, iv ch389, iv ch390, iv (2 : Int32), iv (4 : Int32), rv a1093, rv a1117, rv a1130, rv a1182, rv a1210, rv a1433, rv a1093] [(.int ch388)])
      refine go (fun _ => XS.iloadN X1475.here hx rfl (hb hby at_300) rfl) ?_
      show Ends p e below _ T1475 (mkF m 301 #[iv i0, iv i1, iv ch387, iv ch388, iv ch389, iv ch390, iv (2 : Int32), iv (4 : Int32), rv a1093, rv a1117, rv a1130, rv a1182, rv a1210, rv a1433, rv a1093] [(.int ch388), (.int ch388)])
      refine go (fun _ => XS.icmpYes X1475.here hx rfl (pc0 := 301) (pc' := 306) rfl (hb hby at_301) rfl (XT.ii_eq_t (rfl : ch388 = ch388)) (by decide) (by decide)) ?_
      show Ends p e below _ T1475 (mkF m 306 #[iv i0, iv i1, iv ch387, iv ch388, iv ch389, iv ch390, iv (2 : Int32), iv (4 : Int32), rv a1093, rv a1117, rv a1130, rv a1182, rv a1210, rv a1433, rv a1093] [])
      refine go (fun _ => XS.iload X1475.here hx rfl (hb hby at_306) rfl) ?_
      refine go (fun _ => XT.iconstV X1475.here hx rfl (3 : Int32) (hb hby at_308) (by decide)) ?_
      show Ends p e below _ T1475 (mkF m 309 #[iv i0, iv i1, iv ch387, iv ch388, iv ch389, iv ch390, iv (2 : Int32), iv (4 : Int32), rv a1093, rv a1117, rv a1130, rv a1182, rv a1210, rv a1433, rv a1093] [(.int (3 : Int32)), (.int (2 : Int32))])
      refine go (fun _ => XS.icmpYes X1475.here hx rfl (pc0 := 309) (pc' := 325) rfl (hb hby at_309) rfl (XT.ii_lt_t ((by decide) : (2 : Int32) < (3 : Int32))) (by decide) (by decide)) ?_
      show Ends p e below _ T1475 (mkF m 325 #[iv i0, iv i1, iv ch387, iv ch388, iv ch389, iv ch390, iv (2 : Int32), iv (4 : Int32), rv a1093, rv a1117, rv a1130, rv a1182, rv a1210, rv a1433, rv a1093] [])
      refine go (fun _ => XS.aload X1475.here hx rfl (hb hby at_325) rfl rfl) ?_
      show Ends p e below _ T1475 (mkF m 327 #[iv i0, iv i1, iv ch387, iv ch388, iv ch389, iv ch390, iv (2 : Int32), iv (4 : Int32), rv a1093, rv a1117, rv a1130, rv a1182, rv a1210, rv a1433, rv a1093] [(.ref a1210)])
      refine cVirt X1475 hx hZ hown (by rw [hml]; rfl) e1475 (hwi hw 164 rfl) (hwi hw 165 rfl) (hwi hw 167 rfl) (hwi hw 166 rfl) (hwi hw 46 rfl) (hwi hw 168 rfl) (notFace_of_selects (args := #[]) (mvT hZ (hwi hw 167 rfl))) a1210 F1464 [] [] rfl (rm_size hw a1210 (4 : Int32) _ F1466) (hb hby at_327) rfl (lenOf pd_33 rfl) (by decide) (by decide) (Nat.le_of_ble_eq_true rfl) (by decide) (by decide) ?_
      rintro v1476 T1476 h1476 L1476 X1476 e1476 ⟨rfl, N1476, rfl⟩
      have N1476a := Fr.app N1475a N1476
      show Ends p e below _ T1476 (mkF m 330 #[iv i0, iv i1, iv ch387, iv ch388, iv ch389, iv ch390, iv (2 : Int32), iv (4 : Int32), rv a1093, rv a1117, rv a1130, rv a1182, rv a1210, rv a1433, rv a1093] [(.int (4 : Int32))])
      refine go (fun _ => XS.iload X1476.here hx rfl (hb hby at_330) rfl) ?_
      show Ends p e below _ T1476 (mkF m 332 #[iv i0, iv i1, iv ch387, iv ch388, iv ch389, iv ch390, iv (2 : Int32), iv (4 : Int32), rv a1093, rv a1117, rv a1130, rv a1182, rv a1210, rv a1433, rv a1093] [(.int (4 : Int32)), (.int (4 : Int32))])
      refine go (fun _ => XS.icmpNo X1476.here hx rfl (hb hby at_332) rfl (XT.ii_ne_f ((by decide) : (4 : Int32) = (4 : Int32)))) ?_
      show Ends p e below _ T1476 (mkF m 335 #[iv i0, iv i1, iv ch387, iv ch388, iv ch389, iv ch390, iv (2 : Int32), iv (4 : Int32), rv a1093, rv a1117, rv a1130, rv a1182, rv a1210, rv a1433, rv a1093] [])
      refine go (fun _ => XT.iconstV X1476.here hx rfl (1 : Int32) (hb hby at_335) (by decide)) ?_
      refine go (fun _ => XS.goto X1476.here hx rfl (pc0 := 336) (pc' := 340) rfl (hb hby at_336) (by decide) (by decide)) ?_
      show Ends p e below _ T1476 (mkF m 340 #[iv i0, iv i1, iv ch387, iv ch388, iv ch389, iv ch390, iv (2 : Int32), iv (4 : Int32), rv a1093, rv a1117, rv a1130, rv a1182, rv a1210, rv a1433, rv a1093] [(.int (1 : Int32))])
      exact endN X1476 hx hret (by simp) (hb hby at_340) (lvW X1476 hlk hZ (own_EW hw) hs0 hS hk H1461 e1476 (fun h => by rw [hret] at h; cases h) ⟨rfl, N1476a⟩ (by decide) (by decide))
  · rw [q391]
    show Ends p e below _ T0 (mkF m 42 #[iv i0, iv i1, iv ch387, iv ch388, iv ch389, iv ch390, .unset, .unset, .unset, .unset, .unset, .unset, .unset, .unset, .unset] [(.int (3 : Int32))])
    refine go (fun _ => XS.istore X0.here hx rfl (hb hby at_42) rfl (l' := #[iv i0, iv i1, iv ch387, iv ch388, iv ch389, iv ch390, iv (3 : Int32), .unset, .unset, .unset, .unset, .unset, .unset, .unset, .unset]) rfl) ?_
    refine go (fun _ => XS.iloadN X0.here hx rfl (hb hby at_44) rfl) ?_
    refine go (fun _ => XT.iconstV X0.here hx rfl (2 : Int32) (hb hby at_45) (by decide)) ?_
    refine go (fun _ => XT.iushr X0.here hx rfl (hb hby at_46) rfl) ?_
    refine go (fun _ => XT.iconstV X0.here hx rfl (3 : Int32) (hb hby at_47) (by decide)) ?_
    refine go (fun _ => XS.iand X0.here hx rfl (hb hby at_48) rfl) ?_
    show Ends p e below _ T0 (mkF m 49 #[iv i0, iv i1, iv ch387, iv ch388, iv ch389, iv ch390, iv (3 : Int32), .unset, .unset, .unset, .unset, .unset, .unset, .unset, .unset] [(.int ((XT.ushr i1 (2 : Int32)) &&& (3 : Int32)))])
    refine go (fun _ => XT.iconstV X0.here hx rfl (1 : Int32) (hb hby at_49) (by decide)) ?_
    refine go (fun _ => XS.iadd X0.here hx rfl (hb hby at_50) rfl) ?_
    refine go (fun _ => XS.istore X0.here hx rfl (hb hby at_51) rfl (l' := #[iv i0, iv i1, iv ch387, iv ch388, iv ch389, iv ch390, iv (3 : Int32), iv (((XT.ushr i1 (2 : Int32)) &&& (3 : Int32)) + (1 : Int32)), .unset, .unset, .unset, .unset, .unset, .unset, .unset]) rfl) ?_
    refine go (fun _ => XS.iload X0.here hx rfl (hb hby at_53) rfl) ?_
    show Ends p e below _ T0 (mkF m 55 #[iv i0, iv i1, iv ch387, iv ch388, iv ch389, iv ch390, iv (3 : Int32), iv (((XT.ushr i1 (2 : Int32)) &&& (3 : Int32)) + (1 : Int32)), .unset, .unset, .unset, .unset, .unset, .unset, .unset] [(.int (3 : Int32))])
    refine go (fun _ => XS.ifYes X0.here hx rfl (pc0 := 55) (pc' := 73) rfl (hb hby at_55) rfl (XT.i0_ne_t ((by decide) : ¬ ((3 : Int32) = (0 : Int32)))) (by decide) (by decide)) ?_
    show Ends p e below _ T0 (mkF m 73 #[iv i0, iv i1, iv ch387, iv ch388, iv ch389, iv ch390, iv (3 : Int32), iv (((XT.ushr i1 (2 : Int32)) &&& (3 : Int32)) + (1 : Int32)), .unset, .unset, .unset, .unset, .unset, .unset, .unset] [])
    refine go (fun _ => XS.iload X0.here hx rfl (hb hby at_73) rfl) ?_
    refine go (fun _ => XT.iconstV X0.here hx rfl (1 : Int32) (hb hby at_75) (by decide)) ?_
    show Ends p e below _ T0 (mkF m 76 #[iv i0, iv i1, iv ch387, iv ch388, iv ch389, iv ch390, iv (3 : Int32), iv (((XT.ushr i1 (2 : Int32)) &&& (3 : Int32)) + (1 : Int32)), .unset, .unset, .unset, .unset, .unset, .unset, .unset] [(.int (1 : Int32)), (.int (3 : Int32))])
    refine go (fun _ => XS.icmpYes X0.here hx rfl (pc0 := 76) (pc' := 88) rfl (hb hby at_76) rfl (XT.ii_ne_t ((by decide) : ¬ ((3 : Int32) = (1 : Int32)))) (by decide) (by decide)) ?_
    show Ends p e below _ T0 (mkF m 88 #[iv i0, iv i1, iv ch387, iv ch388, iv ch389, iv ch390, iv (3 : Int32), iv (((XT.ushr i1 (2 : Int32)) &&& (3 : Int32)) + (1 : Int32)), .unset, .unset, .unset, .unset, .unset, .unset, .unset] [])
    refine go (fun _ => XS.iload X0.here hx rfl (hb hby at_88) rfl) ?_
    refine go (fun _ => XT.iconstV X0.here hx rfl (2 : Int32) (hb hby at_90) (by decide)) ?_
    show Ends p e below _ T0 (mkF m 91 #[iv i0, iv i1, iv ch387, iv ch388, iv ch389, iv ch390, iv (3 : Int32), iv (((XT.ushr i1 (2 : Int32)) &&& (3 : Int32)) + (1 : Int32)), .unset, .unset, .unset, .unset, .unset, .unset, .unset] [(.int (2 : Int32)), (.int (3 : Int32))])
    refine go (fun _ => XS.icmpYes X0.here hx rfl (pc0 := 91) (pc' := 117) rfl (hb hby at_91) rfl (XT.ii_ne_t ((by decide) : ¬ ((3 : Int32) = (2 : Int32)))) (by decide) (by decide)) ?_
    show Ends p e below _ T0 (mkF m 117 #[iv i0, iv i1, iv ch387, iv ch388, iv ch389, iv ch390, iv (3 : Int32), iv (((XT.ushr i1 (2 : Int32)) &&& (3 : Int32)) + (1 : Int32)), .unset, .unset, .unset, .unset, .unset, .unset, .unset] [])
    obtain ⟨T1477, h1477, X1477, e1477, E1477, A1477, D1477, U1477, s1477⟩ := newO X0 hx hZ hown (hwi hw 0 rfl) (hwi hw 1 rfl) (hwi hw 2 rfl) e0 (g := (mkF m 117 #[iv i0, iv i1, iv ch387, iv ch388, iv ch389, iv ch390, iv (3 : Int32), iv (((XT.ushr i1 (2 : Int32)) &&& (3 : Int32)) + (1 : Int32)), .unset, .unset, .unset, .unset, .unset, .unset, .unset] [])) rfl (hb hby at_117) (by decide) (by decide)
    obtain ⟨a1477, g1477⟩ : ∃ z : Addr, z = h0.size := ⟨_, rfl⟩
    have f1477 : Z.heap.size ≤ a1477 := by rw [g1477]; exact (O0).1
    rw [← g1477] at A1477 D1477 U1477 s1477
    have C1478 : CHr Z own_EL s.vm h0 s.vm h1477 := CHr.ext E1477 H0.1
    have hk := Nat.le_trans hk C1478.2.1
    have H1478 := H0.trans C1478
    have O1479 : Ext Z.heap h1477 := xx O0 E1477
    have SF1477 : Safe Z own_EL s.vm h1477 a1477 := Safe.ext E1477 H0.1 (Safe.new (by rw [g1477]; exact Nat.le_refl _))
    refine go s1477 ?_
    show Ends p e below _ T1477 (mkF m 120 #[iv i0, iv i1, iv ch387, iv ch388, iv ch389, iv ch390, iv (3 : Int32), iv (((XT.ushr i1 (2 : Int32)) &&& (3 : Int32)) + (1 : Int32)), .unset, .unset, .unset, .unset, .unset, .unset, .unset] [(.ref a1477)])
    refine go (fun _ => XS.dup X1477.here hx rfl (hb hby at_120) rfl rfl) ?_
    refine go (fun _ => XT.iconstV X1477.here hx rfl (3 : Int32) (hb hby at_121) (by decide)) ?_
    show Ends p e below _ T1477 (mkF m 122 #[iv i0, iv i1, iv ch387, iv ch388, iv ch389, iv ch390, iv (3 : Int32), iv (((XT.ushr i1 (2 : Int32)) &&& (3 : Int32)) + (1 : Int32)), .unset, .unset, .unset, .unset, .unset, .unset, .unset] [(.int (3 : Int32)), (.ref a1477), (.ref a1477)])
    obtain ⟨T1480, h1480, k1480, X1480, e1480, E1480, A1480, s1480⟩ := newP X1477 hx hZ (hwi hw 3 rfl) e1477 (g := (mkF m 122 #[iv i0, iv i1, iv ch387, iv ch388, iv ch389, iv ch390, iv (3 : Int32), iv (((XT.ushr i1 (2 : Int32)) &&& (3 : Int32)) + (1 : Int32)), .unset, .unset, .unset, .unset, .unset, .unset, .unset] [(.int (3 : Int32)), (.ref a1477), (.ref a1477)])) rfl (hb hby at_122) rfl (by decide) (cap := 3) (by decide) (by decide) (by decide) (by decide)
    obtain ⟨a1480, g1480⟩ : ∃ z : Addr, z = h1477.size := ⟨_, rfl⟩
    have n1481 : a1477 ≠ a1480 := fun q => absurd (A1477.lt) (by rw [q, g1480]; exact Nat.lt_irrefl _)
    have f1480 : Z.heap.size ≤ a1480 := by rw [g1480]; exact (O1479).1
    rw [← g1480] at A1480 s1480
    have C1482 : CHr Z own_EL s.vm h1477 s.vm h1480 := CHr.ext E1480 H1478.1
    have hk := Nat.le_trans hk C1482.2.1
    have H1482 := H1478.trans C1482
    have O1483 : Ext Z.heap h1480 := xx O1479 E1480
    have SF1480 : Safe Z own_EL s.vm h1480 a1480 := Safe.ext E1480 H1478.1 (Safe.new (by rw [g1480]; exact Nat.le_refl _))
    have V1480 : Arv Z h1480 a1480 k1480 .char (3 : Int32) [(.int (0 : Int32)), (.int (0 : Int32)), (.int (0 : Int32))] (.int 0) := Arv.pad (Arv.new A1480 (by decide)) (pad_rep [] _ 3)
    refine go s1480 ?_
    show Ends p e below _ T1480 (mkF m 124 #[iv i0, iv i1, iv ch387, iv ch388, iv ch389, iv ch390, iv (3 : Int32), iv (((XT.ushr i1 (2 : Int32)) &&& (3 : Int32)) + (1 : Int32)), .unset, .unset, .unset, .unset, .unset, .unset, .unset] [(.ref a1480), (.ref a1477), (.ref a1477)])
    refine go (fun _ => XS.dup X1480.here hx rfl (hb hby at_124) rfl rfl) ?_
    refine go (fun _ => XT.iconstV X1480.here hx rfl (0 : Int32) (hb hby at_125) (by decide)) ?_
    refine go (fun _ => XS.iloadN X1480.here hx rfl (hb hby at_126) rfl) ?_
    show Ends p e below _ T1480 (mkF m 127 #[iv i0, iv i1, iv ch387, iv ch388, iv ch389, iv ch390, iv (3 : Int32), iv (((XT.ushr i1 (2 : Int32)) &&& (3 : Int32)) + (1 : Int32)), .unset, .unset, .unset, .unset, .unset, .unset, .unset] [(.int ch387), (.int (0 : Int32)), (.ref a1480), (.ref a1480), (.ref a1477), (.ref a1477)])
    obtain ⟨cl1484, A1484, q1484, S1484, M1484, H1484, G1484⟩ := id V1480
    obtain ⟨T1484, h1484, X1484, e1484, W1484, s1484⟩ := stC X1480 hx hZ e1480 A1484 (j := (0 : Int32)) (inb_of S1484 (by decide)) (g := (mkF m 127 #[iv i0, iv i1, iv ch387, iv ch388, iv ch389, iv ch390, iv (3 : Int32), iv (((XT.ushr i1 (2 : Int32)) &&& (3 : Int32)) + (1 : Int32)), .unset, .unset, .unset, .unset, .unset, .unset, .unset] [(.int ch387), (.int (0 : Int32)), (.ref a1480), (.ref a1480), (.ref a1477), (.ref a1477)])) rfl rfl (hb hby at_127)
    have r1484 : nar .char ch387 = ch387 := nc387
    rw [r1484] at W1484
    have N1484 := Fr.snoc X1484 (Fr.nil _) f1480
    have C1485 : CHr Z own_EL s.vm h1480 s.vm h1484 := CHr.wr W1484 SF1480 H1482.1
    have hk := Nat.le_trans hk C1485.2.1
    have H1485 := H1482.trans C1485
    have O1486 : Ext Z.heap h1484 := xw O1483 W1484 f1480
    have V1484 : Arv Z h1484 a1480 k1480 .char (3 : Int32) [(.int ch387), (.int (0 : Int32)), (.int (0 : Int32))] (.int 0) := Arv.set A1484 q1484 S1484 M1484 H1484 G1484 (by first | rfl | exact fits_nar_char ch387 | (rw [← r1484]; exact fits_nar_char ch387)) W1484 0 (by decide) (Nat.le_of_ble_eq_true rfl)
    refine go s1484 ?_
    show Ends p e below _ T1484 (mkF m 128 #[iv i0, iv i1, iv ch387, iv ch388, iv ch389, iv ch390, iv (3 : Int32), iv (((XT.ushr i1 (2 : Int32)) &&& (3 : Int32)) + (1 : Int32)), .unset, .unset, .unset, .unset, .unset, .unset, .unset] [(.ref a1480), (.ref a1477), (.ref a1477)])
    refine go (fun _ => XS.dup X1484.here hx rfl (hb hby at_128) rfl rfl) ?_
    refine go (fun _ => XT.iconstV X1484.here hx rfl (1 : Int32) (hb hby at_129) (by decide)) ?_
    refine go (fun _ => XS.iloadN X1484.here hx rfl (hb hby at_130) rfl) ?_
    show Ends p e below _ T1484 (mkF m 131 #[iv i0, iv i1, iv ch387, iv ch388, iv ch389, iv ch390, iv (3 : Int32), iv (((XT.ushr i1 (2 : Int32)) &&& (3 : Int32)) + (1 : Int32)), .unset, .unset, .unset, .unset, .unset, .unset, .unset] [(.int ch388), (.int (1 : Int32)), (.ref a1480), (.ref a1480), (.ref a1477), (.ref a1477)])
    obtain ⟨cl1487, A1487, q1487, S1487, M1487, H1487, G1487⟩ := id V1484
    obtain ⟨T1487, h1487, X1487, e1487, W1487, s1487⟩ := stC X1484 hx hZ e1484 A1487 (j := (1 : Int32)) (inb_of S1487 (by decide)) (g := (mkF m 131 #[iv i0, iv i1, iv ch387, iv ch388, iv ch389, iv ch390, iv (3 : Int32), iv (((XT.ushr i1 (2 : Int32)) &&& (3 : Int32)) + (1 : Int32)), .unset, .unset, .unset, .unset, .unset, .unset, .unset] [(.int ch388), (.int (1 : Int32)), (.ref a1480), (.ref a1480), (.ref a1477), (.ref a1477)])) rfl rfl (hb hby at_131)
    have r1487 : nar .char ch388 = ch388 := nc388
    rw [r1487] at W1487
    have N1487 := Fr.snoc X1487 N1484 f1480
    have F1489 := (Safe.wr W1484 SF1480 H1482.1 SF1480)
    have C1488 : CHr Z own_EL s.vm h1484 s.vm h1487 := CHr.wr W1487 F1489 H1485.1
    have hk := Nat.le_trans hk C1488.2.1
    have H1488 := H1485.trans C1488
    have O1490 : Ext Z.heap h1487 := xw O1486 W1487 f1480
    have V1487 : Arv Z h1487 a1480 k1480 .char (3 : Int32) [(.int ch387), (.int ch388), (.int (0 : Int32))] (.int 0) := Arv.set A1487 q1487 S1487 M1487 H1487 G1487 (by first | rfl | exact fits_nar_char ch388 | (rw [← r1487]; exact fits_nar_char ch388)) W1487 1 (by decide) (Nat.le_of_ble_eq_true rfl)
    refine go s1487 ?_
    show Ends p e below _ T1487 (mkF m 132 #[iv i0, iv i1, iv ch387, iv ch388, iv ch389, iv ch390, iv (3 : Int32), iv (((XT.ushr i1 (2 : Int32)) &&& (3 : Int32)) + (1 : Int32)), .unset, .unset, .unset, .unset, .unset, .unset, .unset] [(.ref a1480), (.ref a1477), (.ref a1477)])
    refine go (fun _ => XS.dup X1487.here hx rfl (hb hby at_132) rfl rfl) ?_
    refine go (fun _ => XT.iconstV X1487.here hx rfl (2 : Int32) (hb hby at_133) (by decide)) ?_
    refine go (fun _ => XS.iload X1487.here hx rfl (hb hby at_134) rfl) ?_
    show Ends p e below _ T1487 (mkF m 136 #[iv i0, iv i1, iv ch387, iv ch388, iv ch389, iv ch390, iv (3 : Int32), iv (((XT.ushr i1 (2 : Int32)) &&& (3 : Int32)) + (1 : Int32)), .unset, .unset, .unset, .unset, .unset, .unset, .unset] [(.int ch389), (.int (2 : Int32)), (.ref a1480), (.ref a1480), (.ref a1477), (.ref a1477)])
    obtain ⟨cl1491, A1491, q1491, S1491, M1491, H1491, G1491⟩ := id V1487
    obtain ⟨T1491, h1491, X1491, e1491, W1491, s1491⟩ := stC X1487 hx hZ e1487 A1491 (j := (2 : Int32)) (inb_of S1491 (by decide)) (g := (mkF m 136 #[iv i0, iv i1, iv ch387, iv ch388, iv ch389, iv ch390, iv (3 : Int32), iv (((XT.ushr i1 (2 : Int32)) &&& (3 : Int32)) + (1 : Int32)), .unset, .unset, .unset, .unset, .unset, .unset, .unset] [(.int ch389), (.int (2 : Int32)), (.ref a1480), (.ref a1480), (.ref a1477), (.ref a1477)])) rfl rfl (hb hby at_136)
    have r1491 : nar .char ch389 = ch389 := nc389
    rw [r1491] at W1491
    have N1491 := Fr.snoc X1491 N1487 f1480
    have F1493 := (Safe.wr W1487 F1489 H1485.1 F1489)
    have C1492 : CHr Z own_EL s.vm h1487 s.vm h1491 := CHr.wr W1491 F1493 H1488.1
    have hk := Nat.le_trans hk C1492.2.1
    have H1492 := H1488.trans C1492
    have O1494 : Ext Z.heap h1491 := xw O1490 W1491 f1480
    have V1491 : Arv Z h1491 a1480 k1480 .char (3 : Int32) [(.int ch387), (.int ch388), (.int ch389)] (.int 0) := Arv.set A1491 q1491 S1491 M1491 H1491 G1491 (by first | rfl | exact fits_nar_char ch389 | (rw [← r1491]; exact fits_nar_char ch389)) W1491 2 (by decide) (Nat.le_of_ble_eq_true rfl)
    refine go s1491 ?_
    show Ends p e below _ T1491 (mkF m 137 #[iv i0, iv i1, iv ch387, iv ch388, iv ch389, iv ch390, iv (3 : Int32), iv (((XT.ushr i1 (2 : Int32)) &&& (3 : Int32)) + (1 : Int32)), .unset, .unset, .unset, .unset, .unset, .unset, .unset] [(.ref a1480), (.ref a1477), (.ref a1477)])
    have F1495 := (Exa.wr W1491 (Exa.wr W1487 (Exa.wr W1484 (Exa.ext E1480 A1477))))
    have F1496 := (Fld.other W1491 (Fld.other W1487 (Fld.other W1484 (Fld.ext E1480 (D1477 (Or.inr (hwi hw 29 rfl)) (ty := (.array .byte)) (by decide))) (Or.inl n1481)) (Or.inl n1481)) (Or.inl n1481))
    have F1497 := (Fld.other W1491 (Fld.other W1487 (Fld.other W1484 (Fld.ext E1480 (D1477 (Or.inr (hwi hw 27 rfl)) (ty := .byte) (by decide))) (Or.inl n1481)) (Or.inl n1481)) (Or.inl n1481))
    refine cInit X1491 hx hZ hown (by rw [hml]; rfl) e1491 (hwi hw 4 rfl) (hwi hw 5 rfl) (hwi hw 2 rfl) (hwi hw 6 rfl) a1477 [(.ref a1480)] [(.ref a1477)] rfl (rm_new1_3 hw a1477 a1480 k1480 ch387 ch388 ch389 _ O1494 f1477 n1481 F1495 F1496 F1497 cz SCS hcz V1491 lc387 lc388 lc389) (hb hby at_137) rfl (lenOf pd_28 rfl) rfl (by decide) (by decide) (Nat.le_of_ble_eq_true rfl) (by decide) (by decide) ?_
    rintro v1498 T1498 h1498 L1498 X1498 e1498 ⟨b1498, k1498, rfl, N1498, K1498, g1498, Fv1498, Fc1498, V1498⟩
    have N1498a := Fr.app N1491 N1498
    have n1499 : a1477 ≠ b1498 := Nat.ne_of_lt (Nat.lt_of_lt_of_le (F1495.lt) g1498)
    have n1500 : a1480 ≠ b1498 := Nat.ne_of_lt (Nat.lt_of_lt_of_le (V1491.lt) g1498)
    have f1501 : Z.heap.size ≤ b1498 := Nat.le_trans (O1494).1 g1498
    have F1503 := (Safe.wr W1491 F1493 H1488.1 (Safe.wr W1487 F1489 H1485.1 (Safe.wr W1484 SF1480 H1482.1 (Safe.ext E1480 H1478.1 SF1477))))
    have sf1502 : ∀ x ∈ [a1477], Safe Z own_EL s.vm h1491 x := (sfS F1503 sf0)
    have C1502 : CHr Z own_EL s.vm h1491 s.vm h1498 := CHr.keep K1498 sf1502 H1492.1
    have hk := Nat.le_trans hk C1502.2.1
    have H1502 := H1492.trans C1502
    have O1504 : Ext Z.heap h1498 := xk O1494 K1498 (allS f1477 all0)
    show Ends p e below _ T1498 (mkF m 140 #[iv i0, iv i1, iv ch387, iv ch388, iv ch389, iv ch390, iv (3 : Int32), iv (((XT.ushr i1 (2 : Int32)) &&& (3 : Int32)) + (1 : Int32)), .unset, .unset, .unset, .unset, .unset, .unset, .unset] [(.ref a1477)])
    refine go (fun _ => XS.astore X1498.here hx rfl (hb hby at_140) rfl rfl (l' := #[iv i0, iv i1, iv ch387, iv ch388, iv ch389, iv ch390, iv (3 : Int32), iv (((XT.ushr i1 (2 : Int32)) &&& (3 : Int32)) + (1 : Int32)), rv a1477, .unset, .unset, .unset, .unset, .unset, .unset]) rfl) ?_
    refine go (fun _ => XS.iload X1498.here hx rfl (hb hby at_142) rfl) ?_
    show Ends p e below _ T1498 (mkF m 144 #[iv i0, iv i1, iv ch387, iv ch388, iv ch389, iv ch390, iv (3 : Int32), iv (((XT.ushr i1 (2 : Int32)) &&& (3 : Int32)) + (1 : Int32)), rv a1477, .unset, .unset, .unset, .unset, .unset, .unset] [(.int ch390)])
    refine cStat X1498 hx hZ hown (by rw [hml]; rfl) e1498 (hwi hw 30 rfl) (hwi hw 31 rfl) (hwi hw 2 rfl) (hwi hw 32 rfl) [(.int ch390)] [] rfl (rm_cvalueOf hw ch390 _ O1504 lc390 cz SCS hcz) (hb hby at_144) rfl (lenOf pd_29 rfl) (by decide) (by decide) (Nat.le_of_ble_eq_true rfl) (by decide) (by decide) ?_
    rintro v1505 T1505 h1505 L1505 X1505 e1505 ⟨a1505, b1505, k1505, rfl, N1505, K1505, ga1505, gb1505, nn1505, E1505, Fv1505, Fc1505, V1505⟩
    have N1505a := Fr.app N1498a N1505
    have F1506 := (Exa.keep F1495 K1498)
    have n1507 : a1477 ≠ a1505 := Nat.ne_of_lt (Nat.lt_of_lt_of_le (F1506.lt) ga1505)
    have F1508 := (Arv.keep V1491 K1498 (ninS (Ne.symm n1481) nin0))
    have n1509 : a1480 ≠ a1505 := Nat.ne_of_lt (Nat.lt_of_lt_of_le (F1508.lt) ga1505)
    have n1510 : b1498 ≠ a1505 := Nat.ne_of_lt (Nat.lt_of_lt_of_le (V1498.lt) ga1505)
    have f1511 : Z.heap.size ≤ a1505 := Nat.le_trans (O1504).1 ga1505
    have n1512 : a1477 ≠ b1505 := Nat.ne_of_lt (Nat.lt_of_lt_of_le (F1506.lt) gb1505)
    have n1513 : a1480 ≠ b1505 := Nat.ne_of_lt (Nat.lt_of_lt_of_le (F1508.lt) gb1505)
    have n1514 : b1498 ≠ b1505 := Nat.ne_of_lt (Nat.lt_of_lt_of_le (V1498.lt) gb1505)
    have f1515 : Z.heap.size ≤ b1505 := Nat.le_trans (O1504).1 gb1505
    have C1516 : CHr Z own_EL s.vm h1498 s.vm h1505 := CHr.keep K1505 sf0 H1502.1
    have hk := Nat.le_trans hk C1516.2.1
    have H1516 := H1502.trans C1516
    have O1517 : Ext Z.heap h1505 := xk O1504 K1505 all0
    show Ends p e below _ T1505 (mkF m 147 #[iv i0, iv i1, iv ch387, iv ch388, iv ch389, iv ch390, iv (3 : Int32), iv (((XT.ushr i1 (2 : Int32)) &&& (3 : Int32)) + (1 : Int32)), rv a1477, .unset, .unset, .unset, .unset, .unset, .unset] [(.ref a1505)])
    refine go (fun _ => XS.astore X1505.here hx rfl (hb hby at_147) rfl rfl (l' := #[iv i0, iv i1, iv ch387, iv ch388, iv ch389, iv ch390, iv (3 : Int32), iv (((XT.ushr i1 (2 : Int32)) &&& (3 : Int32)) + (1 : Int32)), rv a1477, rv a1505, .unset, .unset, .unset, .unset, .unset]) rfl) ?_
    show Ends p e below _ T1505 (mkF m 149 #[iv i0, iv i1, iv ch387, iv ch388, iv ch389, iv ch390, iv (3 : Int32), iv (((XT.ushr i1 (2 : Int32)) &&& (3 : Int32)) + (1 : Int32)), rv a1477, rv a1505, .unset, .unset, .unset, .unset, .unset] [])
    obtain ⟨T1518, h1518, X1518, e1518, E1518, A1518, D1518, U1518, s1518⟩ := newO X1505 hx hZ hown (hwi hw 0 rfl) (hwi hw 1 rfl) (hwi hw 2 rfl) e1505 (g := (mkF m 149 #[iv i0, iv i1, iv ch387, iv ch388, iv ch389, iv ch390, iv (3 : Int32), iv (((XT.ushr i1 (2 : Int32)) &&& (3 : Int32)) + (1 : Int32)), rv a1477, rv a1505, .unset, .unset, .unset, .unset, .unset] [])) rfl (hb hby at_149) (by decide) (by decide)
    have F1519 := (Exa.keep F1506 K1505)
    have F1520 := (Arv.keep F1508 K1505 nin0)
    have F1521 := (Arv.keep V1498 K1505 nin0)
    obtain ⟨a1518, g1518⟩ : ∃ z : Addr, z = h1505.size := ⟨_, rfl⟩
    have n1522 : a1477 ≠ a1518 := fun q => absurd (F1519.lt) (by rw [q, g1518]; exact Nat.lt_irrefl _)
    have n1523 : a1480 ≠ a1518 := fun q => absurd (F1520.lt) (by rw [q, g1518]; exact Nat.lt_irrefl _)
    have n1524 : a1505 ≠ a1518 := fun q => absurd (E1505.lt) (by rw [q, g1518]; exact Nat.lt_irrefl _)
    have n1525 : b1498 ≠ a1518 := fun q => absurd (F1521.lt) (by rw [q, g1518]; exact Nat.lt_irrefl _)
    have n1526 : b1505 ≠ a1518 := fun q => absurd (V1505.lt) (by rw [q, g1518]; exact Nat.lt_irrefl _)
    have f1518 : Z.heap.size ≤ a1518 := by rw [g1518]; exact (O1517).1
    rw [← g1518] at A1518 D1518 U1518 s1518
    have C1527 : CHr Z own_EL s.vm h1505 s.vm h1518 := CHr.ext E1518 H1516.1
    have hk := Nat.le_trans hk C1527.2.1
    have H1527 := H1516.trans C1527
    have O1528 : Ext Z.heap h1518 := xx O1517 E1518
    have SF1518 : Safe Z own_EL s.vm h1518 a1518 := Safe.ext E1518 H1516.1 (Safe.new (by rw [g1518]; exact Nat.le_refl _))
    refine go s1518 ?_
    show Ends p e below _ T1518 (mkF m 152 #[iv i0, iv i1, iv ch387, iv ch388, iv ch389, iv ch390, iv (3 : Int32), iv (((XT.ushr i1 (2 : Int32)) &&& (3 : Int32)) + (1 : Int32)), rv a1477, rv a1505, .unset, .unset, .unset, .unset, .unset] [(.ref a1518)])
    refine go (fun _ => XS.dup X1518.here hx rfl (hb hby at_152) rfl rfl) ?_
    refine go (fun _ => XT.iconstV X1518.here hx rfl (2 : Int32) (hb hby at_153) (by decide)) ?_
    show Ends p e below _ T1518 (mkF m 154 #[iv i0, iv i1, iv ch387, iv ch388, iv ch389, iv ch390, iv (3 : Int32), iv (((XT.ushr i1 (2 : Int32)) &&& (3 : Int32)) + (1 : Int32)), rv a1477, rv a1505, .unset, .unset, .unset, .unset, .unset] [(.int (2 : Int32)), (.ref a1518), (.ref a1518)])
    obtain ⟨T1529, h1529, k1529, X1529, e1529, E1529, A1529, s1529⟩ := newP X1518 hx hZ (hwi hw 3 rfl) e1518 (g := (mkF m 154 #[iv i0, iv i1, iv ch387, iv ch388, iv ch389, iv ch390, iv (3 : Int32), iv (((XT.ushr i1 (2 : Int32)) &&& (3 : Int32)) + (1 : Int32)), rv a1477, rv a1505, .unset, .unset, .unset, .unset, .unset] [(.int (2 : Int32)), (.ref a1518), (.ref a1518)])) rfl (hb hby at_154) rfl (by decide) (cap := 2) (by decide) (by decide) (by decide) (by decide)
    have F1530 := (Exa.ext E1518 F1519)
    have F1531 := (Arv.ext F1520 E1518)
    have F1532 := (Exa.ext E1518 E1505)
    have F1533 := (Arv.ext F1521 E1518)
    have F1534 := (Arv.ext V1505 E1518)
    obtain ⟨a1529, g1529⟩ : ∃ z : Addr, z = h1518.size := ⟨_, rfl⟩
    have n1535 : a1477 ≠ a1529 := fun q => absurd (F1530.lt) (by rw [q, g1529]; exact Nat.lt_irrefl _)
    have n1536 : a1480 ≠ a1529 := fun q => absurd (F1531.lt) (by rw [q, g1529]; exact Nat.lt_irrefl _)
    have n1537 : a1505 ≠ a1529 := fun q => absurd (F1532.lt) (by rw [q, g1529]; exact Nat.lt_irrefl _)
    have n1538 : a1518 ≠ a1529 := fun q => absurd (A1518.lt) (by rw [q, g1529]; exact Nat.lt_irrefl _)
    have n1539 : b1498 ≠ a1529 := fun q => absurd (F1533.lt) (by rw [q, g1529]; exact Nat.lt_irrefl _)
    have n1540 : b1505 ≠ a1529 := fun q => absurd (F1534.lt) (by rw [q, g1529]; exact Nat.lt_irrefl _)
    have f1529 : Z.heap.size ≤ a1529 := by rw [g1529]; exact (O1528).1
    rw [← g1529] at A1529 s1529
    have C1541 : CHr Z own_EL s.vm h1518 s.vm h1529 := CHr.ext E1529 H1527.1
    have hk := Nat.le_trans hk C1541.2.1
    have H1541 := H1527.trans C1541
    have O1542 : Ext Z.heap h1529 := xx O1528 E1529
    have SF1529 : Safe Z own_EL s.vm h1529 a1529 := Safe.ext E1529 H1527.1 (Safe.new (by rw [g1529]; exact Nat.le_refl _))
    have V1529 : Arv Z h1529 a1529 k1529 .char (2 : Int32) [(.int (0 : Int32)), (.int (0 : Int32))] (.int 0) := Arv.pad (Arv.new A1529 (by decide)) (pad_rep [] _ 2)
    refine go s1529 ?_
    show Ends p e below _ T1529 (mkF m 156 #[iv i0, iv i1, iv ch387, iv ch388, iv ch389, iv ch390, iv (3 : Int32), iv (((XT.ushr i1 (2 : Int32)) &&& (3 : Int32)) + (1 : Int32)), rv a1477, rv a1505, .unset, .unset, .unset, .unset, .unset] [(.ref a1529), (.ref a1518), (.ref a1518)])
    refine go (fun _ => XS.dup X1529.here hx rfl (hb hby at_156) rfl rfl) ?_
    refine go (fun _ => XT.iconstV X1529.here hx rfl (0 : Int32) (hb hby at_157) (by decide)) ?_
    refine go (fun _ => XS.iloadN X1529.here hx rfl (hb hby at_158) rfl) ?_
    show Ends p e below _ T1529 (mkF m 159 #[iv i0, iv i1, iv ch387, iv ch388, iv ch389, iv ch390, iv (3 : Int32), iv (((XT.ushr i1 (2 : Int32)) &&& (3 : Int32)) + (1 : Int32)), rv a1477, rv a1505, .unset, .unset, .unset, .unset, .unset] [(.int ch388), (.int (0 : Int32)), (.ref a1529), (.ref a1529), (.ref a1518), (.ref a1518)])
    obtain ⟨cl1543, A1543, q1543, S1543, M1543, H1543, G1543⟩ := id V1529
    obtain ⟨T1543, h1543, X1543, e1543, W1543, s1543⟩ := stC X1529 hx hZ e1529 A1543 (j := (0 : Int32)) (inb_of S1543 (by decide)) (g := (mkF m 159 #[iv i0, iv i1, iv ch387, iv ch388, iv ch389, iv ch390, iv (3 : Int32), iv (((XT.ushr i1 (2 : Int32)) &&& (3 : Int32)) + (1 : Int32)), rv a1477, rv a1505, .unset, .unset, .unset, .unset, .unset] [(.int ch388), (.int (0 : Int32)), (.ref a1529), (.ref a1529), (.ref a1518), (.ref a1518)])) rfl rfl (hb hby at_159)
    have r1543 : nar .char ch388 = ch388 := nc388
    rw [r1543] at W1543
    have N1543 := Fr.snoc X1543 N1505a f1529
    have C1544 : CHr Z own_EL s.vm h1529 s.vm h1543 := CHr.wr W1543 SF1529 H1541.1
    have hk := Nat.le_trans hk C1544.2.1
    have H1544 := H1541.trans C1544
    have O1545 : Ext Z.heap h1543 := xw O1542 W1543 f1529
    have V1543 : Arv Z h1543 a1529 k1529 .char (2 : Int32) [(.int ch388), (.int (0 : Int32))] (.int 0) := Arv.set A1543 q1543 S1543 M1543 H1543 G1543 (by first | rfl | exact fits_nar_char ch388 | (rw [← r1543]; exact fits_nar_char ch388)) W1543 0 (by decide) (Nat.le_of_ble_eq_true rfl)
    refine go s1543 ?_
    show Ends p e below _ T1543 (mkF m 160 #[iv i0, iv i1, iv ch387, iv ch388, iv ch389, iv ch390, iv (3 : Int32), iv (((XT.ushr i1 (2 : Int32)) &&& (3 : Int32)) + (1 : Int32)), rv a1477, rv a1505, .unset, .unset, .unset, .unset, .unset] [(.ref a1529), (.ref a1518), (.ref a1518)])
    refine go (fun _ => XS.dup X1543.here hx rfl (hb hby at_160) rfl rfl) ?_
    refine go (fun _ => XT.iconstV X1543.here hx rfl (1 : Int32) (hb hby at_161) (by decide)) ?_
    refine go (fun _ => XS.iloadN X1543.here hx rfl (hb hby at_162) rfl) ?_
    show Ends p e below _ T1543 (mkF m 163 #[iv i0, iv i1, iv ch387, iv ch388, iv ch389, iv ch390, iv (3 : Int32), iv (((XT.ushr i1 (2 : Int32)) &&& (3 : Int32)) + (1 : Int32)), rv a1477, rv a1505, .unset, .unset, .unset, .unset, .unset] [(.int ch387), (.int (1 : Int32)), (.ref a1529), (.ref a1529), (.ref a1518), (.ref a1518)])
    obtain ⟨cl1546, A1546, q1546, S1546, M1546, H1546, G1546⟩ := id V1543
    obtain ⟨T1546, h1546, X1546, e1546, W1546, s1546⟩ := stC X1543 hx hZ e1543 A1546 (j := (1 : Int32)) (inb_of S1546 (by decide)) (g := (mkF m 163 #[iv i0, iv i1, iv ch387, iv ch388, iv ch389, iv ch390, iv (3 : Int32), iv (((XT.ushr i1 (2 : Int32)) &&& (3 : Int32)) + (1 : Int32)), rv a1477, rv a1505, .unset, .unset, .unset, .unset, .unset] [(.int ch387), (.int (1 : Int32)), (.ref a1529), (.ref a1529), (.ref a1518), (.ref a1518)])) rfl rfl (hb hby at_163)
    have r1546 : nar .char ch387 = ch387 := nc387
    rw [r1546] at W1546
    have N1546 := Fr.snoc X1546 N1543 f1529
    have F1548 := (Safe.wr W1543 SF1529 H1541.1 SF1529)
    have C1547 : CHr Z own_EL s.vm h1543 s.vm h1546 := CHr.wr W1546 F1548 H1544.1
    have hk := Nat.le_trans hk C1547.2.1
    have H1547 := H1544.trans C1547
    have O1549 : Ext Z.heap h1546 := xw O1545 W1546 f1529
    have V1546 : Arv Z h1546 a1529 k1529 .char (2 : Int32) [(.int ch388), (.int ch387)] (.int 0) := Arv.set A1546 q1546 S1546 M1546 H1546 G1546 (by first | rfl | exact fits_nar_char ch387 | (rw [← r1546]; exact fits_nar_char ch387)) W1546 1 (by decide) (Nat.le_of_ble_eq_true rfl)
    refine go s1546 ?_
    show Ends p e below _ T1546 (mkF m 164 #[iv i0, iv i1, iv ch387, iv ch388, iv ch389, iv ch390, iv (3 : Int32), iv (((XT.ushr i1 (2 : Int32)) &&& (3 : Int32)) + (1 : Int32)), rv a1477, rv a1505, .unset, .unset, .unset, .unset, .unset] [(.ref a1529), (.ref a1518), (.ref a1518)])
    have F1550 := (Exa.wr W1546 (Exa.wr W1543 (Exa.ext E1529 A1518)))
    have F1551 := (Fld.other W1546 (Fld.other W1543 (Fld.ext E1529 (D1518 (Or.inr (hwi hw 29 rfl)) (ty := (.array .byte)) (by decide))) (Or.inl n1538)) (Or.inl n1538))
    have F1552 := (Fld.other W1546 (Fld.other W1543 (Fld.ext E1529 (D1518 (Or.inr (hwi hw 27 rfl)) (ty := .byte) (by decide))) (Or.inl n1538)) (Or.inl n1538))
    refine cInit X1546 hx hZ hown (by rw [hml]; rfl) e1546 (hwi hw 4 rfl) (hwi hw 5 rfl) (hwi hw 2 rfl) (hwi hw 6 rfl) a1518 [(.ref a1529)] [(.ref a1518)] rfl (rm_new1_2 hw a1518 a1529 k1529 ch388 ch387 _ O1549 f1518 n1538 F1550 F1551 F1552 cz SCS hcz V1546 lc388 lc387) (hb hby at_164) rfl (lenOf pd_28 rfl) rfl (by decide) (by decide) (Nat.le_of_ble_eq_true rfl) (by decide) (by decide) ?_
    rintro v1553 T1553 h1553 L1553 X1553 e1553 ⟨b1553, k1553, rfl, N1553, K1553, g1553, Fv1553, Fc1553, V1553⟩
    have N1553a := Fr.app N1546 N1553
    have F1554 := (Exa.wr W1546 (Exa.wr W1543 (Exa.ext E1529 F1530)))
    have n1555 : a1477 ≠ b1553 := Nat.ne_of_lt (Nat.lt_of_lt_of_le (F1554.lt) g1553)
    have F1556 := (Arv.other (Arv.other (Arv.ext F1531 E1529) W1543 n1536) W1546 n1536)
    have n1557 : a1480 ≠ b1553 := Nat.ne_of_lt (Nat.lt_of_lt_of_le (F1556.lt) g1553)
    have F1558 := (Exa.wr W1546 (Exa.wr W1543 (Exa.ext E1529 F1532)))
    have n1559 : a1505 ≠ b1553 := Nat.ne_of_lt (Nat.lt_of_lt_of_le (F1558.lt) g1553)
    have n1560 : a1518 ≠ b1553 := Nat.ne_of_lt (Nat.lt_of_lt_of_le (F1550.lt) g1553)
    have n1561 : a1529 ≠ b1553 := Nat.ne_of_lt (Nat.lt_of_lt_of_le (V1546.lt) g1553)
    have F1562 := (Arv.other (Arv.other (Arv.ext F1533 E1529) W1543 n1539) W1546 n1539)
    have n1563 : b1498 ≠ b1553 := Nat.ne_of_lt (Nat.lt_of_lt_of_le (F1562.lt) g1553)
    have F1564 := (Arv.other (Arv.other (Arv.ext F1534 E1529) W1543 n1540) W1546 n1540)
    have n1565 : b1505 ≠ b1553 := Nat.ne_of_lt (Nat.lt_of_lt_of_le (F1564.lt) g1553)
    have f1566 : Z.heap.size ≤ b1553 := Nat.le_trans (O1549).1 g1553
    have F1568 := (Safe.wr W1546 F1548 H1544.1 (Safe.wr W1543 SF1529 H1541.1 (Safe.ext E1529 H1527.1 SF1518)))
    have sf1567 : ∀ x ∈ [a1518], Safe Z own_EL s.vm h1546 x := (sfS F1568 sf0)
    have C1567 : CHr Z own_EL s.vm h1546 s.vm h1553 := CHr.keep K1553 sf1567 H1547.1
    have hk := Nat.le_trans hk C1567.2.1
    have H1567 := H1547.trans C1567
    have O1569 : Ext Z.heap h1553 := xk O1549 K1553 (allS f1518 all0)
    show Ends p e below _ T1553 (mkF m 167 #[iv i0, iv i1, iv ch387, iv ch388, iv ch389, iv ch390, iv (3 : Int32), iv (((XT.ushr i1 (2 : Int32)) &&& (3 : Int32)) + (1 : Int32)), rv a1477, rv a1505, .unset, .unset, .unset, .unset, .unset] [(.ref a1518)])
    refine go (fun _ => XS.astore X1553.here hx rfl (hb hby at_167) rfl rfl (l' := #[iv i0, iv i1, iv ch387, iv ch388, iv ch389, iv ch390, iv (3 : Int32), iv (((XT.ushr i1 (2 : Int32)) &&& (3 : Int32)) + (1 : Int32)), rv a1477, rv a1505, rv a1518, .unset, .unset, .unset, .unset]) rfl) ?_
    refine go (fun _ => XS.iload X1553.here hx rfl (hb hby at_169) rfl) ?_
    show Ends p e below _ T1553 (mkF m 171 #[iv i0, iv i1, iv ch387, iv ch388, iv ch389, iv ch390, iv (3 : Int32), iv (((XT.ushr i1 (2 : Int32)) &&& (3 : Int32)) + (1 : Int32)), rv a1477, rv a1505, rv a1518, .unset, .unset, .unset, .unset] [(.int ch389)])
    refine cStat X1553 hx hZ hown (by rw [hml]; rfl) e1553 (hwi hw 30 rfl) (hwi hw 31 rfl) (hwi hw 2 rfl) (hwi hw 32 rfl) [(.int ch389)] [] rfl (rm_cvalueOf hw ch389 _ O1569 lc389 cz SCS hcz) (hb hby at_171) rfl (lenOf pd_29 rfl) (by decide) (by decide) (Nat.le_of_ble_eq_true rfl) (by decide) (by decide) ?_
    rintro v1570 T1570 h1570 L1570 X1570 e1570 ⟨a1570, b1570, k1570, rfl, N1570, K1570, ga1570, gb1570, nn1570, E1570, Fv1570, Fc1570, V1570⟩
    have N1570a := Fr.app N1553a N1570
    have F1571 := (Exa.keep F1554 K1553)
    have n1572 : a1477 ≠ a1570 := Nat.ne_of_lt (Nat.lt_of_lt_of_le (F1571.lt) ga1570)
    have F1573 := (Arv.keep F1556 K1553 (ninS n1523 nin0))
    have n1574 : a1480 ≠ a1570 := Nat.ne_of_lt (Nat.lt_of_lt_of_le (F1573.lt) ga1570)
    have F1575 := (Exa.keep F1558 K1553)
    have n1576 : a1505 ≠ a1570 := Nat.ne_of_lt (Nat.lt_of_lt_of_le (F1575.lt) ga1570)
    have F1577 := (Exa.keep F1550 K1553)
    have n1578 : a1518 ≠ a1570 := Nat.ne_of_lt (Nat.lt_of_lt_of_le (F1577.lt) ga1570)
    have F1579 := (Arv.keep V1546 K1553 (ninS (Ne.symm n1538) nin0))
    have n1580 : a1529 ≠ a1570 := Nat.ne_of_lt (Nat.lt_of_lt_of_le (F1579.lt) ga1570)
    have F1581 := (Arv.keep F1562 K1553 (ninS n1525 nin0))
    have n1582 : b1498 ≠ a1570 := Nat.ne_of_lt (Nat.lt_of_lt_of_le (F1581.lt) ga1570)
    have F1583 := (Arv.keep F1564 K1553 (ninS n1526 nin0))
    have n1584 : b1505 ≠ a1570 := Nat.ne_of_lt (Nat.lt_of_lt_of_le (F1583.lt) ga1570)
    have n1585 : b1553 ≠ a1570 := Nat.ne_of_lt (Nat.lt_of_lt_of_le (V1553.lt) ga1570)
    have f1586 : Z.heap.size ≤ a1570 := Nat.le_trans (O1569).1 ga1570
    have n1587 : a1477 ≠ b1570 := Nat.ne_of_lt (Nat.lt_of_lt_of_le (F1571.lt) gb1570)
    have n1588 : a1480 ≠ b1570 := Nat.ne_of_lt (Nat.lt_of_lt_of_le (F1573.lt) gb1570)
    have n1589 : a1505 ≠ b1570 := Nat.ne_of_lt (Nat.lt_of_lt_of_le (F1575.lt) gb1570)
    have n1590 : a1518 ≠ b1570 := Nat.ne_of_lt (Nat.lt_of_lt_of_le (F1577.lt) gb1570)
    have n1591 : a1529 ≠ b1570 := Nat.ne_of_lt (Nat.lt_of_lt_of_le (F1579.lt) gb1570)
    have n1592 : b1498 ≠ b1570 := Nat.ne_of_lt (Nat.lt_of_lt_of_le (F1581.lt) gb1570)
    have n1593 : b1505 ≠ b1570 := Nat.ne_of_lt (Nat.lt_of_lt_of_le (F1583.lt) gb1570)
    have n1594 : b1553 ≠ b1570 := Nat.ne_of_lt (Nat.lt_of_lt_of_le (V1553.lt) gb1570)
    have f1595 : Z.heap.size ≤ b1570 := Nat.le_trans (O1569).1 gb1570
    have C1596 : CHr Z own_EL s.vm h1553 s.vm h1570 := CHr.keep K1570 sf0 H1567.1
    have hk := Nat.le_trans hk C1596.2.1
    have H1596 := H1567.trans C1596
    have O1597 : Ext Z.heap h1570 := xk O1569 K1570 all0
    show Ends p e below _ T1570 (mkF m 174 #[iv i0, iv i1, iv ch387, iv ch388, iv ch389, iv ch390, iv (3 : Int32), iv (((XT.ushr i1 (2 : Int32)) &&& (3 : Int32)) + (1 : Int32)), rv a1477, rv a1505, rv a1518, .unset, .unset, .unset, .unset] [(.ref a1570)])
    refine go (fun _ => XS.astore X1570.here hx rfl (hb hby at_174) rfl rfl (l' := #[iv i0, iv i1, iv ch387, iv ch388, iv ch389, iv ch390, iv (3 : Int32), iv (((XT.ushr i1 (2 : Int32)) &&& (3 : Int32)) + (1 : Int32)), rv a1477, rv a1505, rv a1518, rv a1570, .unset, .unset, .unset]) rfl) ?_
    show Ends p e below _ T1570 (mkF m 176 #[iv i0, iv i1, iv ch387, iv ch388, iv ch389, iv ch390, iv (3 : Int32), iv (((XT.ushr i1 (2 : Int32)) &&& (3 : Int32)) + (1 : Int32)), rv a1477, rv a1505, rv a1518, rv a1570, .unset, .unset, .unset] [])
    obtain ⟨T1598, h1598, X1598, e1598, E1598, A1598, D1598, U1598, s1598⟩ := newO X1570 hx hZ hown (hwi hw 44 rfl) (hwi hw 45 rfl) (hwi hw 46 rfl) e1570 (g := (mkF m 176 #[iv i0, iv i1, iv ch387, iv ch388, iv ch389, iv ch390, iv (3 : Int32), iv (((XT.ushr i1 (2 : Int32)) &&& (3 : Int32)) + (1 : Int32)), rv a1477, rv a1505, rv a1518, rv a1570, .unset, .unset, .unset] [])) rfl (hb hby at_176) (by decide) (by decide)
    have F1599 := (Exa.keep F1571 K1570)
    have F1600 := (Arv.keep F1573 K1570 nin0)
    have F1601 := (Exa.keep F1575 K1570)
    have F1602 := (Exa.keep F1577 K1570)
    have F1603 := (Arv.keep F1579 K1570 nin0)
    have F1604 := (Arv.keep F1581 K1570 nin0)
    have F1605 := (Arv.keep F1583 K1570 nin0)
    have F1606 := (Arv.keep V1553 K1570 nin0)
    obtain ⟨a1598, g1598⟩ : ∃ z : Addr, z = h1570.size := ⟨_, rfl⟩
    have n1607 : a1477 ≠ a1598 := fun q => absurd (F1599.lt) (by rw [q, g1598]; exact Nat.lt_irrefl _)
    have n1608 : a1480 ≠ a1598 := fun q => absurd (F1600.lt) (by rw [q, g1598]; exact Nat.lt_irrefl _)
    have n1609 : a1505 ≠ a1598 := fun q => absurd (F1601.lt) (by rw [q, g1598]; exact Nat.lt_irrefl _)
    have n1610 : a1518 ≠ a1598 := fun q => absurd (F1602.lt) (by rw [q, g1598]; exact Nat.lt_irrefl _)
    have n1611 : a1529 ≠ a1598 := fun q => absurd (F1603.lt) (by rw [q, g1598]; exact Nat.lt_irrefl _)
    have n1612 : a1570 ≠ a1598 := fun q => absurd (E1570.lt) (by rw [q, g1598]; exact Nat.lt_irrefl _)
    have n1613 : b1498 ≠ a1598 := fun q => absurd (F1604.lt) (by rw [q, g1598]; exact Nat.lt_irrefl _)
    have n1614 : b1505 ≠ a1598 := fun q => absurd (F1605.lt) (by rw [q, g1598]; exact Nat.lt_irrefl _)
    have n1615 : b1553 ≠ a1598 := fun q => absurd (F1606.lt) (by rw [q, g1598]; exact Nat.lt_irrefl _)
    have n1616 : b1570 ≠ a1598 := fun q => absurd (V1570.lt) (by rw [q, g1598]; exact Nat.lt_irrefl _)
    have f1598 : Z.heap.size ≤ a1598 := by rw [g1598]; exact (O1597).1
    rw [← g1598] at A1598 D1598 U1598 s1598
    have C1617 : CHr Z own_EL s.vm h1570 s.vm h1598 := CHr.ext E1598 H1596.1
    have hk := Nat.le_trans hk C1617.2.1
    have H1617 := H1596.trans C1617
    have O1618 : Ext Z.heap h1598 := xx O1597 E1598
    have SF1598 : Safe Z own_EL s.vm h1598 a1598 := Safe.ext E1598 H1596.1 (Safe.new (by rw [g1598]; exact Nat.le_refl _))
    refine go s1598 ?_
    show Ends p e below _ T1598 (mkF m 179 #[iv i0, iv i1, iv ch387, iv ch388, iv ch389, iv ch390, iv (3 : Int32), iv (((XT.ushr i1 (2 : Int32)) &&& (3 : Int32)) + (1 : Int32)), rv a1477, rv a1505, rv a1518, rv a1570, .unset, .unset, .unset] [(.ref a1598)])
    refine go (fun _ => XS.dup X1598.here hx rfl (hb hby at_179) rfl rfl) ?_
    show Ends p e below _ T1598 (mkF m 180 #[iv i0, iv i1, iv ch387, iv ch388, iv ch389, iv ch390, iv (3 : Int32), iv (((XT.ushr i1 (2 : Int32)) &&& (3 : Int32)) + (1 : Int32)), rv a1477, rv a1505, rv a1518, rv a1570, .unset, .unset, .unset] [(.ref a1598), (.ref a1598)])
    have F1619 := (D1598 (Or.inl (hwi hw 64 rfl)) (ty := .int) (by decide))
    have F1620 := (D1598 (Or.inl (hwi hw 67 rfl)) (ty := (.array (.object "java/lang/Object"))) (by decide))
    have F1621 := (D1598 (Or.inl (hwi hw 76 rfl)) (ty := .int) (by decide))
    refine cInit X1598 hx hZ hown (by rw [hml]; rfl) e1598 (hwi hw 47 rfl) (hwi hw 48 rfl) (hwi hw 46 rfl) (hwi hw 49 rfl) a1598 [] [(.ref a1598)] rfl (rm_alinit hw a1598 aD kD _ O1618 f1598 A1598 F1619 F1620 F1621 SD VD) (hb hby at_180) rfl (lenOf pd_12 rfl) rfl (by decide) (by decide) (Nat.le_of_ble_eq_true rfl) (by decide) (by decide) ?_
    rintro v1622 T1622 h1622 L1622 X1622 e1622 ⟨rfl, N1622, K1622, F11622, F21622, F31622⟩
    have N1622a := Fr.app N1570a N1622
    have sf1623 : ∀ x ∈ [a1598], Safe Z own_EL s.vm h1598 x := (sfS SF1598 sf0)
    have C1623 : CHr Z own_EL s.vm h1598 s.vm h1622 := CHr.keep K1622 sf1623 H1617.1
    have hk := Nat.le_trans hk C1623.2.1
    have H1623 := H1617.trans C1623
    have O1624 : Ext Z.heap h1622 := xk O1618 K1622 (allS f1598 all0)
    show Ends p e below _ T1622 (mkF m 183 #[iv i0, iv i1, iv ch387, iv ch388, iv ch389, iv ch390, iv (3 : Int32), iv (((XT.ushr i1 (2 : Int32)) &&& (3 : Int32)) + (1 : Int32)), rv a1477, rv a1505, rv a1518, rv a1570, .unset, .unset, .unset] [(.ref a1598)])
    refine go (fun _ => XS.astore X1622.here hx rfl (hb hby at_183) rfl rfl (l' := #[iv i0, iv i1, iv ch387, iv ch388, iv ch389, iv ch390, iv (3 : Int32), iv (((XT.ushr i1 (2 : Int32)) &&& (3 : Int32)) + (1 : Int32)), rv a1477, rv a1505, rv a1518, rv a1570, rv a1598, .unset, .unset]) rfl) ?_
    refine go (fun _ => XS.aload X1622.here hx rfl (hb hby at_185) rfl rfl) ?_
    refine go (fun _ => XS.aload X1622.here hx rfl (hb hby at_187) rfl rfl) ?_
    show Ends p e below _ T1622 (mkF m 189 #[iv i0, iv i1, iv ch387, iv ch388, iv ch389, iv ch390, iv (3 : Int32), iv (((XT.ushr i1 (2 : Int32)) &&& (3 : Int32)) + (1 : Int32)), rv a1477, rv a1505, rv a1518, rv a1570, rv a1598, .unset, .unset] [(.ref a1477), (.ref a1598)])
    have F1625 := (Exa.keep A1598 K1622)
    have F1626 := (Exa.keep (Exa.ext E1598 F1599) K1622)
    refine cVirt X1622 hx hZ hown (by rw [hml]; rfl) e1622 (hwi hw 68 rfl) (hwi hw 69 rfl) (hwi hw 71 rfl) (hwi hw 70 rfl) (hwi hw 46 rfl) (hwi hw 72 rfl) (notFace_of_selects (args := #[]) (mvT hZ (hwi hw 71 rfl))) a1598 F1625 [(.ref a1477)] [] rfl (rm_add_0 hw a1598 a1477 (0 : Int32) aD kD _ O1624 f1598 F1625 F11622 F21622 F31622 SD VD F1626 (Ne.symm n1607)) (hb hby at_189) rfl (lenOf pd_30 rfl) (by decide) (by decide) (Nat.le_of_ble_eq_true rfl) (by decide) (by decide) ?_
    rintro v1627 T1627 h1627 L1627 X1627 e1627 ⟨b1627, k1627, rfl, N1627, K1627, g1627, O1627, F11627, F21627, F31627, V1627⟩
    have N1627a := Fr.app N1622a N1627
    have n1628 : a1477 ≠ b1627 := Nat.ne_of_lt (Nat.lt_of_lt_of_le (F1626.lt) g1627)
    have F1629 := (Arv.keep (Arv.ext F1600 E1598) K1622 (ninS n1608 nin0))
    have n1630 : a1480 ≠ b1627 := Nat.ne_of_lt (Nat.lt_of_lt_of_le (F1629.lt) g1627)
    have F1631 := (Exa.keep (Exa.ext E1598 F1601) K1622)
    have n1632 : a1505 ≠ b1627 := Nat.ne_of_lt (Nat.lt_of_lt_of_le (F1631.lt) g1627)
    have F1633 := (Exa.keep (Exa.ext E1598 F1602) K1622)
    have n1634 : a1518 ≠ b1627 := Nat.ne_of_lt (Nat.lt_of_lt_of_le (F1633.lt) g1627)
    have F1635 := (Arv.keep (Arv.ext F1603 E1598) K1622 (ninS n1611 nin0))
    have n1636 : a1529 ≠ b1627 := Nat.ne_of_lt (Nat.lt_of_lt_of_le (F1635.lt) g1627)
    have F1637 := (Exa.keep (Exa.ext E1598 E1570) K1622)
    have n1638 : a1570 ≠ b1627 := Nat.ne_of_lt (Nat.lt_of_lt_of_le (F1637.lt) g1627)
    have n1639 : a1598 ≠ b1627 := Nat.ne_of_lt (Nat.lt_of_lt_of_le (F1625.lt) g1627)
    have F1640 := (Arv.keep (Arv.ext F1604 E1598) K1622 (ninS n1613 nin0))
    have n1641 : b1498 ≠ b1627 := Nat.ne_of_lt (Nat.lt_of_lt_of_le (F1640.lt) g1627)
    have F1642 := (Arv.keep (Arv.ext F1605 E1598) K1622 (ninS n1614 nin0))
    have n1643 : b1505 ≠ b1627 := Nat.ne_of_lt (Nat.lt_of_lt_of_le (F1642.lt) g1627)
    have F1644 := (Arv.keep (Arv.ext F1606 E1598) K1622 (ninS n1615 nin0))
    have n1645 : b1553 ≠ b1627 := Nat.ne_of_lt (Nat.lt_of_lt_of_le (F1644.lt) g1627)
    have F1646 := (Arv.keep (Arv.ext V1570 E1598) K1622 (ninS n1616 nin0))
    have n1647 : b1570 ≠ b1627 := Nat.ne_of_lt (Nat.lt_of_lt_of_le (F1646.lt) g1627)
    have f1648 : Z.heap.size ≤ b1627 := Nat.le_trans (O1624).1 g1627
    have F1650 := (Safe.keep K1622 sf1623 H1617.1 SF1598)
    have sf1649 : ∀ x ∈ [a1598], Safe Z own_EL s.vm h1622 x := (sfS F1650 sf0)
    have C1649 : CHr Z own_EL s.vm h1622 s.vm h1627 := CHr.keep K1627 sf1649 H1623.1
    have hk := Nat.le_trans hk C1649.2.1
    have H1649 := H1623.trans C1649
    have O1651 : Ext Z.heap h1627 := xk O1624 K1627 (allS f1598 all0)
    show Ends p e below _ T1627 (mkF m 192 #[iv i0, iv i1, iv ch387, iv ch388, iv ch389, iv ch390, iv (3 : Int32), iv (((XT.ushr i1 (2 : Int32)) &&& (3 : Int32)) + (1 : Int32)), rv a1477, rv a1505, rv a1518, rv a1570, rv a1598, .unset, .unset] [(.int (1 : Int32))])
    refine go (fun _ => XT.pop X1627.here hx rfl (hb hby at_192) rfl rfl) ?_
    show Ends p e below _ T1627 (mkF m 193 #[iv i0, iv i1, iv ch387, iv ch388, iv ch389, iv ch390, iv (3 : Int32), iv (((XT.ushr i1 (2 : Int32)) &&& (3 : Int32)) + (1 : Int32)), rv a1477, rv a1505, rv a1518, rv a1570, rv a1598, .unset, .unset] [])
    rcases own_q4 (XT.ushr i1 (2 : Int32)) with q1652 | q1652 | q1652 | q1652
    · rw [q1652]
      show Ends p e below _ T1627 (mkF m 193 #[iv i0, iv i1, iv ch387, iv ch388, iv ch389, iv ch390, iv (3 : Int32), iv (1 : Int32), rv a1477, rv a1505, rv a1518, rv a1570, rv a1598, .unset, .unset] [])
      refine go (fun _ => XS.iload X1627.here hx rfl (hb hby at_193) rfl) ?_
      refine go (fun _ => XT.iconstV X1627.here hx rfl (1 : Int32) (hb hby at_195) (by decide)) ?_
      show Ends p e below _ T1627 (mkF m 196 #[iv i0, iv i1, iv ch387, iv ch388, iv ch389, iv ch390, iv (3 : Int32), iv (1 : Int32), rv a1477, rv a1505, rv a1518, rv a1570, rv a1598, .unset, .unset] [(.int (1 : Int32)), (.int (1 : Int32))])
      refine go (fun _ => XS.icmpYes X1627.here hx rfl (pc0 := 196) (pc' := 207) rfl (hb hby at_196) rfl (XT.ii_le_t ((by decide) : ¬ ((1 : Int32) < (1 : Int32)))) (by decide) (by decide)) ?_
      show Ends p e below _ T1627 (mkF m 207 #[iv i0, iv i1, iv ch387, iv ch388, iv ch389, iv ch390, iv (3 : Int32), iv (1 : Int32), rv a1477, rv a1505, rv a1518, rv a1570, rv a1598, .unset, .unset] [])
      refine go (fun _ => XS.iload X1627.here hx rfl (hb hby at_207) rfl) ?_
      refine go (fun _ => XT.iconstV X1627.here hx rfl (2 : Int32) (hb hby at_209) (by decide)) ?_
      show Ends p e below _ T1627 (mkF m 210 #[iv i0, iv i1, iv ch387, iv ch388, iv ch389, iv ch390, iv (3 : Int32), iv (1 : Int32), rv a1477, rv a1505, rv a1518, rv a1570, rv a1598, .unset, .unset] [(.int (2 : Int32)), (.int (1 : Int32))])
      refine go (fun _ => XS.icmpYes X1627.here hx rfl (pc0 := 210) (pc' := 221) rfl (hb hby at_210) rfl (XT.ii_le_t ((by decide) : ¬ ((2 : Int32) < (1 : Int32)))) (by decide) (by decide)) ?_
      show Ends p e below _ T1627 (mkF m 221 #[iv i0, iv i1, iv ch387, iv ch388, iv ch389, iv ch390, iv (3 : Int32), iv (1 : Int32), rv a1477, rv a1505, rv a1518, rv a1570, rv a1598, .unset, .unset] [])
      refine go (fun _ => XS.iload X1627.here hx rfl (hb hby at_221) rfl) ?_
      refine go (fun _ => XT.iconstV X1627.here hx rfl (3 : Int32) (hb hby at_223) (by decide)) ?_
      show Ends p e below _ T1627 (mkF m 224 #[iv i0, iv i1, iv ch387, iv ch388, iv ch389, iv ch390, iv (3 : Int32), iv (1 : Int32), rv a1477, rv a1505, rv a1518, rv a1570, rv a1598, .unset, .unset] [(.int (3 : Int32)), (.int (1 : Int32))])
      refine go (fun _ => XS.icmpYes X1627.here hx rfl (pc0 := 224) (pc' := 235) rfl (hb hby at_224) rfl (XT.ii_le_t ((by decide) : ¬ ((3 : Int32) < (1 : Int32)))) (by decide) (by decide)) ?_
      show Ends p e below _ T1627 (mkF m 235 #[iv i0, iv i1, iv ch387, iv ch388, iv ch389, iv ch390, iv (3 : Int32), iv (1 : Int32), rv a1477, rv a1505, rv a1518, rv a1570, rv a1598, .unset, .unset] [])
      obtain ⟨T1653, h1653, X1653, e1653, E1653, A1653, D1653, U1653, s1653⟩ := newO X1627 hx hZ hown (hwi hw 99 rfl) (hwi hw 100 rfl) (hwi hw 101 rfl) e1627 (g := (mkF m 235 #[iv i0, iv i1, iv ch387, iv ch388, iv ch389, iv ch390, iv (3 : Int32), iv (1 : Int32), rv a1477, rv a1505, rv a1518, rv a1570, rv a1598, .unset, .unset] [])) rfl (hb hby at_235) (by decide) (by decide)
      have F1654 := (Exa.keep F1626 K1627)
      have F1655 := (Arv.keep F1629 K1627 (ninS n1608 nin0))
      have F1656 := (Exa.keep F1631 K1627)
      have F1657 := (Exa.keep F1633 K1627)
      have F1658 := (Arv.keep F1635 K1627 (ninS n1611 nin0))
      have F1659 := (Exa.keep F1637 K1627)
      have F1660 := (Exa.keep F1625 K1627)
      have F1661 := (Arv.keep F1640 K1627 (ninS n1613 nin0))
      have F1662 := (Arv.keep F1642 K1627 (ninS n1614 nin0))
      have F1663 := (Arv.keep F1644 K1627 (ninS n1615 nin0))
      have F1664 := (Arv.keep F1646 K1627 (ninS n1616 nin0))
      obtain ⟨a1653, g1653⟩ : ∃ z : Addr, z = h1627.size := ⟨_, rfl⟩
      have n1665 : a1477 ≠ a1653 := fun q => absurd (F1654.lt) (by rw [q, g1653]; exact Nat.lt_irrefl _)
      have n1666 : a1480 ≠ a1653 := fun q => absurd (F1655.lt) (by rw [q, g1653]; exact Nat.lt_irrefl _)
      have n1667 : a1505 ≠ a1653 := fun q => absurd (F1656.lt) (by rw [q, g1653]; exact Nat.lt_irrefl _)
      have n1668 : a1518 ≠ a1653 := fun q => absurd (F1657.lt) (by rw [q, g1653]; exact Nat.lt_irrefl _)
      have n1669 : a1529 ≠ a1653 := fun q => absurd (F1658.lt) (by rw [q, g1653]; exact Nat.lt_irrefl _)
      have n1670 : a1570 ≠ a1653 := fun q => absurd (F1659.lt) (by rw [q, g1653]; exact Nat.lt_irrefl _)
      have n1671 : a1598 ≠ a1653 := fun q => absurd (F1660.lt) (by rw [q, g1653]; exact Nat.lt_irrefl _)
      have n1672 : b1498 ≠ a1653 := fun q => absurd (F1661.lt) (by rw [q, g1653]; exact Nat.lt_irrefl _)
      have n1673 : b1505 ≠ a1653 := fun q => absurd (F1662.lt) (by rw [q, g1653]; exact Nat.lt_irrefl _)
      have n1674 : b1553 ≠ a1653 := fun q => absurd (F1663.lt) (by rw [q, g1653]; exact Nat.lt_irrefl _)
      have n1675 : b1570 ≠ a1653 := fun q => absurd (F1664.lt) (by rw [q, g1653]; exact Nat.lt_irrefl _)
      have n1676 : b1627 ≠ a1653 := fun q => absurd (V1627.lt) (by rw [q, g1653]; exact Nat.lt_irrefl _)
      have f1653 : Z.heap.size ≤ a1653 := by rw [g1653]; exact (O1651).1
      rw [← g1653] at A1653 D1653 U1653 s1653
      have C1677 : CHr Z own_EL s.vm h1627 s.vm h1653 := CHr.ext E1653 H1649.1
      have hk := Nat.le_trans hk C1677.2.1
      have H1677 := H1649.trans C1677
      have O1678 : Ext Z.heap h1653 := xx O1651 E1653
      have SF1653 : Safe Z own_EL s.vm h1653 a1653 := Safe.ext E1653 H1649.1 (Safe.new (by rw [g1653]; exact Nat.le_refl _))
      refine go s1653 ?_
      show Ends p e below _ T1653 (mkF m 238 #[iv i0, iv i1, iv ch387, iv ch388, iv ch389, iv ch390, iv (3 : Int32), iv (1 : Int32), rv a1477, rv a1505, rv a1518, rv a1570, rv a1598, .unset, .unset] [(.ref a1653)])
      refine go (fun _ => XS.dup X1653.here hx rfl (hb hby at_238) rfl rfl) ?_
      refine go (fun _ => XS.aload X1653.here hx rfl (hb hby at_239) rfl rfl) ?_
      show Ends p e below _ T1653 (mkF m 241 #[iv i0, iv i1, iv ch387, iv ch388, iv ch389, iv ch390, iv (3 : Int32), iv (1 : Int32), rv a1477, rv a1505, rv a1518, rv a1570, rv a1598, .unset, .unset] [(.ref a1598), (.ref a1653), (.ref a1653)])
      have F1679 := (D1653 (Or.inr (hwi hw 107 rfl)) (ty := (.object "java/util/List")) (by decide))
      refine cInit X1653 hx hZ hown (by rw [hml]; rfl) e1653 (hwi hw 102 rfl) (hwi hw 103 rfl) (hwi hw 101 rfl) (hwi hw 104 rfl) a1653 [(.ref a1598)] [(.ref a1653)] rfl (rm_pg hw a1653 a1598 _ O1678 f1653 A1653 F1679  ) (hb hby at_241) rfl (lenOf pd_31 rfl) rfl (by decide) (by decide) (Nat.le_of_ble_eq_true rfl) (by decide) (by decide) ?_
      rintro v1680 T1680 h1680 L1680 X1680 e1680 ⟨rfl, N1680, K1680, F1680_0⟩
      have N1680a := Fr.app N1627a N1680
      have sf1681 : ∀ x ∈ [a1653], Safe Z own_EL s.vm h1653 x := (sfS SF1653 sf0)
      have C1681 : CHr Z own_EL s.vm h1653 s.vm h1680 := CHr.keep K1680 sf1681 H1677.1
      have hk := Nat.le_trans hk C1681.2.1
      have H1681 := H1677.trans C1681
      have O1682 : Ext Z.heap h1680 := xk O1678 K1680 (allS f1653 all0)
      show Ends p e below _ T1680 (mkF m 244 #[iv i0, iv i1, iv ch387, iv ch388, iv ch389, iv ch390, iv (3 : Int32), iv (1 : Int32), rv a1477, rv a1505, rv a1518, rv a1570, rv a1598, .unset, .unset] [(.ref a1653)])
      refine go (fun _ => XS.astore X1680.here hx rfl (hb hby at_244) rfl rfl (l' := #[iv i0, iv i1, iv ch387, iv ch388, iv ch389, iv ch390, iv (3 : Int32), iv (1 : Int32), rv a1477, rv a1505, rv a1518, rv a1570, rv a1598, rv a1653, .unset]) rfl) ?_
      refine go (fun _ => XS.aload X1680.here hx rfl (hb hby at_246) rfl rfl) ?_
      show Ends p e below _ T1680 (mkF m 248 #[iv i0, iv i1, iv ch387, iv ch388, iv ch389, iv ch390, iv (3 : Int32), iv (1 : Int32), rv a1477, rv a1505, rv a1518, rv a1570, rv a1598, rv a1653, .unset] [(.ref a1653)])
      have F1683 := (Exa.keep (Exa.ext E1653 F1654) K1680)
      have F1684 := (Exa.keep (Exa.ext E1653 F1660) K1680)
      have F1685 := (Fld.keep (Fld.ext E1653 F21627) K1680 (ninS n1671 nin0))
      have F1686 := (Fld.keep (Fld.ext E1653 F31627) K1680 (ninS n1671 nin0))
      have F1687 := (Arv.keep (Arv.ext V1627 E1653) K1680 (ninS n1676 nin0))
      have F1689 := (Exa.keep A1653 K1680)
      refine cVirt X1680 hx hZ hown (by rw [hml]; rfl) e1680 (hwi hw 108 rfl) (hwi hw 109 rfl) (hwi hw 111 rfl) (hwi hw 110 rfl) (hwi hw 101 rfl) (hwi hw 112 rfl) (notFace_of_selects (args := #[]) (mvT hZ (hwi hw 111 rfl))) a1653 F1689 [] [] rfl (rm_name hw a1653 a1598 b1627 a1477 k1627 (1 : Int32) _ _ F1680_0 F1683 F1684 F1685 F1686 F1687 (by decide)) (hb hby at_248) rfl (lenOf pd_32 rfl) (by decide) (by decide) (Nat.le_of_ble_eq_true rfl) (by decide) (by decide) ?_
      rintro v1688 T1688 h1688 L1688 X1688 e1688 ⟨rfl, N1688, rfl⟩
      have N1688a := Fr.app N1680a N1688
      show Ends p e below _ T1688 (mkF m 251 #[iv i0, iv i1, iv ch387, iv ch388, iv ch389, iv ch390, iv (3 : Int32), iv (1 : Int32), rv a1477, rv a1505, rv a1518, rv a1570, rv a1598, rv a1653, .unset] [(.ref a1477)])
      refine go (fun _ => XS.astore X1688.here hx rfl (hb hby at_251) rfl rfl (l' := #[iv i0, iv i1, iv ch387, iv ch388, iv ch389, iv ch390, iv (3 : Int32), iv (1 : Int32), rv a1477, rv a1505, rv a1518, rv a1570, rv a1598, rv a1653, rv a1477]) rfl) ?_
      refine go (fun _ => XS.aload X1688.here hx rfl (hb hby at_253) rfl rfl) ?_
      show Ends p e below _ T1688 (mkF m 255 #[iv i0, iv i1, iv ch387, iv ch388, iv ch389, iv ch390, iv (3 : Int32), iv (1 : Int32), rv a1477, rv a1505, rv a1518, rv a1570, rv a1598, rv a1653, rv a1477] [(.ref a1477)])
      refine go (fun _ => XS.ifnullNo X1688.here hx rfl (hb hby at_255) rfl) ?_
      show Ends p e below _ T1688 (mkF m 258 #[iv i0, iv i1, iv ch387, iv ch388, iv ch389, iv ch390, iv (3 : Int32), iv (1 : Int32), rv a1477, rv a1505, rv a1518, rv a1570, rv a1598, rv a1653, rv a1477] [])
      refine go (fun _ => XS.aload X1688.here hx rfl (hb hby at_258) rfl rfl) ?_
      show Ends p e below _ T1688 (mkF m 260 #[iv i0, iv i1, iv ch387, iv ch388, iv ch389, iv ch390, iv (3 : Int32), iv (1 : Int32), rv a1477, rv a1505, rv a1518, rv a1570, rv a1598, rv a1653, rv a1477] [(.ref a1477)])
      have F1690 := (Fld.keep (Fld.ext E1653 (Fld.keep (Fld.keep (Fld.ext E1598 (Fld.keep (Fld.keep (Fld.other W1546 (Fld.other W1543 (Fld.ext E1529 (Fld.ext E1518 (Fld.keep Fc1498 K1505 nin0))) (Or.inl n1535)) (Or.inl n1535)) K1553 (ninS n1522 nin0)) K1570 nin0)) K1622 (ninS n1607 nin0)) K1627 (ninS n1607 nin0))) K1680 (ninS n1665 nin0))
      have F1691 := (Fld.keep (Fld.ext E1653 (Fld.keep (Fld.keep (Fld.ext E1598 (Fld.keep (Fld.keep (Fld.other W1546 (Fld.other W1543 (Fld.ext E1529 (Fld.ext E1518 (Fld.keep Fv1498 K1505 nin0))) (Or.inl n1535)) (Or.inl n1535)) K1553 (ninS n1522 nin0)) K1570 nin0)) K1622 (ninS n1607 nin0)) K1627 (ninS n1607 nin0))) K1680 (ninS n1665 nin0))
      have F1692 := (Arv.keep (Arv.ext F1661 E1653) K1680 (ninS n1672 nin0))
      refine cVirt X1688 hx hZ hown (by rw [hml]; rfl) e1688 (hwi hw 136 rfl) (hwi hw 137 rfl) (hwi hw 139 rfl) (hwi hw 138 rfl) (hwi hw 2 rfl) (hwi hw 140 rfl) (notFace_of_selects (args := #[]) (mvT hZ (hwi hw 139 rfl))) a1477 F1683 [] [] rfl (rm_length hw a1477 b1498 k1498 (3 : Int32) _ _ O1682 cz SCS hcz F1690 F1683 F1691 F1692) (hb hby at_260) rfl (lenOf pd_33 rfl) (by decide) (by decide) (Nat.le_of_ble_eq_true rfl) (by decide) (by decide) ?_
      rintro v1693 T1693 h1693 L1693 X1693 e1693 ⟨rfl, N1693, rfl⟩
      have N1693a := Fr.app N1688a N1693
      show Ends p e below _ T1693 (mkF m 263 #[iv i0, iv i1, iv ch387, iv ch388, iv ch389, iv ch390, iv (3 : Int32), iv (1 : Int32), rv a1477, rv a1505, rv a1518, rv a1570, rv a1598, rv a1653, rv a1477] [(.int (3 : Int32))])
      refine go (fun _ => XS.iload X1693.here hx rfl (hb hby at_263) rfl) ?_
      show Ends p e below _ T1693 (mkF m 265 #[iv i0, iv i1, iv ch387, iv ch388, iv ch389, iv ch390, iv (3 : Int32), iv (1 : Int32), rv a1477, rv a1505, rv a1518, rv a1570, rv a1598, rv a1653, rv a1477] [(.int (3 : Int32)), (.int (3 : Int32))])
      refine go (fun _ => XS.icmpYes X1693.here hx rfl (pc0 := 265) (pc' := 270) rfl (hb hby at_265) rfl (XT.ii_eq_t ((by decide) : (3 : Int32) = (3 : Int32))) (by decide) (by decide)) ?_
      show Ends p e below _ T1693 (mkF m 270 #[iv i0, iv i1, iv ch387, iv ch388, iv ch389, iv ch390, iv (3 : Int32), iv (1 : Int32), rv a1477, rv a1505, rv a1518, rv a1570, rv a1598, rv a1653, rv a1477] [])
      refine go (fun _ => XS.iload X1693.here hx rfl (hb hby at_270) rfl) ?_
      refine go (fun _ => XT.iconstV X1693.here hx rfl (1 : Int32) (hb hby at_272) (by decide)) ?_
      show Ends p e below _ T1693 (mkF m 273 #[iv i0, iv i1, iv ch387, iv ch388, iv ch389, iv ch390, iv (3 : Int32), iv (1 : Int32), rv a1477, rv a1505, rv a1518, rv a1570, rv a1598, rv a1653, rv a1477] [(.int (1 : Int32)), (.int (3 : Int32))])
      refine go (fun _ => XS.icmpNo X1693.here hx rfl (hb hby at_273) rfl (XT.ii_lt_f ((by decide) : ¬ ((3 : Int32) < (1 : Int32))))) ?_
      show Ends p e below _ T1693 (mkF m 276 #[iv i0, iv i1, iv ch387, iv ch388, iv ch389, iv ch390, iv (3 : Int32), iv (1 : Int32), rv a1477, rv a1505, rv a1518, rv a1570, rv a1598, rv a1653, rv a1477] [])
      refine go (fun _ => XS.aload X1693.here hx rfl (hb hby at_276) rfl rfl) ?_
      refine go (fun _ => XT.iconstV X1693.here hx rfl (0 : Int32) (hb hby at_278) (by decide)) ?_
      show Ends p e below _ T1693 (mkF m 279 #[iv i0, iv i1, iv ch387, iv ch388, iv ch389, iv ch390, iv (3 : Int32), iv (1 : Int32), rv a1477, rv a1505, rv a1518, rv a1570, rv a1598, rv a1653, rv a1477] [(.int (0 : Int32)), (.ref a1477)])
      refine cVirt X1693 hx hZ hown (by rw [hml]; rfl) e1693 (hwi hw 146 rfl) (hwi hw 147 rfl) (hwi hw 149 rfl) (hwi hw 148 rfl) (hwi hw 2 rfl) (hwi hw 150 rfl) (notFace_of_selects (args := #[]) (mvT hZ (hwi hw 149 rfl))) a1477 F1683 [(.int (0 : Int32))] [] rfl (rm_sc_0_3 hw a1477 b1498 k1498 ch387 ch388 ch389 wS _ O1682 cz SCS hcz hsf SS F1690 F1683 F1691 F1692 lc387 gc387) (hb hby at_279) rfl (lenOf pd_34 rfl) (by decide) (by decide) (Nat.le_of_ble_eq_true rfl) (by decide) (by decide) ?_
      rintro v1694 T1694 h1694 L1694 X1694 e1694 ⟨rfl, N1694, rfl⟩
      have N1694a := Fr.app N1693a N1694
      show Ends p e below _ T1694 (mkF m 282 #[iv i0, iv i1, iv ch387, iv ch388, iv ch389, iv ch390, iv (3 : Int32), iv (1 : Int32), rv a1477, rv a1505, rv a1518, rv a1570, rv a1598, rv a1653, rv a1477] [(.int ch387)])
      refine go (fun _ => XS.iloadN X1694.here hx rfl (hb hby at_282) rfl) ?_
      show Ends p e below _ T1694 (mkF m 283 #[iv i0, iv i1, iv ch387, iv ch388, iv ch389, iv ch390, iv (3 : Int32), iv (1 : Int32), rv a1477, rv a1505, rv a1518, rv a1570, rv a1598, rv a1653, rv a1477] [(.int ch387), (.int ch387)])
      refine go (fun _ => XS.icmpYes X1694.here hx rfl (pc0 := 283) (pc' := 288) rfl (hb hby at_283) rfl (XT.ii_eq_t (rfl : ch387 = ch387)) (by decide) (by decide)) ?_
      show Ends p e below _ T1694 (mkF m 288 #[iv i0, iv i1, iv ch387, iv ch388, iv ch389, iv ch390, iv (3 : Int32), iv (1 : Int32), rv a1477, rv a1505, rv a1518, rv a1570, rv a1598, rv a1653, rv a1477] [])
      refine go (fun _ => XS.iload X1694.here hx rfl (hb hby at_288) rfl) ?_
      refine go (fun _ => XT.iconstV X1694.here hx rfl (2 : Int32) (hb hby at_290) (by decide)) ?_
      show Ends p e below _ T1694 (mkF m 291 #[iv i0, iv i1, iv ch387, iv ch388, iv ch389, iv ch390, iv (3 : Int32), iv (1 : Int32), rv a1477, rv a1505, rv a1518, rv a1570, rv a1598, rv a1653, rv a1477] [(.int (2 : Int32)), (.int (3 : Int32))])
      refine go (fun _ => XS.icmpNo X1694.here hx rfl (hb hby at_291) rfl (XT.ii_lt_f ((by decide) : ¬ ((3 : Int32) < (2 : Int32))))) ?_
      show Ends p e below _ T1694 (mkF m 294 #[iv i0, iv i1, iv ch387, iv ch388, iv ch389, iv ch390, iv (3 : Int32), iv (1 : Int32), rv a1477, rv a1505, rv a1518, rv a1570, rv a1598, rv a1653, rv a1477] [])
      refine go (fun _ => XS.aload X1694.here hx rfl (hb hby at_294) rfl rfl) ?_
      refine go (fun _ => XT.iconstV X1694.here hx rfl (1 : Int32) (hb hby at_296) (by decide)) ?_
      show Ends p e below _ T1694 (mkF m 297 #[iv i0, iv i1, iv ch387, iv ch388, iv ch389, iv ch390, iv (3 : Int32), iv (1 : Int32), rv a1477, rv a1505, rv a1518, rv a1570, rv a1598, rv a1653, rv a1477] [(.int (1 : Int32)), (.ref a1477)])
      refine cVirt X1694 hx hZ hown (by rw [hml]; rfl) e1694 (hwi hw 146 rfl) (hwi hw 147 rfl) (hwi hw 149 rfl) (hwi hw 148 rfl) (hwi hw 2 rfl) (hwi hw 150 rfl) (notFace_of_selects (args := #[]) (mvT hZ (hwi hw 149 rfl))) a1477 F1683 [(.int (1 : Int32))] [] rfl (rm_sc_1_3 hw a1477 b1498 k1498 ch387 ch388 ch389 wS _ O1682 cz SCS hcz hsf SS F1690 F1683 F1691 F1692 lc388 gc388) (hb hby at_297) rfl (lenOf pd_34 rfl) (by decide) (by decide) (Nat.le_of_ble_eq_true rfl) (by decide) (by decide) ?_
      rintro v1695 T1695 h1695 L1695 X1695 e1695 ⟨rfl, N1695, rfl⟩
      have N1695a := Fr.app N1694a N1695
      show Ends p e below _ T1695 (mkF m 300 #[iv i0, iv i1, iv ch387, iv ch388, iv ch389, iv ch390, iv (3 : Int32), iv (1 : Int32), rv a1477, rv a1505, rv a1518, rv a1570, rv a1598, rv a1653, rv a1477] [(.int ch388)])
      refine go (fun _ => XS.iloadN X1695.here hx rfl (hb hby at_300) rfl) ?_
      show Ends p e below _ T1695 (mkF m 301 #[iv i0, iv i1, iv ch387, iv ch388, iv ch389, iv ch390, iv (3 : Int32), iv (1 : Int32), rv a1477, rv a1505, rv a1518, rv a1570, rv a1598, rv a1653, rv a1477] [(.int ch388), (.int ch388)])
      refine go (fun _ => XS.icmpYes X1695.here hx rfl (pc0 := 301) (pc' := 306) rfl (hb hby at_301) rfl (XT.ii_eq_t (rfl : ch388 = ch388)) (by decide) (by decide)) ?_
      show Ends p e below _ T1695 (mkF m 306 #[iv i0, iv i1, iv ch387, iv ch388, iv ch389, iv ch390, iv (3 : Int32), iv (1 : Int32), rv a1477, rv a1505, rv a1518, rv a1570, rv a1598, rv a1653, rv a1477] [])
      refine go (fun _ => XS.iload X1695.here hx rfl (hb hby at_306) rfl) ?_
      refine go (fun _ => XT.iconstV X1695.here hx rfl (3 : Int32) (hb hby at_308) (by decide)) ?_
      show Ends p e below _ T1695 (mkF m 309 #[iv i0, iv i1, iv ch387, iv ch388, iv ch389, iv ch390, iv (3 : Int32), iv (1 : Int32), rv a1477, rv a1505, rv a1518, rv a1570, rv a1598, rv a1653, rv a1477] [(.int (3 : Int32)), (.int (3 : Int32))])
      refine go (fun _ => XS.icmpNo X1695.here hx rfl (hb hby at_309) rfl (XT.ii_lt_f ((by decide) : ¬ ((3 : Int32) < (3 : Int32))))) ?_
      show Ends p e below _ T1695 (mkF m 312 #[iv i0, iv i1, iv ch387, iv ch388, iv ch389, iv ch390, iv (3 : Int32), iv (1 : Int32), rv a1477, rv a1505, rv a1518, rv a1570, rv a1598, rv a1653, rv a1477] [])
      refine go (fun _ => XS.aload X1695.here hx rfl (hb hby at_312) rfl rfl) ?_
      refine go (fun _ => XT.iconstV X1695.here hx rfl (2 : Int32) (hb hby at_314) (by decide)) ?_
      show Ends p e below _ T1695 (mkF m 315 #[iv i0, iv i1, iv ch387, iv ch388, iv ch389, iv ch390, iv (3 : Int32), iv (1 : Int32), rv a1477, rv a1505, rv a1518, rv a1570, rv a1598, rv a1653, rv a1477] [(.int (2 : Int32)), (.ref a1477)])
      refine cVirt X1695 hx hZ hown (by rw [hml]; rfl) e1695 (hwi hw 146 rfl) (hwi hw 147 rfl) (hwi hw 149 rfl) (hwi hw 148 rfl) (hwi hw 2 rfl) (hwi hw 150 rfl) (notFace_of_selects (args := #[]) (mvT hZ (hwi hw 149 rfl))) a1477 F1683 [(.int (2 : Int32))] [] rfl (rm_sc_2_3 hw a1477 b1498 k1498 ch387 ch388 ch389 wS _ O1682 cz SCS hcz hsf SS F1690 F1683 F1691 F1692 lc389 gc389) (hb hby at_315) rfl (lenOf pd_34 rfl) (by decide) (by decide) (Nat.le_of_ble_eq_true rfl) (by decide) (by decide) ?_
      rintro v1696 T1696 h1696 L1696 X1696 e1696 ⟨rfl, N1696, rfl⟩
      have N1696a := Fr.app N1695a N1696
      show Ends p e below _ T1696 (mkF m 318 #[iv i0, iv i1, iv ch387, iv ch388, iv ch389, iv ch390, iv (3 : Int32), iv (1 : Int32), rv a1477, rv a1505, rv a1518, rv a1570, rv a1598, rv a1653, rv a1477] [(.int ch389)])
      refine go (fun _ => XS.iload X1696.here hx rfl (hb hby at_318) rfl) ?_
      show Ends p e below _ T1696 (mkF m 320 #[iv i0, iv i1, iv ch387, iv ch388, iv ch389, iv ch390, iv (3 : Int32), iv (1 : Int32), rv a1477, rv a1505, rv a1518, rv a1570, rv a1598, rv a1653, rv a1477] [(.int ch389), (.int ch389)])
      refine go (fun _ => XS.icmpYes X1696.here hx rfl (pc0 := 320) (pc' := 325) rfl (hb hby at_320) rfl (XT.ii_eq_t (rfl : ch389 = ch389)) (by decide) (by decide)) ?_
      show Ends p e below _ T1696 (mkF m 325 #[iv i0, iv i1, iv ch387, iv ch388, iv ch389, iv ch390, iv (3 : Int32), iv (1 : Int32), rv a1477, rv a1505, rv a1518, rv a1570, rv a1598, rv a1653, rv a1477] [])
      refine go (fun _ => XS.aload X1696.here hx rfl (hb hby at_325) rfl rfl) ?_
      show Ends p e below _ T1696 (mkF m 327 #[iv i0, iv i1, iv ch387, iv ch388, iv ch389, iv ch390, iv (3 : Int32), iv (1 : Int32), rv a1477, rv a1505, rv a1518, rv a1570, rv a1598, rv a1653, rv a1477] [(.ref a1598)])
      refine cVirt X1696 hx hZ hown (by rw [hml]; rfl) e1696 (hwi hw 164 rfl) (hwi hw 165 rfl) (hwi hw 167 rfl) (hwi hw 166 rfl) (hwi hw 46 rfl) (hwi hw 168 rfl) (notFace_of_selects (args := #[]) (mvT hZ (hwi hw 167 rfl))) a1598 F1684 [] [] rfl (rm_size hw a1598 (1 : Int32) _ F1686) (hb hby at_327) rfl (lenOf pd_33 rfl) (by decide) (by decide) (Nat.le_of_ble_eq_true rfl) (by decide) (by decide) ?_
      rintro v1697 T1697 h1697 L1697 X1697 e1697 ⟨rfl, N1697, rfl⟩
      have N1697a := Fr.app N1696a N1697
      show Ends p e below _ T1697 (mkF m 330 #[iv i0, iv i1, iv ch387, iv ch388, iv ch389, iv ch390, iv (3 : Int32), iv (1 : Int32), rv a1477, rv a1505, rv a1518, rv a1570, rv a1598, rv a1653, rv a1477] [(.int (1 : Int32))])
      refine go (fun _ => XS.iload X1697.here hx rfl (hb hby at_330) rfl) ?_
      show Ends p e below _ T1697 (mkF m 332 #[iv i0, iv i1, iv ch387, iv ch388, iv ch389, iv ch390, iv (3 : Int32), iv (1 : Int32), rv a1477, rv a1505, rv a1518, rv a1570, rv a1598, rv a1653, rv a1477] [(.int (1 : Int32)), (.int (1 : Int32))])
      refine go (fun _ => XS.icmpNo X1697.here hx rfl (hb hby at_332) rfl (XT.ii_ne_f ((by decide) : (1 : Int32) = (1 : Int32)))) ?_
      show Ends p e below _ T1697 (mkF m 335 #[iv i0, iv i1, iv ch387, iv ch388, iv ch389, iv ch390, iv (3 : Int32), iv (1 : Int32), rv a1477, rv a1505, rv a1518, rv a1570, rv a1598, rv a1653, rv a1477] [])
      refine go (fun _ => XT.iconstV X1697.here hx rfl (1 : Int32) (hb hby at_335) (by decide)) ?_
      refine go (fun _ => XS.goto X1697.here hx rfl (pc0 := 336) (pc' := 340) rfl (hb hby at_336) (by decide) (by decide)) ?_
      show Ends p e below _ T1697 (mkF m 340 #[iv i0, iv i1, iv ch387, iv ch388, iv ch389, iv ch390, iv (3 : Int32), iv (1 : Int32), rv a1477, rv a1505, rv a1518, rv a1570, rv a1598, rv a1653, rv a1477] [(.int (1 : Int32))])
      exact endN X1697 hx hret (by simp) (hb hby at_340) (lvW X1697 hlk hZ (own_EW hw) hs0 hS hk H1681 e1697 (fun h => by rw [hret] at h; cases h) ⟨rfl, N1697a⟩ (by decide) (by decide))
    · rw [q1652]
      show Ends p e below _ T1627 (mkF m 193 #[iv i0, iv i1, iv ch387, iv ch388, iv ch389, iv ch390, iv (3 : Int32), iv (2 : Int32), rv a1477, rv a1505, rv a1518, rv a1570, rv a1598, .unset, .unset] [])
      refine go (fun _ => XS.iload X1627.here hx rfl (hb hby at_193) rfl) ?_
      refine go (fun _ => XT.iconstV X1627.here hx rfl (1 : Int32) (hb hby at_195) (by decide)) ?_
      show Ends p e below _ T1627 (mkF m 196 #[iv i0, iv i1, iv ch387, iv ch388, iv ch389, iv ch390, iv (3 : Int32), iv (2 : Int32), rv a1477, rv a1505, rv a1518, rv a1570, rv a1598, .unset, .unset] [(.int (1 : Int32)), (.int (2 : Int32))])
      refine go (fun _ => XS.icmpNo X1627.here hx rfl (hb hby at_196) rfl (XT.ii_le_f ((by decide) : (1 : Int32) < (2 : Int32)))) ?_
      show Ends p e below _ T1627 (mkF m 199 #[iv i0, iv i1, iv ch387, iv ch388, iv ch389, iv ch390, iv (3 : Int32), iv (2 : Int32), rv a1477, rv a1505, rv a1518, rv a1570, rv a1598, .unset, .unset] [])
      refine go (fun _ => XS.aload X1627.here hx rfl (hb hby at_199) rfl rfl) ?_
      refine go (fun _ => XS.aload X1627.here hx rfl (hb hby at_201) rfl rfl) ?_
      show Ends p e below _ T1627 (mkF m 203 #[iv i0, iv i1, iv ch387, iv ch388, iv ch389, iv ch390, iv (3 : Int32), iv (2 : Int32), rv a1477, rv a1505, rv a1518, rv a1570, rv a1598, .unset, .unset] [(.ref a1505), (.ref a1598)])
      have F1698 := (Exa.keep F1625 K1627)
      have F1699 := (Exa.keep F1631 K1627)
      refine cVirt X1627 hx hZ hown (by rw [hml]; rfl) e1627 (hwi hw 68 rfl) (hwi hw 69 rfl) (hwi hw 71 rfl) (hwi hw 70 rfl) (hwi hw 46 rfl) (hwi hw 72 rfl) (notFace_of_selects (args := #[]) (mvT hZ (hwi hw 71 rfl))) a1598 F1698 [(.ref a1505)] [] rfl (rm_add_1 hw a1598 a1505 b1627 k1627 (1 : Int32) a1477 _ O1651 f1598 F1698 F11627 F21627 F31627 f1648 n1639 O1627 V1627 F1699 (Ne.symm n1609) (Ne.symm n1632)) (hb hby at_203) rfl (lenOf pd_30 rfl) (by decide) (by decide) (Nat.le_of_ble_eq_true rfl) (by decide) (by decide) ?_
      rintro v1700 T1700 h1700 L1700 X1700 e1700 ⟨rfl, N1700, K1700, F11700, F21700, F31700, V1700⟩
      have N1700a := Fr.app N1627a N1700
      have F1702 := (Safe.keep K1627 sf1649 H1623.1 F1650)
      have sf1701 : ∀ x ∈ [a1598, b1627], Safe Z own_EL s.vm h1627 x := (sfS F1702 (sfS (Safe.arv hZ.alike V1627 (by decide)) sf0))
      have C1701 : CHr Z own_EL s.vm h1627 s.vm h1700 := CHr.keep K1700 sf1701 H1649.1
      have hk := Nat.le_trans hk C1701.2.1
      have H1701 := H1649.trans C1701
      have O1703 : Ext Z.heap h1700 := xk O1651 K1700 (allS f1598 (allS f1648 all0))
      show Ends p e below _ T1700 (mkF m 206 #[iv i0, iv i1, iv ch387, iv ch388, iv ch389, iv ch390, iv (3 : Int32), iv (2 : Int32), rv a1477, rv a1505, rv a1518, rv a1570, rv a1598, .unset, .unset] [(.int (1 : Int32))])
      refine go (fun _ => XT.pop X1700.here hx rfl (hb hby at_206) rfl rfl) ?_
      refine go (fun _ => XS.iload X1700.here hx rfl (hb hby at_207) rfl) ?_
      refine go (fun _ => XT.iconstV X1700.here hx rfl (2 : Int32) (hb hby at_209) (by decide)) ?_
      show Ends p e below _ T1700 (mkF m 210 #[iv i0, iv i1, iv ch387, iv ch388, iv ch389, iv ch390, iv (3 : Int32), iv (2 : Int32), rv a1477, rv a1505, rv a1518, rv a1570, rv a1598, .unset, .unset] [(.int (2 : Int32)), (.int (2 : Int32))])
      refine go (fun _ => XS.icmpYes X1700.here hx rfl (pc0 := 210) (pc' := 221) rfl (hb hby at_210) rfl (XT.ii_le_t ((by decide) : ¬ ((2 : Int32) < (2 : Int32)))) (by decide) (by decide)) ?_
      show Ends p e below _ T1700 (mkF m 221 #[iv i0, iv i1, iv ch387, iv ch388, iv ch389, iv ch390, iv (3 : Int32), iv (2 : Int32), rv a1477, rv a1505, rv a1518, rv a1570, rv a1598, .unset, .unset] [])
      refine go (fun _ => XS.iload X1700.here hx rfl (hb hby at_221) rfl) ?_
      refine go (fun _ => XT.iconstV X1700.here hx rfl (3 : Int32) (hb hby at_223) (by decide)) ?_
      show Ends p e below _ T1700 (mkF m 224 #[iv i0, iv i1, iv ch387, iv ch388, iv ch389, iv ch390, iv (3 : Int32), iv (2 : Int32), rv a1477, rv a1505, rv a1518, rv a1570, rv a1598, .unset, .unset] [(.int (3 : Int32)), (.int (2 : Int32))])
      refine go (fun _ => XS.icmpYes X1700.here hx rfl (pc0 := 224) (pc' := 235) rfl (hb hby at_224) rfl (XT.ii_le_t ((by decide) : ¬ ((3 : Int32) < (2 : Int32)))) (by decide) (by decide)) ?_
      show Ends p e below _ T1700 (mkF m 235 #[iv i0, iv i1, iv ch387, iv ch388, iv ch389, iv ch390, iv (3 : Int32), iv (2 : Int32), rv a1477, rv a1505, rv a1518, rv a1570, rv a1598, .unset, .unset] [])
      obtain ⟨T1704, h1704, X1704, e1704, E1704, A1704, D1704, U1704, s1704⟩ := newO X1700 hx hZ hown (hwi hw 99 rfl) (hwi hw 100 rfl) (hwi hw 101 rfl) e1700 (g := (mkF m 235 #[iv i0, iv i1, iv ch387, iv ch388, iv ch389, iv ch390, iv (3 : Int32), iv (2 : Int32), rv a1477, rv a1505, rv a1518, rv a1570, rv a1598, .unset, .unset] [])) rfl (hb hby at_235) (by decide) (by decide)
      have F1705 := (Exa.keep (Exa.keep F1626 K1627) K1700)
      have F1706 := (Arv.keep (Arv.keep F1629 K1627 (ninS n1608 nin0)) K1700 (ninS n1608 (ninS n1630 nin0)))
      have F1707 := (Exa.keep F1699 K1700)
      have F1708 := (Exa.keep (Exa.keep F1633 K1627) K1700)
      have F1709 := (Arv.keep (Arv.keep F1635 K1627 (ninS n1611 nin0)) K1700 (ninS n1611 (ninS n1636 nin0)))
      have F1710 := (Exa.keep (Exa.keep F1637 K1627) K1700)
      have F1711 := (Exa.keep F1698 K1700)
      have F1712 := (Arv.keep (Arv.keep F1640 K1627 (ninS n1613 nin0)) K1700 (ninS n1613 (ninS n1641 nin0)))
      have F1713 := (Arv.keep (Arv.keep F1642 K1627 (ninS n1614 nin0)) K1700 (ninS n1614 (ninS n1643 nin0)))
      have F1714 := (Arv.keep (Arv.keep F1644 K1627 (ninS n1615 nin0)) K1700 (ninS n1615 (ninS n1645 nin0)))
      have F1715 := (Arv.keep (Arv.keep F1646 K1627 (ninS n1616 nin0)) K1700 (ninS n1616 (ninS n1647 nin0)))
      obtain ⟨a1704, g1704⟩ : ∃ z : Addr, z = h1700.size := ⟨_, rfl⟩
      have n1716 : a1477 ≠ a1704 := fun q => absurd (F1705.lt) (by rw [q, g1704]; exact Nat.lt_irrefl _)
      have n1717 : a1480 ≠ a1704 := fun q => absurd (F1706.lt) (by rw [q, g1704]; exact Nat.lt_irrefl _)
      have n1718 : a1505 ≠ a1704 := fun q => absurd (F1707.lt) (by rw [q, g1704]; exact Nat.lt_irrefl _)
      have n1719 : a1518 ≠ a1704 := fun q => absurd (F1708.lt) (by rw [q, g1704]; exact Nat.lt_irrefl _)
      have n1720 : a1529 ≠ a1704 := fun q => absurd (F1709.lt) (by rw [q, g1704]; exact Nat.lt_irrefl _)
      have n1721 : a1570 ≠ a1704 := fun q => absurd (F1710.lt) (by rw [q, g1704]; exact Nat.lt_irrefl _)
      have n1722 : a1598 ≠ a1704 := fun q => absurd (F1711.lt) (by rw [q, g1704]; exact Nat.lt_irrefl _)
      have n1723 : b1498 ≠ a1704 := fun q => absurd (F1712.lt) (by rw [q, g1704]; exact Nat.lt_irrefl _)
      have n1724 : b1505 ≠ a1704 := fun q => absurd (F1713.lt) (by rw [q, g1704]; exact Nat.lt_irrefl _)
      have n1725 : b1553 ≠ a1704 := fun q => absurd (F1714.lt) (by rw [q, g1704]; exact Nat.lt_irrefl _)
      have n1726 : b1570 ≠ a1704 := fun q => absurd (F1715.lt) (by rw [q, g1704]; exact Nat.lt_irrefl _)
      have n1727 : b1627 ≠ a1704 := fun q => absurd (V1700.lt) (by rw [q, g1704]; exact Nat.lt_irrefl _)
      have f1704 : Z.heap.size ≤ a1704 := by rw [g1704]; exact (O1703).1
      rw [← g1704] at A1704 D1704 U1704 s1704
      have C1728 : CHr Z own_EL s.vm h1700 s.vm h1704 := CHr.ext E1704 H1701.1
      have hk := Nat.le_trans hk C1728.2.1
      have H1728 := H1701.trans C1728
      have O1729 : Ext Z.heap h1704 := xx O1703 E1704
      have SF1704 : Safe Z own_EL s.vm h1704 a1704 := Safe.ext E1704 H1701.1 (Safe.new (by rw [g1704]; exact Nat.le_refl _))
      refine go s1704 ?_
      show Ends p e below _ T1704 (mkF m 238 #[iv i0, iv i1, iv ch387, iv ch388, iv ch389, iv ch390, iv (3 : Int32), iv (2 : Int32), rv a1477, rv a1505, rv a1518, rv a1570, rv a1598, .unset, .unset] [(.ref a1704)])
      refine go (fun _ => XS.dup X1704.here hx rfl (hb hby at_238) rfl rfl) ?_
      refine go (fun _ => XS.aload X1704.here hx rfl (hb hby at_239) rfl rfl) ?_
      show Ends p e below _ T1704 (mkF m 241 #[iv i0, iv i1, iv ch387, iv ch388, iv ch389, iv ch390, iv (3 : Int32), iv (2 : Int32), rv a1477, rv a1505, rv a1518, rv a1570, rv a1598, .unset, .unset] [(.ref a1598), (.ref a1704), (.ref a1704)])
      have F1730 := (D1704 (Or.inr (hwi hw 107 rfl)) (ty := (.object "java/util/List")) (by decide))
      refine cInit X1704 hx hZ hown (by rw [hml]; rfl) e1704 (hwi hw 102 rfl) (hwi hw 103 rfl) (hwi hw 101 rfl) (hwi hw 104 rfl) a1704 [(.ref a1598)] [(.ref a1704)] rfl (rm_pg hw a1704 a1598 _ O1729 f1704 A1704 F1730  ) (hb hby at_241) rfl (lenOf pd_31 rfl) rfl (by decide) (by decide) (Nat.le_of_ble_eq_true rfl) (by decide) (by decide) ?_
      rintro v1731 T1731 h1731 L1731 X1731 e1731 ⟨rfl, N1731, K1731, F1731_0⟩
      have N1731a := Fr.app N1700a N1731
      have sf1732 : ∀ x ∈ [a1704], Safe Z own_EL s.vm h1704 x := (sfS SF1704 sf0)
      have C1732 : CHr Z own_EL s.vm h1704 s.vm h1731 := CHr.keep K1731 sf1732 H1728.1
      have hk := Nat.le_trans hk C1732.2.1
      have H1732 := H1728.trans C1732
      have O1733 : Ext Z.heap h1731 := xk O1729 K1731 (allS f1704 all0)
      show Ends p e below _ T1731 (mkF m 244 #[iv i0, iv i1, iv ch387, iv ch388, iv ch389, iv ch390, iv (3 : Int32), iv (2 : Int32), rv a1477, rv a1505, rv a1518, rv a1570, rv a1598, .unset, .unset] [(.ref a1704)])
      refine go (fun _ => XS.astore X1731.here hx rfl (hb hby at_244) rfl rfl (l' := #[iv i0, iv i1, iv ch387, iv ch388, iv ch389, iv ch390, iv (3 : Int32), iv (2 : Int32), rv a1477, rv a1505, rv a1518, rv a1570, rv a1598, rv a1704, .unset]) rfl) ?_
      refine go (fun _ => XS.aload X1731.here hx rfl (hb hby at_246) rfl rfl) ?_
      show Ends p e below _ T1731 (mkF m 248 #[iv i0, iv i1, iv ch387, iv ch388, iv ch389, iv ch390, iv (3 : Int32), iv (2 : Int32), rv a1477, rv a1505, rv a1518, rv a1570, rv a1598, rv a1704, .unset] [(.ref a1704)])
      have F1734 := (Exa.keep (Exa.ext E1704 F1705) K1731)
      have F1735 := (Exa.keep (Exa.ext E1704 F1711) K1731)
      have F1736 := (Fld.keep (Fld.ext E1704 F21700) K1731 (ninS n1722 nin0))
      have F1737 := (Fld.keep (Fld.ext E1704 F31700) K1731 (ninS n1722 nin0))
      have F1738 := (Arv.keep (Arv.ext V1700 E1704) K1731 (ninS n1727 nin0))
      have F1740 := (Exa.keep A1704 K1731)
      refine cVirt X1731 hx hZ hown (by rw [hml]; rfl) e1731 (hwi hw 108 rfl) (hwi hw 109 rfl) (hwi hw 111 rfl) (hwi hw 110 rfl) (hwi hw 101 rfl) (hwi hw 112 rfl) (notFace_of_selects (args := #[]) (mvT hZ (hwi hw 111 rfl))) a1704 F1740 [] [] rfl (rm_name hw a1704 a1598 b1627 a1477 k1627 (2 : Int32) _ _ F1731_0 F1734 F1735 F1736 F1737 F1738 (by decide)) (hb hby at_248) rfl (lenOf pd_32 rfl) (by decide) (by decide) (Nat.le_of_ble_eq_true rfl) (by decide) (by decide) ?_
      rintro v1739 T1739 h1739 L1739 X1739 e1739 ⟨rfl, N1739, rfl⟩
      have N1739a := Fr.app N1731a N1739
      show Ends p e below _ T1739 (mkF m 251 #[iv i0, iv i1, iv ch387, iv ch388, iv ch389, iv ch390, iv (3 : Int32), iv (2 : Int32), rv a1477, rv a1505, rv a1518, rv a1570, rv a1598, rv a1704, .unset] [(.ref a1477)])
      refine go (fun _ => XS.astore X1739.here hx rfl (hb hby at_251) rfl rfl (l' := #[iv i0, iv i1, iv ch387, iv ch388, iv ch389, iv ch390, iv (3 : Int32), iv (2 : Int32), rv a1477, rv a1505, rv a1518, rv a1570, rv a1598, rv a1704, rv a1477]) rfl) ?_
      refine go (fun _ => XS.aload X1739.here hx rfl (hb hby at_253) rfl rfl) ?_
      show Ends p e below _ T1739 (mkF m 255 #[iv i0, iv i1, iv ch387, iv ch388, iv ch389, iv ch390, iv (3 : Int32), iv (2 : Int32), rv a1477, rv a1505, rv a1518, rv a1570, rv a1598, rv a1704, rv a1477] [(.ref a1477)])
      refine go (fun _ => XS.ifnullNo X1739.here hx rfl (hb hby at_255) rfl) ?_
      show Ends p e below _ T1739 (mkF m 258 #[iv i0, iv i1, iv ch387, iv ch388, iv ch389, iv ch390, iv (3 : Int32), iv (2 : Int32), rv a1477, rv a1505, rv a1518, rv a1570, rv a1598, rv a1704, rv a1477] [])
      refine go (fun _ => XS.aload X1739.here hx rfl (hb hby at_258) rfl rfl) ?_
      show Ends p e below _ T1739 (mkF m 260 #[iv i0, iv i1, iv ch387, iv ch388, iv ch389, iv ch390, iv (3 : Int32), iv (2 : Int32), rv a1477, rv a1505, rv a1518, rv a1570, rv a1598, rv a1704, rv a1477] [(.ref a1477)])
      have F1741 := (Fld.keep (Fld.ext E1704 (Fld.keep (Fld.keep (Fld.keep (Fld.ext E1598 (Fld.keep (Fld.keep (Fld.other W1546 (Fld.other W1543 (Fld.ext E1529 (Fld.ext E1518 (Fld.keep Fc1498 K1505 nin0))) (Or.inl n1535)) (Or.inl n1535)) K1553 (ninS n1522 nin0)) K1570 nin0)) K1622 (ninS n1607 nin0)) K1627 (ninS n1607 nin0)) K1700 (ninS n1607 (ninS n1628 nin0)))) K1731 (ninS n1716 nin0))
      have F1742 := (Fld.keep (Fld.ext E1704 (Fld.keep (Fld.keep (Fld.keep (Fld.ext E1598 (Fld.keep (Fld.keep (Fld.other W1546 (Fld.other W1543 (Fld.ext E1529 (Fld.ext E1518 (Fld.keep Fv1498 K1505 nin0))) (Or.inl n1535)) (Or.inl n1535)) K1553 (ninS n1522 nin0)) K1570 nin0)) K1622 (ninS n1607 nin0)) K1627 (ninS n1607 nin0)) K1700 (ninS n1607 (ninS n1628 nin0)))) K1731 (ninS n1716 nin0))
      have F1743 := (Arv.keep (Arv.ext F1712 E1704) K1731 (ninS n1723 nin0))
      refine cVirt X1739 hx hZ hown (by rw [hml]; rfl) e1739 (hwi hw 136 rfl) (hwi hw 137 rfl) (hwi hw 139 rfl) (hwi hw 138 rfl) (hwi hw 2 rfl) (hwi hw 140 rfl) (notFace_of_selects (args := #[]) (mvT hZ (hwi hw 139 rfl))) a1477 F1734 [] [] rfl (rm_length hw a1477 b1498 k1498 (3 : Int32) _ _ O1733 cz SCS hcz F1741 F1734 F1742 F1743) (hb hby at_260) rfl (lenOf pd_33 rfl) (by decide) (by decide) (Nat.le_of_ble_eq_true rfl) (by decide) (by decide) ?_
      rintro v1744 T1744 h1744 L1744 X1744 e1744 ⟨rfl, N1744, rfl⟩
      have N1744a := Fr.app N1739a N1744
      show Ends p e below _ T1744 (mkF m 263 #[iv i0, iv i1, iv ch387, iv ch388, iv ch389, iv ch390, iv (3 : Int32), iv (2 : Int32), rv a1477, rv a1505, rv a1518, rv a1570, rv a1598, rv a1704, rv a1477] [(.int (3 : Int32))])
      refine go (fun _ => XS.iload X1744.here hx rfl (hb hby at_263) rfl) ?_
      show Ends p e below _ T1744 (mkF m 265 #[iv i0, iv i1, iv ch387, iv ch388, iv ch389, iv ch390, iv (3 : Int32), iv (2 : Int32), rv a1477, rv a1505, rv a1518, rv a1570, rv a1598, rv a1704, rv a1477] [(.int (3 : Int32)), (.int (3 : Int32))])
      refine go (fun _ => XS.icmpYes X1744.here hx rfl (pc0 := 265) (pc' := 270) rfl (hb hby at_265) rfl (XT.ii_eq_t ((by decide) : (3 : Int32) = (3 : Int32))) (by decide) (by decide)) ?_
      show Ends p e below _ T1744 (mkF m 270 #[iv i0, iv i1, iv ch387, iv ch388, iv ch389, iv ch390, iv (3 : Int32), iv (2 : Int32), rv a1477, rv a1505, rv a1518, rv a1570, rv a1598, rv a1704, rv a1477] [])
      refine go (fun _ => XS.iload X1744.here hx rfl (hb hby at_270) rfl) ?_
      refine go (fun _ => XT.iconstV X1744.here hx rfl (1 : Int32) (hb hby at_272) (by decide)) ?_
      show Ends p e below _ T1744 (mkF m 273 #[iv i0, iv i1, iv ch387, iv ch388, iv ch389, iv ch390, iv (3 : Int32), iv (2 : Int32), rv a1477, rv a1505, rv a1518, rv a1570, rv a1598, rv a1704, rv a1477] [(.int (1 : Int32)), (.int (3 : Int32))])
      refine go (fun _ => XS.icmpNo X1744.here hx rfl (hb hby at_273) rfl (XT.ii_lt_f ((by decide) : ¬ ((3 : Int32) < (1 : Int32))))) ?_
      show Ends p e below _ T1744 (mkF m 276 #[iv i0, iv i1, iv ch387, iv ch388, iv ch389, iv ch390, iv (3 : Int32), iv (2 : Int32), rv a1477, rv a1505, rv a1518, rv a1570, rv a1598, rv a1704, rv a1477] [])
      refine go (fun _ => XS.aload X1744.here hx rfl (hb hby at_276) rfl rfl) ?_
      refine go (fun _ => XT.iconstV X1744.here hx rfl (0 : Int32) (hb hby at_278) (by decide)) ?_
      show Ends p e below _ T1744 (mkF m 279 #[iv i0, iv i1, iv ch387, iv ch388, iv ch389, iv ch390, iv (3 : Int32), iv (2 : Int32), rv a1477, rv a1505, rv a1518, rv a1570, rv a1598, rv a1704, rv a1477] [(.int (0 : Int32)), (.ref a1477)])
      refine cVirt X1744 hx hZ hown (by rw [hml]; rfl) e1744 (hwi hw 146 rfl) (hwi hw 147 rfl) (hwi hw 149 rfl) (hwi hw 148 rfl) (hwi hw 2 rfl) (hwi hw 150 rfl) (notFace_of_selects (args := #[]) (mvT hZ (hwi hw 149 rfl))) a1477 F1734 [(.int (0 : Int32))] [] rfl (rm_sc_0_3 hw a1477 b1498 k1498 ch387 ch388 ch389 wS _ O1733 cz SCS hcz hsf SS F1741 F1734 F1742 F1743 lc387 gc387) (hb hby at_279) rfl (lenOf pd_34 rfl) (by decide) (by decide) (Nat.le_of_ble_eq_true rfl) (by decide) (by decide) ?_
      rintro v1745 T1745 h1745 L1745 X1745 e1745 ⟨rfl, N1745, rfl⟩
      have N1745a := Fr.app N1744a N1745
      show Ends p e below _ T1745 (mkF m 282 #[iv i0, iv i1, iv ch387, iv ch388, iv ch389, iv ch390, iv (3 : Int32), iv (2 : Int32), rv a1477, rv a1505, rv a1518, rv a1570, rv a1598, rv a1704, rv a1477] [(.int ch387)])
      refine go (fun _ => XS.iloadN X1745.here hx rfl (hb hby at_282) rfl) ?_
      show Ends p e below _ T1745 (mkF m 283 #[iv i0, iv i1, iv ch387, iv ch388, iv ch389, iv ch390, iv (3 : Int32), iv (2 : Int32), rv a1477, rv a1505, rv a1518, rv a1570, rv a1598, rv a1704, rv a1477] [(.int ch387), (.int ch387)])
      refine go (fun _ => XS.icmpYes X1745.here hx rfl (pc0 := 283) (pc' := 288) rfl (hb hby at_283) rfl (XT.ii_eq_t (rfl : ch387 = ch387)) (by decide) (by decide)) ?_
      show Ends p e below _ T1745 (mkF m 288 #[iv i0, iv i1, iv ch387, iv ch388, iv ch389, iv ch390, iv (3 : Int32), iv (2 : Int32), rv a1477, rv a1505, rv a1518, rv a1570, rv a1598, rv a1704, rv a1477] [])
      refine go (fun _ => XS.iload X1745.here hx rfl (hb hby at_288) rfl) ?_
      refine go (fun _ => XT.iconstV X1745.here hx rfl (2 : Int32) (hb hby at_290) (by decide)) ?_
      show Ends p e below _ T1745 (mkF m 291 #[iv i0, iv i1, iv ch387, iv ch388, iv ch389, iv ch390, iv (3 : Int32), iv (2 : Int32), rv a1477, rv a1505, rv a1518, rv a1570, rv a1598, rv a1704, rv a1477] [(.int (2 : Int32)), (.int (3 : Int32))])
      refine go (fun _ => XS.icmpNo X1745.here hx rfl (hb hby at_291) rfl (XT.ii_lt_f ((by decide) : ¬ ((3 : Int32) < (2 : Int32))))) ?_
      show Ends p e below _ T1745 (mkF m 294 #[iv i0, iv i1, iv ch387, iv ch388, iv ch389, iv ch390, iv (3 : Int32), iv (2 : Int32), rv a1477, rv a1505, rv a1518, rv a1570, rv a1598, rv a1704, rv a1477] [])
      refine go (fun _ => XS.aload X1745.here hx rfl (hb hby at_294) rfl rfl) ?_
      refine go (fun _ => XT.iconstV X1745.here hx rfl (1 : Int32) (hb hby at_296) (by decide)) ?_
      show Ends p e below _ T1745 (mkF m 297 #[iv i0, iv i1, iv ch387, iv ch388, iv ch389, iv ch390, iv (3 : Int32), iv (2 : Int32), rv a1477, rv a1505, rv a1518, rv a1570, rv a1598, rv a1704, rv a1477] [(.int (1 : Int32)), (.ref a1477)])
      refine cVirt X1745 hx hZ hown (by rw [hml]; rfl) e1745 (hwi hw 146 rfl) (hwi hw 147 rfl) (hwi hw 149 rfl) (hwi hw 148 rfl) (hwi hw 2 rfl) (hwi hw 150 rfl) (notFace_of_selects (args := #[]) (mvT hZ (hwi hw 149 rfl))) a1477 F1734 [(.int (1 : Int32))] [] rfl (rm_sc_1_3 hw a1477 b1498 k1498 ch387 ch388 ch389 wS _ O1733 cz SCS hcz hsf SS F1741 F1734 F1742 F1743 lc388 gc388) (hb hby at_297) rfl (lenOf pd_34 rfl) (by decide) (by decide) (Nat.le_of_ble_eq_true rfl) (by decide) (by decide) ?_
      rintro v1746 T1746 h1746 L1746 X1746 e1746 ⟨rfl, N1746, rfl⟩
      have N1746a := Fr.app N1745a N1746
      show Ends p e below _ T1746 (mkF m 300 #[iv i0, iv i1, iv ch387, iv ch388, iv ch389, iv ch390, iv (3 : Int32), iv (2 : Int32), rv a1477, rv a1505, rv a1518, rv a1570, rv a1598, rv a1704, rv a1477] [(.int ch388)])
      refine go (fun _ => XS.iloadN X1746.here hx rfl (hb hby at_300) rfl) ?_
      show Ends p e below _ T1746 (mkF m 301 #[iv i0, iv i1, iv ch387, iv ch388, iv ch389, iv ch390, iv (3 : Int32), iv (2 : Int32), rv a1477, rv a1505, rv a1518, rv a1570, rv a1598, rv a1704, rv a1477] [(.int ch388), (.int ch388)])
      refine go (fun _ => XS.icmpYes X1746.here hx rfl (pc0 := 301) (pc' := 306) rfl (hb hby at_301) rfl (XT.ii_eq_t (rfl : ch388 = ch388)) (by decide) (by decide)) ?_
      show Ends p e below _ T1746 (mkF m 306 #[iv i0, iv i1, iv ch387, iv ch388, iv ch389, iv ch390, iv (3 : Int32), iv (2 : Int32), rv a1477, rv a1505, rv a1518, rv a1570, rv a1598, rv a1704, rv a1477] [])
      refine go (fun _ => XS.iload X1746.here hx rfl (hb hby at_306) rfl) ?_
      refine go (fun _ => XT.iconstV X1746.here hx rfl (3 : Int32) (hb hby at_308) (by decide)) ?_
      show Ends p e below _ T1746 (mkF m 309 #[iv i0, iv i1, iv ch387, iv ch388, iv ch389, iv ch390, iv (3 : Int32), iv (2 : Int32), rv a1477, rv a1505, rv a1518, rv a1570, rv a1598, rv a1704, rv a1477] [(.int (3 : Int32)), (.int (3 : Int32))])
      refine go (fun _ => XS.icmpNo X1746.here hx rfl (hb hby at_309) rfl (XT.ii_lt_f ((by decide) : ¬ ((3 : Int32) < (3 : Int32))))) ?_
      show Ends p e below _ T1746 (mkF m 312 #[iv i0, iv i1, iv ch387, iv ch388, iv ch389, iv ch390, iv (3 : Int32), iv (2 : Int32), rv a1477, rv a1505, rv a1518, rv a1570, rv a1598, rv a1704, rv a1477] [])
      refine go (fun _ => XS.aload X1746.here hx rfl (hb hby at_312) rfl rfl) ?_
      refine go (fun _ => XT.iconstV X1746.here hx rfl (2 : Int32) (hb hby at_314) (by decide)) ?_
      show Ends p e below _ T1746 (mkF m 315 #[iv i0, iv i1, iv ch387, iv ch388, iv ch389, iv ch390, iv (3 : Int32), iv (2 : Int32), rv a1477, rv a1505, rv a1518, rv a1570, rv a1598, rv a1704, rv a1477] [(.int (2 : Int32)), (.ref a1477)])
      refine cVirt X1746 hx hZ hown (by rw [hml]; rfl) e1746 (hwi hw 146 rfl) (hwi hw 147 rfl) (hwi hw 149 rfl) (hwi hw 148 rfl) (hwi hw 2 rfl) (hwi hw 150 rfl) (notFace_of_selects (args := #[]) (mvT hZ (hwi hw 149 rfl))) a1477 F1734 [(.int (2 : Int32))] [] rfl (rm_sc_2_3 hw a1477 b1498 k1498 ch387 ch388 ch389 wS _ O1733 cz SCS hcz hsf SS F1741 F1734 F1742 F1743 lc389 gc389) (hb hby at_315) rfl (lenOf pd_34 rfl) (by decide) (by decide) (Nat.le_of_ble_eq_true rfl) (by decide) (by decide) ?_
      rintro v1747 T1747 h1747 L1747 X1747 e1747 ⟨rfl, N1747, rfl⟩
      have N1747a := Fr.app N1746a N1747
      show Ends p e below _ T1747 (mkF m 318 #[iv i0, iv i1, iv ch387, iv ch388, iv ch389, iv ch390, iv (3 : Int32), iv (2 : Int32), rv a1477, rv a1505, rv a1518, rv a1570, rv a1598, rv a1704, rv a1477] [(.int ch389)])
      refine go (fun _ => XS.iload X1747.here hx rfl (hb hby at_318) rfl) ?_
      show Ends p e below _ T1747 (mkF m 320 #[iv i0, iv i1, iv ch387, iv ch388, iv ch389, iv ch390, iv (3 : Int32), iv (2 : Int32), rv a1477, rv a1505, rv a1518, rv a1570, rv a1598, rv a1704, rv a1477] [(.int ch389), (.int ch389)])
      refine go (fun _ => XS.icmpYes X1747.here hx rfl (pc0 := 320) (pc' := 325) rfl (hb hby at_320) rfl (XT.ii_eq_t (rfl : ch389 = ch389)) (by decide) (by decide)) ?_
      show Ends p e below _ T1747 (mkF m 325 #[iv i0, iv i1, iv ch387, iv ch388, iv ch389, iv ch390, iv (3 : Int32), iv (2 : Int32), rv a1477, rv a1505, rv a1518, rv a1570, rv a1598, rv a1704, rv a1477] [])
      refine go (fun _ => XS.aload X1747.here hx rfl (hb hby at_325) rfl rfl) ?_
      show Ends p e below _ T1747 (mkF m 327 #[iv i0, iv i1, iv ch387, iv ch388, iv ch389, iv ch390, iv (3 : Int32), iv (2 : Int32), rv a1477, rv a1505, rv a1518, rv a1570, rv a1598, rv a1704, rv a1477] [(.ref a1598)])
      refine cVirt X1747 hx hZ hown (by rw [hml]; rfl) e1747 (hwi hw 164 rfl) (hwi hw 165 rfl) (hwi hw 167 rfl) (hwi hw 166 rfl) (hwi hw 46 rfl) (hwi hw 168 rfl) (notFace_of_selects (args := #[]) (mvT hZ (hwi hw 167 rfl))) a1598 F1735 [] [] rfl (rm_size hw a1598 (2 : Int32) _ F1737) (hb hby at_327) rfl (lenOf pd_33 rfl) (by decide) (by decide) (Nat.le_of_ble_eq_true rfl) (by decide) (by decide) ?_
      rintro v1748 T1748 h1748 L1748 X1748 e1748 ⟨rfl, N1748, rfl⟩
      have N1748a := Fr.app N1747a N1748
      show Ends p e below _ T1748 (mkF m 330 #[iv i0, iv i1, iv ch387, iv ch388, iv ch389, iv ch390, iv (3 : Int32), iv (2 : Int32), rv a1477, rv a1505, rv a1518, rv a1570, rv a1598, rv a1704, rv a1477] [(.int (2 : Int32))])
      refine go (fun _ => XS.iload X1748.here hx rfl (hb hby at_330) rfl) ?_
      show Ends p e below _ T1748 (mkF m 332 #[iv i0, iv i1, iv ch387, iv ch388, iv ch389, iv ch390, iv (3 : Int32), iv (2 : Int32), rv a1477, rv a1505, rv a1518, rv a1570, rv a1598, rv a1704, rv a1477] [(.int (2 : Int32)), (.int (2 : Int32))])
      refine go (fun _ => XS.icmpNo X1748.here hx rfl (hb hby at_332) rfl (XT.ii_ne_f ((by decide) : (2 : Int32) = (2 : Int32)))) ?_
      show Ends p e below _ T1748 (mkF m 335 #[iv i0, iv i1, iv ch387, iv ch388, iv ch389, iv ch390, iv (3 : Int32), iv (2 : Int32), rv a1477, rv a1505, rv a1518, rv a1570, rv a1598, rv a1704, rv a1477] [])
      refine go (fun _ => XT.iconstV X1748.here hx rfl (1 : Int32) (hb hby at_335) (by decide)) ?_
      refine go (fun _ => XS.goto X1748.here hx rfl (pc0 := 336) (pc' := 340) rfl (hb hby at_336) (by decide) (by decide)) ?_
      show Ends p e below _ T1748 (mkF m 340 #[iv i0, iv i1, iv ch387, iv ch388, iv ch389, iv ch390, iv (3 : Int32), iv (2 : Int32), rv a1477, rv a1505, rv a1518, rv a1570, rv a1598, rv a1704, rv a1477] [(.int (1 : Int32))])
      exact endN X1748 hx hret (by simp) (hb hby at_340) (lvW X1748 hlk hZ (own_EW hw) hs0 hS hk H1732 e1748 (fun h => by rw [hret] at h; cases h) ⟨rfl, N1748a⟩ (by decide) (by decide))
    · rw [q1652]
      show Ends p e below _ T1627 (mkF m 193 #[iv i0, iv i1, iv ch387, iv ch388, iv ch389, iv ch390, iv (3 : Int32), iv (3 : Int32), rv a1477, rv a1505, rv a1518, rv a1570, rv a1598, .unset, .unset] [])
      refine go (fun _ => XS.iload X1627.here hx rfl (hb hby at_193) rfl) ?_
      refine go (fun _ => XT.iconstV X1627.here hx rfl (1 : Int32) (hb hby at_195) (by decide)) ?_
      show Ends p e below _ T1627 (mkF m 196 #[iv i0, iv i1, iv ch387, iv ch388, iv ch389, iv ch390, iv (3 : Int32), iv (3 : Int32), rv a1477, rv a1505, rv a1518, rv a1570, rv a1598, .unset, .unset] [(.int (1 : Int32)), (.int (3 : Int32))])
      refine go (fun _ => XS.icmpNo X1627.here hx rfl (hb hby at_196) rfl (XT.ii_le_f ((by decide) : (1 : Int32) < (3 : Int32)))) ?_
      show Ends p e below _ T1627 (mkF m 199 #[iv i0, iv i1, iv ch387, iv ch388, iv ch389, iv ch390, iv (3 : Int32), iv (3 : Int32), rv a1477, rv a1505, rv a1518, rv a1570, rv a1598, .unset, .unset] [])
      refine go (fun _ => XS.aload X1627.here hx rfl (hb hby at_199) rfl rfl) ?_
      refine go (fun _ => XS.aload X1627.here hx rfl (hb hby at_201) rfl rfl) ?_
      show Ends p e below _ T1627 (mkF m 203 #[iv i0, iv i1, iv ch387, iv ch388, iv ch389, iv ch390, iv (3 : Int32), iv (3 : Int32), rv a1477, rv a1505, rv a1518, rv a1570, rv a1598, .unset, .unset] [(.ref a1505), (.ref a1598)])
      have F1749 := (Exa.keep F1625 K1627)
      have F1750 := (Exa.keep F1631 K1627)
      refine cVirt X1627 hx hZ hown (by rw [hml]; rfl) e1627 (hwi hw 68 rfl) (hwi hw 69 rfl) (hwi hw 71 rfl) (hwi hw 70 rfl) (hwi hw 46 rfl) (hwi hw 72 rfl) (notFace_of_selects (args := #[]) (mvT hZ (hwi hw 71 rfl))) a1598 F1749 [(.ref a1505)] [] rfl (rm_add_1 hw a1598 a1505 b1627 k1627 (1 : Int32) a1477 _ O1651 f1598 F1749 F11627 F21627 F31627 f1648 n1639 O1627 V1627 F1750 (Ne.symm n1609) (Ne.symm n1632)) (hb hby at_203) rfl (lenOf pd_30 rfl) (by decide) (by decide) (Nat.le_of_ble_eq_true rfl) (by decide) (by decide) ?_
      rintro v1751 T1751 h1751 L1751 X1751 e1751 ⟨rfl, N1751, K1751, F11751, F21751, F31751, V1751⟩
      have N1751a := Fr.app N1627a N1751
      have F1753 := (Safe.keep K1627 sf1649 H1623.1 F1650)
      have sf1752 : ∀ x ∈ [a1598, b1627], Safe Z own_EL s.vm h1627 x := (sfS F1753 (sfS (Safe.arv hZ.alike V1627 (by decide)) sf0))
      have C1752 : CHr Z own_EL s.vm h1627 s.vm h1751 := CHr.keep K1751 sf1752 H1649.1
      have hk := Nat.le_trans hk C1752.2.1
      have H1752 := H1649.trans C1752
      have O1754 : Ext Z.heap h1751 := xk O1651 K1751 (allS f1598 (allS f1648 all0))
      show Ends p e below _ T1751 (mkF m 206 #[iv i0, iv i1, iv ch387, iv ch388, iv ch389, iv ch390, iv (3 : Int32), iv (3 : Int32), rv a1477, rv a1505, rv a1518, rv a1570, rv a1598, .unset, .unset] [(.int (1 : Int32))])
      refine go (fun _ => XT.pop X1751.here hx rfl (hb hby at_206) rfl rfl) ?_
      refine go (fun _ => XS.iload X1751.here hx rfl (hb hby at_207) rfl) ?_
      refine go (fun _ => XT.iconstV X1751.here hx rfl (2 : Int32) (hb hby at_209) (by decide)) ?_
      show Ends p e below _ T1751 (mkF m 210 #[iv i0, iv i1, iv ch387, iv ch388, iv ch389, iv ch390, iv (3 : Int32), iv (3 : Int32), rv a1477, rv a1505, rv a1518, rv a1570, rv a1598, .unset, .unset] [(.int (2 : Int32)), (.int (3 : Int32))])
      refine go (fun _ => XS.icmpNo X1751.here hx rfl (hb hby at_210) rfl (XT.ii_le_f ((by decide) : (2 : Int32) < (3 : Int32)))) ?_
      show Ends p e below _ T1751 (mkF m 213 #[iv i0, iv i1, iv ch387, iv ch388, iv ch389, iv ch390, iv (3 : Int32), iv (3 : Int32), rv a1477, rv a1505, rv a1518, rv a1570, rv a1598, .unset, .unset] [])
      refine go (fun _ => XS.aload X1751.here hx rfl (hb hby at_213) rfl rfl) ?_
      refine go (fun _ => XS.aload X1751.here hx rfl (hb hby at_215) rfl rfl) ?_
      show Ends p e below _ T1751 (mkF m 217 #[iv i0, iv i1, iv ch387, iv ch388, iv ch389, iv ch390, iv (3 : Int32), iv (3 : Int32), rv a1477, rv a1505, rv a1518, rv a1570, rv a1598, .unset, .unset] [(.ref a1518), (.ref a1598)])
      have F1755 := (Exa.keep F1749 K1751)
      have F1756 := (Exa.keep (Exa.keep F1633 K1627) K1751)
      refine cVirt X1751 hx hZ hown (by rw [hml]; rfl) e1751 (hwi hw 68 rfl) (hwi hw 69 rfl) (hwi hw 71 rfl) (hwi hw 70 rfl) (hwi hw 46 rfl) (hwi hw 72 rfl) (notFace_of_selects (args := #[]) (mvT hZ (hwi hw 71 rfl))) a1598 F1755 [(.ref a1518)] [] rfl (rm_add_2 hw a1598 a1518 b1627 k1627 (2 : Int32) a1477 a1505 _ O1754 f1598 F1755 F11751 F21751 F31751 f1648 n1639 O1627 V1751 F1756 (Ne.symm n1610) (Ne.symm n1634)) (hb hby at_217) rfl (lenOf pd_30 rfl) (by decide) (by decide) (Nat.le_of_ble_eq_true rfl) (by decide) (by decide) ?_
      rintro v1757 T1757 h1757 L1757 X1757 e1757 ⟨rfl, N1757, K1757, F11757, F21757, F31757, V1757⟩
      have N1757a := Fr.app N1751a N1757
      have F1759 := (Safe.keep K1751 sf1752 H1649.1 F1753)
      have sf1758 : ∀ x ∈ [a1598, b1627], Safe Z own_EL s.vm h1751 x := (sfS F1759 (sfS (Safe.arv hZ.alike V1751 (by decide)) sf0))
      have C1758 : CHr Z own_EL s.vm h1751 s.vm h1757 := CHr.keep K1757 sf1758 H1752.1
      have hk := Nat.le_trans hk C1758.2.1
      have H1758 := H1752.trans C1758
      have O1760 : Ext Z.heap h1757 := xk O1754 K1757 (allS f1598 (allS f1648 all0))
      show Ends p e below _ T1757 (mkF m 220 #[iv i0, iv i1, iv ch387, iv ch388, iv ch389, iv ch390, iv (3 : Int32), iv (3 : Int32), rv a1477, rv a1505, rv a1518, rv a1570, rv a1598, .unset, .unset] [(.int (1 : Int32))])
      refine go (fun _ => XT.pop X1757.here hx rfl (hb hby at_220) rfl rfl) ?_
      refine go (fun _ => XS.iload X1757.here hx rfl (hb hby at_221) rfl) ?_
      refine go (fun _ => XT.iconstV X1757.here hx rfl (3 : Int32) (hb hby at_223) (by decide)) ?_
      show Ends p e below _ T1757 (mkF m 224 #[iv i0, iv i1, iv ch387, iv ch388, iv ch389, iv ch390, iv (3 : Int32), iv (3 : Int32), rv a1477, rv a1505, rv a1518, rv a1570, rv a1598, .unset, .unset] [(.int (3 : Int32)), (.int (3 : Int32))])
      refine go (fun _ => XS.icmpYes X1757.here hx rfl (pc0 := 224) (pc' := 235) rfl (hb hby at_224) rfl (XT.ii_le_t ((by decide) : ¬ ((3 : Int32) < (3 : Int32)))) (by decide) (by decide)) ?_
      show Ends p e below _ T1757 (mkF m 235 #[iv i0, iv i1, iv ch387, iv ch388, iv ch389, iv ch390, iv (3 : Int32), iv (3 : Int32), rv a1477, rv a1505, rv a1518, rv a1570, rv a1598, .unset, .unset] [])
      obtain ⟨T1761, h1761, X1761, e1761, E1761, A1761, D1761, U1761, s1761⟩ := newO X1757 hx hZ hown (hwi hw 99 rfl) (hwi hw 100 rfl) (hwi hw 101 rfl) e1757 (g := (mkF m 235 #[iv i0, iv i1, iv ch387, iv ch388, iv ch389, iv ch390, iv (3 : Int32), iv (3 : Int32), rv a1477, rv a1505, rv a1518, rv a1570, rv a1598, .unset, .unset] [])) rfl (hb hby at_235) (by decide) (by decide)
      have F1762 := (Exa.keep (Exa.keep (Exa.keep F1626 K1627) K1751) K1757)
      have F1763 := (Arv.keep (Arv.keep (Arv.keep F1629 K1627 (ninS n1608 nin0)) K1751 (ninS n1608 (ninS n1630 nin0))) K1757 (ninS n1608 (ninS n1630 nin0)))
      have F1764 := (Exa.keep (Exa.keep F1750 K1751) K1757)
      have F1765 := (Exa.keep F1756 K1757)
      have F1766 := (Arv.keep (Arv.keep (Arv.keep F1635 K1627 (ninS n1611 nin0)) K1751 (ninS n1611 (ninS n1636 nin0))) K1757 (ninS n1611 (ninS n1636 nin0)))
      have F1767 := (Exa.keep (Exa.keep (Exa.keep F1637 K1627) K1751) K1757)
      have F1768 := (Exa.keep F1755 K1757)
      have F1769 := (Arv.keep (Arv.keep (Arv.keep F1640 K1627 (ninS n1613 nin0)) K1751 (ninS n1613 (ninS n1641 nin0))) K1757 (ninS n1613 (ninS n1641 nin0)))
      have F1770 := (Arv.keep (Arv.keep (Arv.keep F1642 K1627 (ninS n1614 nin0)) K1751 (ninS n1614 (ninS n1643 nin0))) K1757 (ninS n1614 (ninS n1643 nin0)))
      have F1771 := (Arv.keep (Arv.keep (Arv.keep F1644 K1627 (ninS n1615 nin0)) K1751 (ninS n1615 (ninS n1645 nin0))) K1757 (ninS n1615 (ninS n1645 nin0)))
      have F1772 := (Arv.keep (Arv.keep (Arv.keep F1646 K1627 (ninS n1616 nin0)) K1751 (ninS n1616 (ninS n1647 nin0))) K1757 (ninS n1616 (ninS n1647 nin0)))
      obtain ⟨a1761, g1761⟩ : ∃ z : Addr, z = h1757.size := ⟨_, rfl⟩
      have n1773 : a1477 ≠ a1761 := fun q => absurd (F1762.lt) (by rw [q, g1761]; exact Nat.lt_irrefl _)
      have n1774 : a1480 ≠ a1761 := fun q => absurd (F1763.lt) (by rw [q, g1761]; exact Nat.lt_irrefl _)
      have n1775 : a1505 ≠ a1761 := fun q => absurd (F1764.lt) (by rw [q, g1761]; exact Nat.lt_irrefl _)
      have n1776 : a1518 ≠ a1761 := fun q => absurd (F1765.lt) (by rw [q, g1761]; exact Nat.lt_irrefl _)
      have n1777 : a1529 ≠ a1761 := fun q => absurd (F1766.lt) (by rw [q, g1761]; exact Nat.lt_irrefl _)
      have n1778 : a1570 ≠ a1761 := fun q => absurd (F1767.lt) (by rw [q, g1761]; exact Nat.lt_irrefl _)
      have n1779 : a1598 ≠ a1761 := fun q => absurd (F1768.lt) (by rw [q, g1761]; exact Nat.lt_irrefl _)
      have n1780 : b1498 ≠ a1761 := fun q => absurd (F1769.lt) (by rw [q, g1761]; exact Nat.lt_irrefl _)
      have n1781 : b1505 ≠ a1761 := fun q => absurd (F1770.lt) (by rw [q, g1761]; exact Nat.lt_irrefl _)
      have n1782 : b1553 ≠ a1761 := fun q => absurd (F1771.lt) (by rw [q, g1761]; exact Nat.lt_irrefl _)
      have n1783 : b1570 ≠ a1761 := fun q => absurd (F1772.lt) (by rw [q, g1761]; exact Nat.lt_irrefl _)
      have n1784 : b1627 ≠ a1761 := fun q => absurd (V1757.lt) (by rw [q, g1761]; exact Nat.lt_irrefl _)
      have f1761 : Z.heap.size ≤ a1761 := by rw [g1761]; exact (O1760).1
      rw [← g1761] at A1761 D1761 U1761 s1761
      have C1785 : CHr Z own_EL s.vm h1757 s.vm h1761 := CHr.ext E1761 H1758.1
      have hk := Nat.le_trans hk C1785.2.1
      have H1785 := H1758.trans C1785
      have O1786 : Ext Z.heap h1761 := xx O1760 E1761
      have SF1761 : Safe Z own_EL s.vm h1761 a1761 := Safe.ext E1761 H1758.1 (Safe.new (by rw [g1761]; exact Nat.le_refl _))
      refine go s1761 ?_
      show Ends p e below _ T1761 (mkF m 238 #[iv i0, iv i1, iv ch387, iv ch388, iv ch389, iv ch390, iv (3 : Int32), iv (3 : Int32), rv a1477, rv a1505, rv a1518, rv a1570, rv a1598, .unset, .unset] [(.ref a1761)])
      refine go (fun _ => XS.dup X1761.here hx rfl (hb hby at_238) rfl rfl) ?_
      refine go (fun _ => XS.aload X1761.here hx rfl (hb hby at_239) rfl rfl) ?_
      show Ends p e below _ T1761 (mkF m 241 #[iv i0, iv i1, iv ch387, iv ch388, iv ch389, iv ch390, iv (3 : Int32), iv (3 : Int32), rv a1477, rv a1505, rv a1518, rv a1570, rv a1598, .unset, .unset] [(.ref a1598), (.ref a1761), (.ref a1761)])
      have F1787 := (D1761 (Or.inr (hwi hw 107 rfl)) (ty := (.object "java/util/List")) (by decide))
      refine cInit X1761 hx hZ hown (by rw [hml]; rfl) e1761 (hwi hw 102 rfl) (hwi hw 103 rfl) (hwi hw 101 rfl) (hwi hw 104 rfl) a1761 [(.ref a1598)] [(.ref a1761)] rfl (rm_pg hw a1761 a1598 _ O1786 f1761 A1761 F1787  ) (hb hby at_241) rfl (lenOf pd_31 rfl) rfl (by decide) (by decide) (Nat.le_of_ble_eq_true rfl) (by decide) (by decide) ?_
      rintro v1788 T1788 h1788 L1788 X1788 e1788 ⟨rfl, N1788, K1788, F1788_0⟩
      have N1788a := Fr.app N1757a N1788
      have sf1789 : ∀ x ∈ [a1761], Safe Z own_EL s.vm h1761 x := (sfS SF1761 sf0)
      have C1789 : CHr Z own_EL s.vm h1761 s.vm h1788 := CHr.keep K1788 sf1789 H1785.1
      have hk := Nat.le_trans hk C1789.2.1
      have H1789 := H1785.trans C1789
      have O1790 : Ext Z.heap h1788 := xk O1786 K1788 (allS f1761 all0)
      show Ends p e below _ T1788 (mkF m 244 #[iv i0, iv i1, iv ch387, iv ch388, iv ch389, iv ch390, iv (3 : Int32), iv (3 : Int32), rv a1477, rv a1505, rv a1518, rv a1570, rv a1598, .unset, .unset] [(.ref a1761)])
      refine go (fun _ => XS.astore X1788.here hx rfl (hb hby at_244) rfl rfl (l' := #[iv i0, iv i1, iv ch387, iv ch388, iv ch389, iv ch390, iv (3 : Int32), iv (3 : Int32), rv a1477, rv a1505, rv a1518, rv a1570, rv a1598, rv a1761, .unset]) rfl) ?_
      refine go (fun _ => XS.aload X1788.here hx rfl (hb hby at_246) rfl rfl) ?_
      show Ends p e below _ T1788 (mkF m 248 #[iv i0, iv i1, iv ch387, iv ch388, iv ch389, iv ch390, iv (3 : Int32), iv (3 : Int32), rv a1477, rv a1505, rv a1518, rv a1570, rv a1598, rv a1761, .unset] [(.ref a1761)])
      have F1791 := (Exa.keep (Exa.ext E1761 F1762) K1788)
      have F1792 := (Exa.keep (Exa.ext E1761 F1768) K1788)
      have F1793 := (Fld.keep (Fld.ext E1761 F21757) K1788 (ninS n1779 nin0))
      have F1794 := (Fld.keep (Fld.ext E1761 F31757) K1788 (ninS n1779 nin0))
      have F1795 := (Arv.keep (Arv.ext V1757 E1761) K1788 (ninS n1784 nin0))
      have F1797 := (Exa.keep A1761 K1788)
      refine cVirt X1788 hx hZ hown (by rw [hml]; rfl) e1788 (hwi hw 108 rfl) (hwi hw 109 rfl) (hwi hw 111 rfl) (hwi hw 110 rfl) (hwi hw 101 rfl) (hwi hw 112 rfl) (notFace_of_selects (args := #[]) (mvT hZ (hwi hw 111 rfl))) a1761 F1797 [] [] rfl (rm_name hw a1761 a1598 b1627 a1477 k1627 (3 : Int32) _ _ F1788_0 F1791 F1792 F1793 F1794 F1795 (by decide)) (hb hby at_248) rfl (lenOf pd_32 rfl) (by decide) (by decide) (Nat.le_of_ble_eq_true rfl) (by decide) (by decide) ?_
      rintro v1796 T1796 h1796 L1796 X1796 e1796 ⟨rfl, N1796, rfl⟩
      have N1796a := Fr.app N1788a N1796
      show Ends p e below _ T1796 (mkF m 251 #[iv i0, iv i1, iv ch387, iv ch388, iv ch389, iv ch390, iv (3 : Int32), iv (3 : Int32), rv a1477, rv a1505, rv a1518, rv a1570, rv a1598, rv a1761, .unset] [(.ref a1477)])
      refine go (fun _ => XS.astore X1796.here hx rfl (hb hby at_251) rfl rfl (l' := #[iv i0, iv i1, iv ch387, iv ch388, iv ch389, iv ch390, iv (3 : Int32), iv (3 : Int32), rv a1477, rv a1505, rv a1518, rv a1570, rv a1598, rv a1761, rv a1477]) rfl) ?_
      refine go (fun _ => XS.aload X1796.here hx rfl (hb hby at_253) rfl rfl) ?_
      show Ends p e below _ T1796 (mkF m 255 #[iv i0, iv i1, iv ch387, iv ch388, iv ch389, iv ch390, iv (3 : Int32), iv (3 : Int32), rv a1477, rv a1505, rv a1518, rv a1570, rv a1598, rv a1761, rv a1477] [(.ref a1477)])
      refine go (fun _ => XS.ifnullNo X1796.here hx rfl (hb hby at_255) rfl) ?_
      show Ends p e below _ T1796 (mkF m 258 #[iv i0, iv i1, iv ch387, iv ch388, iv ch389, iv ch390, iv (3 : Int32), iv (3 : Int32), rv a1477, rv a1505, rv a1518, rv a1570, rv a1598, rv a1761, rv a1477] [])
      refine go (fun _ => XS.aload X1796.here hx rfl (hb hby at_258) rfl rfl) ?_
      show Ends p e below _ T1796 (mkF m 260 #[iv i0, iv i1, iv ch387, iv ch388, iv ch389, iv ch390, iv (3 : Int32), iv (3 : Int32), rv a1477, rv a1505, rv a1518, rv a1570, rv a1598, rv a1761, rv a1477] [(.ref a1477)])
      have F1798 := (Fld.keep (Fld.ext E1761 (Fld.keep (Fld.keep (Fld.keep (Fld.keep (Fld.ext E1598 (Fld.keep (Fld.keep (Fld.other W1546 (Fld.other W1543 (Fld.ext E1529 (Fld.ext E1518 (Fld.keep Fc1498 K1505 nin0))) (Or.inl n1535)) (Or.inl n1535)) K1553 (ninS n1522 nin0)) K1570 nin0)) K1622 (ninS n1607 nin0)) K1627 (ninS n1607 nin0)) K1751 (ninS n1607 (ninS n1628 nin0))) K1757 (ninS n1607 (ninS n1628 nin0)))) K1788 (ninS n1773 nin0))
      have F1799 := (Fld.keep (Fld.ext E1761 (Fld.keep (Fld.keep (Fld.keep (Fld.keep (Fld.ext E1598 (Fld.keep (Fld.keep (Fld.other W1546 (Fld.other W1543 (Fld.ext E1529 (Fld.ext E1518 (Fld.keep Fv1498 K1505 nin0))) (Or.inl n1535)) (Or.inl n1535)) K1553 (ninS n1522 nin0)) K1570 nin0)) K1622 (ninS n1607 nin0)) K1627 (ninS n1607 nin0)) K1751 (ninS n1607 (ninS n1628 nin0))) K1757 (ninS n1607 (ninS n1628 nin0)))) K1788 (ninS n1773 nin0))
      have F1800 := (Arv.keep (Arv.ext F1769 E1761) K1788 (ninS n1780 nin0))
      refine cVirt X1796 hx hZ hown (by rw [hml]; rfl) e1796 (hwi hw 136 rfl) (hwi hw 137 rfl) (hwi hw 139 rfl) (hwi hw 138 rfl) (hwi hw 2 rfl) (hwi hw 140 rfl) (notFace_of_selects (args := #[]) (mvT hZ (hwi hw 139 rfl))) a1477 F1791 [] [] rfl (rm_length hw a1477 b1498 k1498 (3 : Int32) _ _ O1790 cz SCS hcz F1798 F1791 F1799 F1800) (hb hby at_260) rfl (lenOf pd_33 rfl) (by decide) (by decide) (Nat.le_of_ble_eq_true rfl) (by decide) (by decide) ?_
      rintro v1801 T1801 h1801 L1801 X1801 e1801 ⟨rfl, N1801, rfl⟩
      have N1801a := Fr.app N1796a N1801
      show Ends p e below _ T1801 (mkF m 263 #[iv i0, iv i1, iv ch387, iv ch388, iv ch389, iv ch390, iv (3 : Int32), iv (3 : Int32), rv a1477, rv a1505, rv a1518, rv a1570, rv a1598, rv a1761, rv a1477] [(.int (3 : Int32))])
      refine go (fun _ => XS.iload X1801.here hx rfl (hb hby at_263) rfl) ?_
      show Ends p e below _ T1801 (mkF m 265 #[iv i0, iv i1, iv ch387, iv ch388, iv ch389, iv ch390, iv (3 : Int32), iv (3 : Int32), rv a1477, rv a1505, rv a1518, rv a1570, rv a1598, rv a1761, rv a1477] [(.int (3 : Int32)), (.int (3 : Int32))])
      refine go (fun _ => XS.icmpYes X1801.here hx rfl (pc0 := 265) (pc' := 270) rfl (hb hby at_265) rfl (XT.ii_eq_t ((by decide) : (3 : Int32) = (3 : Int32))) (by decide) (by decide)) ?_
      show Ends p e below _ T1801 (mkF m 270 #[iv i0, iv i1, iv ch387, iv ch388, iv ch389, iv ch390, iv (3 : Int32), iv (3 : Int32), rv a1477, rv a1505, rv a1518, rv a1570, rv a1598, rv a1761, rv a1477] [])
      refine go (fun _ => XS.iload X1801.here hx rfl (hb hby at_270) rfl) ?_
      refine go (fun _ => XT.iconstV X1801.here hx rfl (1 : Int32) (hb hby at_272) (by decide)) ?_
      show Ends p e below _ T1801 (mkF m 273 #[iv i0, iv i1, iv ch387, iv ch388, iv ch389, iv ch390, iv (3 : Int32), iv (3 : Int32), rv a1477, rv a1505, rv a1518, rv a1570, rv a1598, rv a1761, rv a1477] [(.int (1 : Int32)), (.int (3 : Int32))])
      refine go (fun _ => XS.icmpNo X1801.here hx rfl (hb hby at_273) rfl (XT.ii_lt_f ((by decide) : ¬ ((3 : Int32) < (1 : Int32))))) ?_
      show Ends p e below _ T1801 (mkF m 276 #[iv i0, iv i1, iv ch387, iv ch388, iv ch389, iv ch390, iv (3 : Int32), iv (3 : Int32), rv a1477, rv a1505, rv a1518, rv a1570, rv a1598, rv a1761, rv a1477] [])
      refine go (fun _ => XS.aload X1801.here hx rfl (hb hby at_276) rfl rfl) ?_
      refine go (fun _ => XT.iconstV X1801.here hx rfl (0 : Int32) (hb hby at_278) (by decide)) ?_
      show Ends p e below _ T1801 (mkF m 279 #[iv i0, iv i1, iv ch387, iv ch388, iv ch389, iv ch390, iv (3 : Int32), iv (3 : Int32), rv a1477, rv a1505, rv a1518, rv a1570, rv a1598, rv a1761, rv a1477] [(.int (0 : Int32)), (.ref a1477)])
      refine cVirt X1801 hx hZ hown (by rw [hml]; rfl) e1801 (hwi hw 146 rfl) (hwi hw 147 rfl) (hwi hw 149 rfl) (hwi hw 148 rfl) (hwi hw 2 rfl) (hwi hw 150 rfl) (notFace_of_selects (args := #[]) (mvT hZ (hwi hw 149 rfl))) a1477 F1791 [(.int (0 : Int32))] [] rfl (rm_sc_0_3 hw a1477 b1498 k1498 ch387 ch388 ch389 wS _ O1790 cz SCS hcz hsf SS F1798 F1791 F1799 F1800 lc387 gc387) (hb hby at_279) rfl (lenOf pd_34 rfl) (by decide) (by decide) (Nat.le_of_ble_eq_true rfl) (by decide) (by decide) ?_
      rintro v1802 T1802 h1802 L1802 X1802 e1802 ⟨rfl, N1802, rfl⟩
      have N1802a := Fr.app N1801a N1802
      show Ends p e below _ T1802 (mkF m 282 #[iv i0, iv i1, iv ch387, iv ch388, iv ch389, iv ch390, iv (3 : Int32), iv (3 : Int32), rv a1477, rv a1505, rv a1518, rv a1570, rv a1598, rv a1761, rv a1477] [(.int ch387)])
      refine go (fun _ => XS.iloadN X1802.here hx rfl (hb hby at_282) rfl) ?_
      show Ends p e below _ T1802 (mkF m 283 #[iv i0, iv i1, iv ch387, iv ch388, iv ch389, iv ch390, iv (3 : Int32), iv (3 : Int32), rv a1477, rv a1505, rv a1518, rv a1570, rv a1598, rv a1761, rv a1477] [(.int ch387), (.int ch387)])
      refine go (fun _ => XS.icmpYes X1802.here hx rfl (pc0 := 283) (pc' := 288) rfl (hb hby at_283) rfl (XT.ii_eq_t (rfl : ch387 = ch387)) (by decide) (by decide)) ?_
      show Ends p e below _ T1802 (mkF m 288 #[iv i0, iv i1, iv ch387, iv ch388, iv ch389, iv ch390, iv (3 : Int32), iv (3 : Int32), rv a1477, rv a1505, rv a1518, rv a1570, rv a1598, rv a1761, rv a1477] [])
      refine go (fun _ => XS.iload X1802.here hx rfl (hb hby at_288) rfl) ?_
      refine go (fun _ => XT.iconstV X1802.here hx rfl (2 : Int32) (hb hby at_290) (by decide)) ?_
      show Ends p e below _ T1802 (mkF m 291 #[iv i0, iv i1, iv ch387, iv ch388, iv ch389, iv ch390, iv (3 : Int32), iv (3 : Int32), rv a1477, rv a1505, rv a1518, rv a1570, rv a1598, rv a1761, rv a1477] [(.int (2 : Int32)), (.int (3 : Int32))])
      refine go (fun _ => XS.icmpNo X1802.here hx rfl (hb hby at_291) rfl (XT.ii_lt_f ((by decide) : ¬ ((3 : Int32) < (2 : Int32))))) ?_
      show Ends p e below _ T1802 (mkF m 294 #[iv i0, iv i1, iv ch387, iv ch388, iv ch389, iv ch390, iv (3 : Int32), iv (3 : Int32), rv a1477, rv a1505, rv a1518, rv a1570, rv a1598, rv a1761, rv a1477] [])
      refine go (fun _ => XS.aload X1802.here hx rfl (hb hby at_294) rfl rfl) ?_
      refine go (fun _ => XT.iconstV X1802.here hx rfl (1 : Int32) (hb hby at_296) (by decide)) ?_
      show Ends p e below _ T1802 (mkF m 297 #[iv i0, iv i1, iv ch387, iv ch388, iv ch389, iv ch390, iv (3 : Int32), iv (3 : Int32), rv a1477, rv a1505, rv a1518, rv a1570, rv a1598, rv a1761, rv a1477] [(.int (1 : Int32)), (.ref a1477)])
      refine cVirt X1802 hx hZ hown (by rw [hml]; rfl) e1802 (hwi hw 146 rfl) (hwi hw 147 rfl) (hwi hw 149 rfl) (hwi hw 148 rfl) (hwi hw 2 rfl) (hwi hw 150 rfl) (notFace_of_selects (args := #[]) (mvT hZ (hwi hw 149 rfl))) a1477 F1791 [(.int (1 : Int32))] [] rfl (rm_sc_1_3 hw a1477 b1498 k1498 ch387 ch388 ch389 wS _ O1790 cz SCS hcz hsf SS F1798 F1791 F1799 F1800 lc388 gc388) (hb hby at_297) rfl (lenOf pd_34 rfl) (by decide) (by decide) (Nat.le_of_ble_eq_true rfl) (by decide) (by decide) ?_
      rintro v1803 T1803 h1803 L1803 X1803 e1803 ⟨rfl, N1803, rfl⟩
      have N1803a := Fr.app N1802a N1803
      show Ends p e below _ T1803 (mkF m 300 #[iv i0, iv i1, iv ch387, iv ch388, iv ch389, iv ch390, iv (3 : Int32), iv (3 : Int32), rv a1477, rv a1505, rv a1518, rv a1570, rv a1598, rv a1761, rv a1477] [(.int ch388)])
      refine go (fun _ => XS.iloadN X1803.here hx rfl (hb hby at_300) rfl) ?_
      show Ends p e below _ T1803 (mkF m 301 #[iv i0, iv i1, iv ch387, iv ch388, iv ch389, iv ch390, iv (3 : Int32), iv (3 : Int32), rv a1477, rv a1505, rv a1518, rv a1570, rv a1598, rv a1761, rv a1477] [(.int ch388), (.int ch388)])
      refine go (fun _ => XS.icmpYes X1803.here hx rfl (pc0 := 301) (pc' := 306) rfl (hb hby at_301) rfl (XT.ii_eq_t (rfl : ch388 = ch388)) (by decide) (by decide)) ?_
      show Ends p e below _ T1803 (mkF m 306 #[iv i0, iv i1, iv ch387, iv ch388, iv ch389, iv ch390, iv (3 : Int32), iv (3 : Int32), rv a1477, rv a1505, rv a1518, rv a1570, rv a1598, rv a1761, rv a1477] [])
      refine go (fun _ => XS.iload X1803.here hx rfl (hb hby at_306) rfl) ?_
      refine go (fun _ => XT.iconstV X1803.here hx rfl (3 : Int32) (hb hby at_308) (by decide)) ?_
      show Ends p e below _ T1803 (mkF m 309 #[iv i0, iv i1, iv ch387, iv ch388, iv ch389, iv ch390, iv (3 : Int32), iv (3 : Int32), rv a1477, rv a1505, rv a1518, rv a1570, rv a1598, rv a1761, rv a1477] [(.int (3 : Int32)), (.int (3 : Int32))])
      refine go (fun _ => XS.icmpNo X1803.here hx rfl (hb hby at_309) rfl (XT.ii_lt_f ((by decide) : ¬ ((3 : Int32) < (3 : Int32))))) ?_
      show Ends p e below _ T1803 (mkF m 312 #[iv i0, iv i1, iv ch387, iv ch388, iv ch389, iv ch390, iv (3 : Int32), iv (3 : Int32), rv a1477, rv a1505, rv a1518, rv a1570, rv a1598, rv a1761, rv a1477] [])
      refine go (fun _ => XS.aload X1803.here hx rfl (hb hby at_312) rfl rfl) ?_
      refine go (fun _ => XT.iconstV X1803.here hx rfl (2 : Int32) (hb hby at_314) (by decide)) ?_
      show Ends p e below _ T1803 (mkF m 315 #[iv i0, iv i1, iv ch387, iv ch388, iv ch389, iv ch390, iv (3 : Int32), iv (3 : Int32), rv a1477, rv a1505, rv a1518, rv a1570, rv a1598, rv a1761, rv a1477] [(.int (2 : Int32)), (.ref a1477)])
      refine cVirt X1803 hx hZ hown (by rw [hml]; rfl) e1803 (hwi hw 146 rfl) (hwi hw 147 rfl) (hwi hw 149 rfl) (hwi hw 148 rfl) (hwi hw 2 rfl) (hwi hw 150 rfl) (notFace_of_selects (args := #[]) (mvT hZ (hwi hw 149 rfl))) a1477 F1791 [(.int (2 : Int32))] [] rfl (rm_sc_2_3 hw a1477 b1498 k1498 ch387 ch388 ch389 wS _ O1790 cz SCS hcz hsf SS F1798 F1791 F1799 F1800 lc389 gc389) (hb hby at_315) rfl (lenOf pd_34 rfl) (by decide) (by decide) (Nat.le_of_ble_eq_true rfl) (by decide) (by decide) ?_
      rintro v1804 T1804 h1804 L1804 X1804 e1804 ⟨rfl, N1804, rfl⟩
      have N1804a := Fr.app N1803a N1804
      show Ends p e below _ T1804 (mkF m 318 #[iv i0, iv i1, iv ch387, iv ch388, iv ch389, iv ch390, iv (3 : Int32), iv (3 : Int32), rv a1477, rv a1505, rv a1518, rv a1570, rv a1598, rv a1761, rv a1477] [(.int ch389)])
      refine go (fun _ => XS.iload X1804.here hx rfl (hb hby at_318) rfl) ?_
      show Ends p e below _ T1804 (mkF m 320 #[iv i0, iv i1, iv ch387, iv ch388, iv ch389, iv ch390, iv (3 : Int32), iv (3 : Int32), rv a1477, rv a1505, rv a1518, rv a1570, rv a1598, rv a1761, rv a1477] [(.int ch389), (.int ch389)])
      refine go (fun _ => XS.icmpYes X1804.here hx rfl (pc0 := 320) (pc' := 325) rfl (hb hby at_320) rfl (XT.ii_eq_t (rfl : ch389 = ch389)) (by decide) (by decide)) ?_
      show Ends p e below _ T1804 (mkF m 325 #[iv i0, iv i1, iv ch387, iv ch388, iv ch389, iv ch390, iv (3 : Int32), iv (3 : Int32), rv a1477, rv a1505, rv a1518, rv a1570, rv a1598, rv a1761, rv a1477] [])
      refine go (fun _ => XS.aload X1804.here hx rfl (hb hby at_325) rfl rfl) ?_
      show Ends p e below _ T1804 (mkF m 327 #[iv i0, iv i1, iv ch387, iv ch388, iv ch389, iv ch390, iv (3 : Int32), iv (3 : Int32), rv a1477, rv a1505, rv a1518, rv a1570, rv a1598, rv a1761, rv a1477] [(.ref a1598)])
      refine cVirt X1804 hx hZ hown (by rw [hml]; rfl) e1804 (hwi hw 164 rfl) (hwi hw 165 rfl) (hwi hw 167 rfl) (hwi hw 166 rfl) (hwi hw 46 rfl) (hwi hw 168 rfl) (notFace_of_selects (args := #[]) (mvT hZ (hwi hw 167 rfl))) a1598 F1792 [] [] rfl (rm_size hw a1598 (3 : Int32) _ F1794) (hb hby at_327) rfl (lenOf pd_33 rfl) (by decide) (by decide) (Nat.le_of_ble_eq_true rfl) (by decide) (by decide) ?_
      rintro v1805 T1805 h1805 L1805 X1805 e1805 ⟨rfl, N1805, rfl⟩
      have N1805a := Fr.app N1804a N1805
      show Ends p e below _ T1805 (mkF m 330 #[iv i0, iv i1, iv ch387, iv ch388, iv ch389, iv ch390, iv (3 : Int32), iv (3 : Int32), rv a1477, rv a1505, rv a1518, rv a1570, rv a1598, rv a1761, rv a1477] [(.int (3 : Int32))])
      refine go (fun _ => XS.iload X1805.here hx rfl (hb hby at_330) rfl) ?_
      show Ends p e below _ T1805 (mkF m 332 #[iv i0, iv i1, iv ch387, iv ch388, iv ch389, iv ch390, iv (3 : Int32), iv (3 : Int32), rv a1477, rv a1505, rv a1518, rv a1570, rv a1598, rv a1761, rv a1477] [(.int (3 : Int32)), (.int (3 : Int32))])
      refine go (fun _ => XS.icmpNo X1805.here hx rfl (hb hby at_332) rfl (XT.ii_ne_f ((by decide) : (3 : Int32) = (3 : Int32)))) ?_
      show Ends p e below _ T1805 (mkF m 335 #[iv i0, iv i1, iv ch387, iv ch388, iv ch389, iv ch390, iv (3 : Int32), iv (3 : Int32), rv a1477, rv a1505, rv a1518, rv a1570, rv a1598, rv a1761, rv a1477] [])
      refine go (fun _ => XT.iconstV X1805.here hx rfl (1 : Int32) (hb hby at_335) (by decide)) ?_
      refine go (fun _ => XS.goto X1805.here hx rfl (pc0 := 336) (pc' := 340) rfl (hb hby at_336) (by decide) (by decide)) ?_
      show Ends p e below _ T1805 (mkF m 340 #[iv i0, iv i1, iv ch387, iv ch388, iv ch389, iv ch390, iv (3 : Int32), iv (3 : Int32), rv a1477, rv a1505, rv a1518, rv a1570, rv a1598, rv a1761, rv a1477] [(.int (1 : Int32))])
      exact endN X1805 hx hret (by simp) (hb hby at_340) (lvW X1805 hlk hZ (own_EW hw) hs0 hS hk H1789 e1805 (fun h => by rw [hret] at h; cases h) ⟨rfl, N1805a⟩ (by decide) (by decide))
    · rw [q1652]
      show Ends p e below _ T1627 (mkF m 193 #[iv i0, iv i1, iv ch387, iv ch388, iv ch389, iv ch390, iv (3 : Int32), iv (4 : Int32), rv a1477, rv a1505, rv a1518, rv a1570, rv a1598, .unset, .unset] [])
      refine go (fun _ => XS.iload X1627.here hx rfl (hb hby at_193) rfl) ?_
      refine go (fun _ => XT.iconstV X1627.here hx rfl (1 : Int32) (hb hby at_195) (by decide)) ?_
      show Ends p e below _ T1627 (mkF m 196 #[iv i0, iv i1, iv ch387, iv ch388, iv ch389, iv ch390, iv (3 : Int32), iv (4 : Int32), rv a1477, rv a1505, rv a1518, rv a1570, rv a1598, .unset, .unset] [(.int (1 : Int32)), (.int (4 : Int32))])
      refine go (fun _ => XS.icmpNo X1627.here hx rfl (hb hby at_196) rfl (XT.ii_le_f ((by decide) : (1 : Int32) < (4 : Int32)))) ?_
      show Ends p e below _ T1627 (mkF m 199 #[iv i0, iv i1, iv ch387, iv ch388, iv ch389, iv ch390, iv (3 : Int32), iv (4 : Int32), rv a1477, rv a1505, rv a1518, rv a1570, rv a1598, .unset, .unset] [])
      refine go (fun _ => XS.aload X1627.here hx rfl (hb hby at_199) rfl rfl) ?_
      refine go (fun _ => XS.aload X1627.here hx rfl (hb hby at_201) rfl rfl) ?_
      show Ends p e below _ T1627 (mkF m 203 #[iv i0, iv i1, iv ch387, iv ch388, iv ch389, iv ch390, iv (3 : Int32), iv (4 : Int32), rv a1477, rv a1505, rv a1518, rv a1570, rv a1598, .unset, .unset] [(.ref a1505), (.ref a1598)])
      have F1806 := (Exa.keep F1625 K1627)
      have F1807 := (Exa.keep F1631 K1627)
      refine cVirt X1627 hx hZ hown (by rw [hml]; rfl) e1627 (hwi hw 68 rfl) (hwi hw 69 rfl) (hwi hw 71 rfl) (hwi hw 70 rfl) (hwi hw 46 rfl) (hwi hw 72 rfl) (notFace_of_selects (args := #[]) (mvT hZ (hwi hw 71 rfl))) a1598 F1806 [(.ref a1505)] [] rfl (rm_add_1 hw a1598 a1505 b1627 k1627 (1 : Int32) a1477 _ O1651 f1598 F1806 F11627 F21627 F31627 f1648 n1639 O1627 V1627 F1807 (Ne.symm n1609) (Ne.symm n1632)) (hb hby at_203) rfl (lenOf pd_30 rfl) (by decide) (by decide) (Nat.le_of_ble_eq_true rfl) (by decide) (by decide) ?_
      rintro v1808 T1808 h1808 L1808 X1808 e1808 ⟨rfl, N1808, K1808, F11808, F21808, F31808, V1808⟩
      have N1808a := Fr.app N1627a N1808
      have F1810 := (Safe.keep K1627 sf1649 H1623.1 F1650)
      have sf1809 : ∀ x ∈ [a1598, b1627], Safe Z own_EL s.vm h1627 x := (sfS F1810 (sfS (Safe.arv hZ.alike V1627 (by decide)) sf0))
      have C1809 : CHr Z own_EL s.vm h1627 s.vm h1808 := CHr.keep K1808 sf1809 H1649.1
      have hk := Nat.le_trans hk C1809.2.1
      have H1809 := H1649.trans C1809
      have O1811 : Ext Z.heap h1808 := xk O1651 K1808 (allS f1598 (allS f1648 all0))
      show Ends p e below _ T1808 (mkF m 206 #[iv i0, iv i1, iv ch387, iv ch388, iv ch389, iv ch390, iv (3 : Int32), iv (4 : Int32), rv a1477, rv a1505, rv a1518, rv a1570, rv a1598, .unset, .unset] [(.int (1 : Int32))])
      refine go (fun _ => XT.pop X1808.here hx rfl (hb hby at_206) rfl rfl) ?_
      refine go (fun _ => XS.iload X1808.here hx rfl (hb hby at_207) rfl) ?_
      refine go (fun _ => XT.iconstV X1808.here hx rfl (2 : Int32) (hb hby at_209) (by decide)) ?_
      show Ends p e below _ T1808 (mkF m 210 #[iv i0, iv i1, iv ch387, iv ch388, iv ch389, iv ch390, iv (3 : Int32), iv (4 : Int32), rv a1477, rv a1505, rv a1518, rv a1570, rv a1598, .unset, .unset] [(.int (2 : Int32)), (.int (4 : Int32))])
      refine go (fun _ => XS.icmpNo X1808.here hx rfl (hb hby at_210) rfl (XT.ii_le_f ((by decide) : (2 : Int32) < (4 : Int32)))) ?_
      show Ends p e below _ T1808 (mkF m 213 #[iv i0, iv i1, iv ch387, iv ch388, iv ch389, iv ch390, iv (3 : Int32), iv (4 : Int32), rv a1477, rv a1505, rv a1518, rv a1570, rv a1598, .unset, .unset] [])
      refine go (fun _ => XS.aload X1808.here hx rfl (hb hby at_213) rfl rfl) ?_
      refine go (fun _ => XS.aload X1808.here hx rfl (hb hby at_215) rfl rfl) ?_
      show Ends p e below _ T1808 (mkF m 217 #[iv i0, iv i1, iv ch387, iv ch388, iv ch389, iv ch390, iv (3 : Int32), iv (4 : Int32), rv a1477, rv a1505, rv a1518, rv a1570, rv a1598, .unset, .unset] [(.ref a1518), (.ref a1598)])
      have F1812 := (Exa.keep F1806 K1808)
      have F1813 := (Exa.keep (Exa.keep F1633 K1627) K1808)
      refine cVirt X1808 hx hZ hown (by rw [hml]; rfl) e1808 (hwi hw 68 rfl) (hwi hw 69 rfl) (hwi hw 71 rfl) (hwi hw 70 rfl) (hwi hw 46 rfl) (hwi hw 72 rfl) (notFace_of_selects (args := #[]) (mvT hZ (hwi hw 71 rfl))) a1598 F1812 [(.ref a1518)] [] rfl (rm_add_2 hw a1598 a1518 b1627 k1627 (2 : Int32) a1477 a1505 _ O1811 f1598 F1812 F11808 F21808 F31808 f1648 n1639 O1627 V1808 F1813 (Ne.symm n1610) (Ne.symm n1634)) (hb hby at_217) rfl (lenOf pd_30 rfl) (by decide) (by decide) (Nat.le_of_ble_eq_true rfl) (by decide) (by decide) ?_
      rintro v1814 T1814 h1814 L1814 X1814 e1814 ⟨rfl, N1814, K1814, F11814, F21814, F31814, V1814⟩
      have N1814a := Fr.app N1808a N1814
      have F1816 := (Safe.keep K1808 sf1809 H1649.1 F1810)
      have sf1815 : ∀ x ∈ [a1598, b1627], Safe Z own_EL s.vm h1808 x := (sfS F1816 (sfS (Safe.arv hZ.alike V1808 (by decide)) sf0))
      have C1815 : CHr Z own_EL s.vm h1808 s.vm h1814 := CHr.keep K1814 sf1815 H1809.1
      have hk := Nat.le_trans hk C1815.2.1
      have H1815 := H1809.trans C1815
      have O1817 : Ext Z.heap h1814 := xk O1811 K1814 (allS f1598 (allS f1648 all0))
      show Ends p e below _ T1814 (mkF m 220 #[iv i0, iv i1, iv ch387, iv ch388, iv ch389, iv ch390, iv (3 : Int32), iv (4 : Int32), rv a1477, rv a1505, rv a1518, rv a1570, rv a1598, .unset, .unset] [(.int (1 : Int32))])
      refine go (fun _ => XT.pop X1814.here hx rfl (hb hby at_220) rfl rfl) ?_
      refine go (fun _ => XS.iload X1814.here hx rfl (hb hby at_221) rfl) ?_
      refine go (fun _ => XT.iconstV X1814.here hx rfl (3 : Int32) (hb hby at_223) (by decide)) ?_
      show Ends p e below _ T1814 (mkF m 224 #[iv i0, iv i1, iv ch387, iv ch388, iv ch389, iv ch390, iv (3 : Int32), iv (4 : Int32), rv a1477, rv a1505, rv a1518, rv a1570, rv a1598, .unset, .unset] [(.int (3 : Int32)), (.int (4 : Int32))])
      refine go (fun _ => XS.icmpNo X1814.here hx rfl (hb hby at_224) rfl (XT.ii_le_f ((by decide) : (3 : Int32) < (4 : Int32)))) ?_
      show Ends p e below _ T1814 (mkF m 227 #[iv i0, iv i1, iv ch387, iv ch388, iv ch389, iv ch390, iv (3 : Int32), iv (4 : Int32), rv a1477, rv a1505, rv a1518, rv a1570, rv a1598, .unset, .unset] [])
      refine go (fun _ => XS.aload X1814.here hx rfl (hb hby at_227) rfl rfl) ?_
      refine go (fun _ => XS.aload X1814.here hx rfl (hb hby at_229) rfl rfl) ?_
      show Ends p e below _ T1814 (mkF m 231 #[iv i0, iv i1, iv ch387, iv ch388, iv ch389, iv ch390, iv (3 : Int32), iv (4 : Int32), rv a1477, rv a1505, rv a1518, rv a1570, rv a1598, .unset, .unset] [(.ref a1570), (.ref a1598)])
      have F1818 := (Exa.keep F1812 K1814)
      have F1819 := (Exa.keep (Exa.keep (Exa.keep F1637 K1627) K1808) K1814)
      refine cVirt X1814 hx hZ hown (by rw [hml]; rfl) e1814 (hwi hw 68 rfl) (hwi hw 69 rfl) (hwi hw 71 rfl) (hwi hw 70 rfl) (hwi hw 46 rfl) (hwi hw 72 rfl) (notFace_of_selects (args := #[]) (mvT hZ (hwi hw 71 rfl))) a1598 F1818 [(.ref a1570)] [] rfl (rm_add_3 hw a1598 a1570 b1627 k1627 (3 : Int32) a1477 a1505 a1518 _ O1817 f1598 F1818 F11814 F21814 F31814 f1648 n1639 O1627 V1814 F1819 (Ne.symm n1612) (Ne.symm n1638)) (hb hby at_231) rfl (lenOf pd_30 rfl) (by decide) (by decide) (Nat.le_of_ble_eq_true rfl) (by decide) (by decide) ?_
      rintro v1820 T1820 h1820 L1820 X1820 e1820 ⟨rfl, N1820, K1820, F11820, F21820, F31820, V1820⟩
      have N1820a := Fr.app N1814a N1820
      have F1822 := (Safe.keep K1814 sf1815 H1809.1 F1816)
      have sf1821 : ∀ x ∈ [a1598, b1627], Safe Z own_EL s.vm h1814 x := (sfS F1822 (sfS (Safe.arv hZ.alike V1814 (by decide)) sf0))
      have C1821 : CHr Z own_EL s.vm h1814 s.vm h1820 := CHr.keep K1820 sf1821 H1815.1
      have hk := Nat.le_trans hk C1821.2.1
      have H1821 := H1815.trans C1821
      have O1823 : Ext Z.heap h1820 := xk O1817 K1820 (allS f1598 (allS f1648 all0))
      show Ends p e below _ T1820 (mkF m 234 #[iv i0, iv i1, iv ch387, iv ch388, iv ch389, iv ch390, iv (3 : Int32), iv (4 : Int32), rv a1477, rv a1505, rv a1518, rv a1570, rv a1598, .unset, .unset] [(.int (1 : Int32))])
      refine go (fun _ => XT.pop X1820.here hx rfl (hb hby at_234) rfl rfl) ?_
      show Ends p e below _ T1820 (mkF m 235 #[iv i0, iv i1, iv ch387, iv ch388, iv ch389, iv ch390, iv (3 : Int32), iv (4 : Int32), rv a1477, rv a1505, rv a1518, rv a1570, rv a1598, .unset, .unset] [])
      obtain ⟨T1824, h1824, X1824, e1824, E1824, A1824, D1824, U1824, s1824⟩ := newO X1820 hx hZ hown (hwi hw 99 rfl) (hwi hw 100 rfl) (hwi hw 101 rfl) e1820 (g := (mkF m 235 #[iv i0, iv i1, iv ch387, iv ch388, iv ch389, iv ch390, iv (3 : Int32), iv (4 : Int32), rv a1477, rv a1505, rv a1518, rv a1570, rv a1598, .unset, .unset] [])) rfl (hb hby at_235) (by decide) (by decide)
      have F1825 := (Exa.keep (Exa.keep (Exa.keep (Exa.keep F1626 K1627) K1808) K1814) K1820)
      have F1826 := (Arv.keep (Arv.keep (Arv.keep (Arv.keep F1629 K1627 (ninS n1608 nin0)) K1808 (ninS n1608 (ninS n1630 nin0))) K1814 (ninS n1608 (ninS n1630 nin0))) K1820 (ninS n1608 (ninS n1630 nin0)))
      have F1827 := (Exa.keep (Exa.keep (Exa.keep F1807 K1808) K1814) K1820)
      have F1828 := (Exa.keep (Exa.keep F1813 K1814) K1820)
      have F1829 := (Arv.keep (Arv.keep (Arv.keep (Arv.keep F1635 K1627 (ninS n1611 nin0)) K1808 (ninS n1611 (ninS n1636 nin0))) K1814 (ninS n1611 (ninS n1636 nin0))) K1820 (ninS n1611 (ninS n1636 nin0)))
      have F1830 := (Exa.keep F1819 K1820)
      have F1831 := (Exa.keep F1818 K1820)
      have F1832 := (Arv.keep (Arv.keep (Arv.keep (Arv.keep F1640 K1627 (ninS n1613 nin0)) K1808 (ninS n1613 (ninS n1641 nin0))) K1814 (ninS n1613 (ninS n1641 nin0))) K1820 (ninS n1613 (ninS n1641 nin0)))
      have F1833 := (Arv.keep (Arv.keep (Arv.keep (Arv.keep F1642 K1627 (ninS n1614 nin0)) K1808 (ninS n1614 (ninS n1643 nin0))) K1814 (ninS n1614 (ninS n1643 nin0))) K1820 (ninS n1614 (ninS n1643 nin0)))
      have F1834 := (Arv.keep (Arv.keep (Arv.keep (Arv.keep F1644 K1627 (ninS n1615 nin0)) K1808 (ninS n1615 (ninS n1645 nin0))) K1814 (ninS n1615 (ninS n1645 nin0))) K1820 (ninS n1615 (ninS n1645 nin0)))
      have F1835 := (Arv.keep (Arv.keep (Arv.keep (Arv.keep F1646 K1627 (ninS n1616 nin0)) K1808 (ninS n1616 (ninS n1647 nin0))) K1814 (ninS n1616 (ninS n1647 nin0))) K1820 (ninS n1616 (ninS n1647 nin0)))
      obtain ⟨a1824, g1824⟩ : ∃ z : Addr, z = h1820.size := ⟨_, rfl⟩
      have n1836 : a1477 ≠ a1824 := fun q => absurd (F1825.lt) (by rw [q, g1824]; exact Nat.lt_irrefl _)
      have n1837 : a1480 ≠ a1824 := fun q => absurd (F1826.lt) (by rw [q, g1824]; exact Nat.lt_irrefl _)
      have n1838 : a1505 ≠ a1824 := fun q => absurd (F1827.lt) (by rw [q, g1824]; exact Nat.lt_irrefl _)
      have n1839 : a1518 ≠ a1824 := fun q => absurd (F1828.lt) (by rw [q, g1824]; exact Nat.lt_irrefl _)
      have n1840 : a1529 ≠ a1824 := fun q => absurd (F1829.lt) (by rw [q, g1824]; exact Nat.lt_irrefl _)
      have n1841 : a1570 ≠ a1824 := fun q => absurd (F1830.lt) (by rw [q, g1824]; exact Nat.lt_irrefl _)
      have n1842 : a1598 ≠ a1824 := fun q => absurd (F1831.lt) (by rw [q, g1824]; exact Nat.lt_irrefl _)
      have n1843 : b1498 ≠ a1824 := fun q => absurd (F1832.lt) (by rw [q, g1824]; exact Nat.lt_irrefl _)
      have n1844 : b1505 ≠ a1824 := fun q => absurd (F1833.lt) (by rw [q, g1824]; exact Nat.lt_irrefl _)
      have n1845 : b1553 ≠ a1824 := fun q => absurd (F1834.lt) (by rw [q, g1824]; exact Nat.lt_irrefl _)
      have n1846 : b1570 ≠ a1824 := fun q => absurd (F1835.lt) (by rw [q, g1824]; exact Nat.lt_irrefl _)
      have n1847 : b1627 ≠ a1824 := fun q => absurd (V1820.lt) (by rw [q, g1824]; exact Nat.lt_irrefl _)
      have f1824 : Z.heap.size ≤ a1824 := by rw [g1824]; exact (O1823).1
      rw [← g1824] at A1824 D1824 U1824 s1824
      have C1848 : CHr Z own_EL s.vm h1820 s.vm h1824 := CHr.ext E1824 H1821.1
      have hk := Nat.le_trans hk C1848.2.1
      have H1848 := H1821.trans C1848
      have O1849 : Ext Z.heap h1824 := xx O1823 E1824
      have SF1824 : Safe Z own_EL s.vm h1824 a1824 := Safe.ext E1824 H1821.1 (Safe.new (by rw [g1824]; exact Nat.le_refl _))
      refine go s1824 ?_
      show Ends p e below _ T1824 (mkF m 238 #[iv i0, iv i1, iv ch387, iv ch388, iv ch389, iv ch390, iv (3 : Int32), iv (4 : Int32), rv a1477, rv a1505, rv a1518, rv a1570, rv a1598, .unset, .unset] [(.ref a1824)])
      refine go (fun _ => XS.dup X1824.here hx rfl (hb hby at_238) rfl rfl) ?_
      refine go (fun _ => XS.aload X1824.here hx rfl (hb hby at_239) rfl rfl) ?_
      show Ends p e below _ T1824 (mkF m 241 #[iv i0, iv i1, iv ch387, iv ch388, iv ch389, iv ch390, iv (3 : Int32), iv (4 : Int32), rv a1477, rv a1505, rv a1518, rv a1570, rv a1598, .unset, .unset] [(.ref a1598), (.ref a1824), (.ref a1824)])
      have F1850 := (D1824 (Or.inr (hwi hw 107 rfl)) (ty := (.object "java/util/List")) (by decide))
      refine cInit X1824 hx hZ hown (by rw [hml]; rfl) e1824 (hwi hw 102 rfl) (hwi hw 103 rfl) (hwi hw 101 rfl) (hwi hw 104 rfl) a1824 [(.ref a1598)] [(.ref a1824)] rfl (rm_pg hw a1824 a1598 _ O1849 f1824 A1824 F1850  ) (hb hby at_241) rfl (lenOf pd_31 rfl) rfl (by decide) (by decide) (Nat.le_of_ble_eq_true rfl) (by decide) (by decide) ?_
      rintro v1851 T1851 h1851 L1851 X1851 e1851 ⟨rfl, N1851, K1851, F1851_0⟩
      have N1851a := Fr.app N1820a N1851
      have sf1852 : ∀ x ∈ [a1824], Safe Z own_EL s.vm h1824 x := (sfS SF1824 sf0)
      have C1852 : CHr Z own_EL s.vm h1824 s.vm h1851 := CHr.keep K1851 sf1852 H1848.1
      have hk := Nat.le_trans hk C1852.2.1
      have H1852 := H1848.trans C1852
      have O1853 : Ext Z.heap h1851 := xk O1849 K1851 (allS f1824 all0)
      show Ends p e below _ T1851 (mkF m 244 #[iv i0, iv i1, iv ch387, iv ch388, iv ch389, iv ch390, iv (3 : Int32), iv (4 : Int32), rv a1477, rv a1505, rv a1518, rv a1570, rv a1598, .unset, .unset] [(.ref a1824)])
      refine go (fun _ => XS.astore X1851.here hx rfl (hb hby at_244) rfl rfl (l' := #[iv i0, iv i1, iv ch387, iv ch388, iv ch389, iv ch390, iv (3 : Int32), iv (4 : Int32), rv a1477, rv a1505, rv a1518, rv a1570, rv a1598, rv a1824, .unset]) rfl) ?_
      refine go (fun _ => XS.aload X1851.here hx rfl (hb hby at_246) rfl rfl) ?_
      show Ends p e below _ T1851 (mkF m 248 #[iv i0, iv i1, iv ch387, iv ch388, iv ch389, iv ch390, iv (3 : Int32), iv (4 : Int32), rv a1477, rv a1505, rv a1518, rv a1570, rv a1598, rv a1824, .unset] [(.ref a1824)])
      have F1854 := (Exa.keep (Exa.ext E1824 F1825) K1851)
      have F1855 := (Exa.keep (Exa.ext E1824 F1831) K1851)
      have F1856 := (Fld.keep (Fld.ext E1824 F21820) K1851 (ninS n1842 nin0))
      have F1857 := (Fld.keep (Fld.ext E1824 F31820) K1851 (ninS n1842 nin0))
      have F1858 := (Arv.keep (Arv.ext V1820 E1824) K1851 (ninS n1847 nin0))
      have F1860 := (Exa.keep A1824 K1851)
      refine cVirt X1851 hx hZ hown (by rw [hml]; rfl) e1851 (hwi hw 108 rfl) (hwi hw 109 rfl) (hwi hw 111 rfl) (hwi hw 110 rfl) (hwi hw 101 rfl) (hwi hw 112 rfl) (notFace_of_selects (args := #[]) (mvT hZ (hwi hw 111 rfl))) a1824 F1860 [] [] rfl (rm_name hw a1824 a1598 b1627 a1477 k1627 (4 : Int32) _ _ F1851_0 F1854 F1855 F1856 F1857 F1858 (by decide)) (hb hby at_248) rfl (lenOf pd_32 rfl) (by decide) (by decide) (Nat.le_of_ble_eq_true rfl) (by decide) (by decide) ?_
      rintro v1859 T1859 h1859 L1859 X1859 e1859 ⟨rfl, N1859, rfl⟩
      have N1859a := Fr.app N1851a N1859
      show Ends p e below _ T1859 (mkF m 251 #[iv i0, iv i1, iv ch387, iv ch388, iv ch389, iv ch390, iv (3 : Int32), iv (4 : Int32), rv a1477, rv a1505, rv a1518, rv a1570, rv a1598, rv a1824, .unset] [(.ref a1477)])
      refine go (fun _ => XS.astore X1859.here hx rfl (hb hby at_251) rfl rfl (l' := #[iv i0, iv i1, iv ch387, iv ch388, iv ch389, iv ch390, iv (3 : Int32), iv (4 : Int32), rv a1477, rv a1505, rv a1518, rv a1570, rv a1598, rv a1824, rv a1477]) rfl) ?_
      refine go (fun _ => XS.aload X1859.here hx rfl (hb hby at_253) rfl rfl) ?_
      show Ends p e below _ T1859 (mkF m 255 #[iv i0, iv i1, iv ch387, iv ch388, iv ch389, iv ch390, iv (3 : Int32), iv (4 : Int32), rv a1477, rv a1505, rv a1518, rv a1570, rv a1598, rv a1824, rv a1477] [(.ref a1477)])
      refine go (fun _ => XS.ifnullNo X1859.here hx rfl (hb hby at_255) rfl) ?_
      show Ends p e below _ T1859 (mkF m 258 #[iv i0, iv i1, iv ch387, iv ch388, iv ch389, iv ch390, iv (3 : Int32), iv (4 : Int32), rv a1477, rv a1505, rv a1518, rv a1570, rv a1598, rv a1824, rv a1477] [])
      refine go (fun _ => XS.aload X1859.here hx rfl (hb hby at_258) rfl rfl) ?_
      show Ends p e below _ T1859 (mkF m 260 #[iv i0, iv i1, iv ch387, iv ch388, iv ch389, iv ch390, iv (3 : Int32), iv (4 : Int32), rv a1477, rv a1505, rv a1518, rv a1570, rv a1598, rv a1824, rv a1477] [(.ref a1477)])
      have F1861 := (Fld.keep (Fld.ext E1824 (Fld.keep (Fld.keep (Fld.keep (Fld.keep (Fld.keep (Fld.ext E1598 (Fld.keep (Fld.keep (Fld.other W1546 (Fld.other W1543 (Fld.ext E1529 (Fld.ext E1518 (Fld.keep Fc1498 K1505 nin0))) (Or.inl n1535)) (Or.inl n1535)) K1553 (ninS n1522 nin0)) K1570 nin0)) K1622 (ninS n1607 nin0)) K1627 (ninS n1607 nin0)) K1808 (ninS n1607 (ninS n1628 nin0))) K1814 (ninS n1607 (ninS n1628 nin0))) K1820 (ninS n1607 (ninS n1628 nin0)))) K1851 (ninS n1836 nin0))
      have F1862 := (Fld.keep (Fld.ext E1824 (Fld.keep (Fld.keep (Fld.keep (Fld.keep (Fld.keep (Fld.ext E1598 (Fld.keep (Fld.keep (Fld.other W1546 (Fld.other W1543 (Fld.ext E1529 (Fld.ext E1518 (Fld.keep Fv1498 K1505 nin0))) (Or.inl n1535)) (Or.inl n1535)) K1553 (ninS n1522 nin0)) K1570 nin0)) K1622 (ninS n1607 nin0)) K1627 (ninS n1607 nin0)) K1808 (ninS n1607 (ninS n1628 nin0))) K1814 (ninS n1607 (ninS n1628 nin0))) K1820 (ninS n1607 (ninS n1628 nin0)))) K1851 (ninS n1836 nin0))
      have F1863 := (Arv.keep (Arv.ext F1832 E1824) K1851 (ninS n1843 nin0))
      refine cVirt X1859 hx hZ hown (by rw [hml]; rfl) e1859 (hwi hw 136 rfl) (hwi hw 137 rfl) (hwi hw 139 rfl) (hwi hw 138 rfl) (hwi hw 2 rfl) (hwi hw 140 rfl) (notFace_of_selects (args := #[]) (mvT hZ (hwi hw 139 rfl))) a1477 F1854 [] [] rfl (rm_length hw a1477 b1498 k1498 (3 : Int32) _ _ O1853 cz SCS hcz F1861 F1854 F1862 F1863) (hb hby at_260) rfl (lenOf pd_33 rfl) (by decide) (by decide) (Nat.le_of_ble_eq_true rfl) (by decide) (by decide) ?_
      rintro v1864 T1864 h1864 L1864 X1864 e1864 ⟨rfl, N1864, rfl⟩
      have N1864a := Fr.app N1859a N1864
      show Ends p e below _ T1864 (mkF m 263 #[iv i0, iv i1, iv ch387, iv ch388, iv ch389, iv ch390, iv (3 : Int32), iv (4 : Int32), rv a1477, rv a1505, rv a1518, rv a1570, rv a1598, rv a1824, rv a1477] [(.int (3 : Int32))])
      refine go (fun _ => XS.iload X1864.here hx rfl (hb hby at_263) rfl) ?_
      show Ends p e below _ T1864 (mkF m 265 #[iv i0, iv i1, iv ch387, iv ch388, iv ch389, iv ch390, iv (3 : Int32), iv (4 : Int32), rv a1477, rv a1505, rv a1518, rv a1570, rv a1598, rv a1824, rv a1477] [(.int (3 : Int32)), (.int (3 : Int32))])
      refine go (fun _ => XS.icmpYes X1864.here hx rfl (pc0 := 265) (pc' := 270) rfl (hb hby at_265) rfl (XT.ii_eq_t ((by decide) : (3 : Int32) = (3 : Int32))) (by decide) (by decide)) ?_
      show Ends p e below _ T1864 (mkF m 270 #[iv i0, iv i1, iv ch387, iv ch388, iv ch389, iv ch390, iv (3 : Int32), iv (4 : Int32), rv a1477, rv a1505, rv a1518, rv a1570, rv a1598, rv a1824, rv a1477] [])
      refine go (fun _ => XS.iload X1864.here hx rfl (hb hby at_270) rfl) ?_
      refine go (fun _ => XT.iconstV X1864.here hx rfl (1 : Int32) (hb hby at_272) (by decide)) ?_
      show Ends p e below _ T1864 (mkF m 273 #[iv i0, iv i1, iv ch387, iv ch388, iv ch389, iv ch390, iv (3 : Int32), iv (4 : Int32), rv a1477, rv a1505, rv a1518, rv a1570, rv a1598, rv a1824, rv a1477] [(.int (1 : Int32)), (.int (3 : Int32))])
      refine go (fun _ => XS.icmpNo X1864.here hx rfl (hb hby at_273) rfl (XT.ii_lt_f ((by decide) : ¬ ((3 : Int32) < (1 : Int32))))) ?_
      show Ends p e below _ T1864 (mkF m 276 #[iv i0, iv i1, iv ch387, iv ch388, iv ch389, iv ch390, iv (3 : Int32), iv (4 : Int32), rv a1477, rv a1505, rv a1518, rv a1570, rv a1598, rv a1824, rv a1477] [])
      refine go (fun _ => XS.aload X1864.here hx rfl (hb hby at_276) rfl rfl) ?_
      refine go (fun _ => XT.iconstV X1864.here hx rfl (0 : Int32) (hb hby at_278) (by decide)) ?_
      show Ends p e below _ T1864 (mkF m 279 #[iv i0, iv i1, iv ch387, iv ch388, iv ch389, iv ch390, iv (3 : Int32), iv (4 : Int32), rv a1477, rv a1505, rv a1518, rv a1570, rv a1598, rv a1824, rv a1477] [(.int (0 : Int32)), (.ref a1477)])
      refine cVirt X1864 hx hZ hown (by rw [hml]; rfl) e1864 (hwi hw 146 rfl) (hwi hw 147 rfl) (hwi hw 149 rfl) (hwi hw 148 rfl) (hwi hw 2 rfl) (hwi hw 150 rfl) (notFace_of_selects (args := #[]) (mvT hZ (hwi hw 149 rfl))) a1477 F1854 [(.int (0 : Int32))] [] rfl (rm_sc_0_3 hw a1477 b1498 k1498 ch387 ch388 ch389 wS _ O1853 cz SCS hcz hsf SS F1861 F1854 F1862 F1863 lc387 gc387) (hb hby at_279) rfl (lenOf pd_34 rfl) (by decide) (by decide) (Nat.le_of_ble_eq_true rfl) (by decide) (by decide) ?_
      rintro v1865 T1865 h1865 L1865 X1865 e1865 ⟨rfl, N1865, rfl⟩
      have N1865a := Fr.app N1864a N1865
      show Ends p e below _ T1865 (mkF m 282 #[iv i0, iv i1, iv ch387, iv ch388, iv ch389, iv ch390, iv (3 : Int32), iv (4 : Int32), rv a1477, rv a1505, rv a1518, rv a1570, rv a1598, rv a1824, rv a1477] [(.int ch387)])
      refine go (fun _ => XS.iloadN X1865.here hx rfl (hb hby at_282) rfl) ?_
      show Ends p e below _ T1865 (mkF m 283 #[iv i0, iv i1, iv ch387, iv ch388, iv ch389, iv ch390, iv (3 : Int32), iv (4 : Int32), rv a1477, rv a1505, rv a1518, rv a1570, rv a1598, rv a1824, rv a1477] [(.int ch387), (.int ch387)])
      refine go (fun _ => XS.icmpYes X1865.here hx rfl (pc0 := 283) (pc' := 288) rfl (hb hby at_283) rfl (XT.ii_eq_t (rfl : ch387 = ch387)) (by decide) (by decide)) ?_
      show Ends p e below _ T1865 (mkF m 288 #[iv i0, iv i1, iv ch387, iv ch388, iv ch389, iv ch390, iv (3 : Int32), iv (4 : Int32), rv a1477, rv a1505, rv a1518, rv a1570, rv a1598, rv a1824, rv a1477] [])
      refine go (fun _ => XS.iload X1865.here hx rfl (hb hby at_288) rfl) ?_
      refine go (fun _ => XT.iconstV X1865.here hx rfl (2 : Int32) (hb hby at_290) (by decide)) ?_
      show Ends p e below _ T1865 (mkF m 291 #[iv i0, iv i1, iv ch387, iv ch388, iv ch389, iv ch390, iv (3 : Int32), iv (4 : Int32), rv a1477, rv a1505, rv a1518, rv a1570, rv a1598, rv a1824, rv a1477] [(.int (2 : Int32)), (.int (3 : Int32))])
      refine go (fun _ => XS.icmpNo X1865.here hx rfl (hb hby at_291) rfl (XT.ii_lt_f ((by decide) : ¬ ((3 : Int32) < (2 : Int32))))) ?_
      show Ends p e below _ T1865 (mkF m 294 #[iv i0, iv i1, iv ch387, iv ch388, iv ch389, iv ch390, iv (3 : Int32), iv (4 : Int32), rv a1477, rv a1505, rv a1518, rv a1570, rv a1598, rv a1824, rv a1477] [])
      refine go (fun _ => XS.aload X1865.here hx rfl (hb hby at_294) rfl rfl) ?_
      refine go (fun _ => XT.iconstV X1865.here hx rfl (1 : Int32) (hb hby at_296) (by decide)) ?_
      show Ends p e below _ T1865 (mkF m 297 #[iv i0, iv i1, iv ch387, iv ch388, iv ch389, iv ch390, iv (3 : Int32), iv (4 : Int32), rv a1477, rv a1505, rv a1518, rv a1570, rv a1598, rv a1824, rv a1477] [(.int (1 : Int32)), (.ref a1477)])
      refine cVirt X1865 hx hZ hown (by rw [hml]; rfl) e1865 (hwi hw 146 rfl) (hwi hw 147 rfl) (hwi hw 149 rfl) (hwi hw 148 rfl) (hwi hw 2 rfl) (hwi hw 150 rfl) (notFace_of_selects (args := #[]) (mvT hZ (hwi hw 149 rfl))) a1477 F1854 [(.int (1 : Int32))] [] rfl (rm_sc_1_3 hw a1477 b1498 k1498 ch387 ch388 ch389 wS _ O1853 cz SCS hcz hsf SS F1861 F1854 F1862 F1863 lc388 gc388) (hb hby at_297) rfl (lenOf pd_34 rfl) (by decide) (by decide) (Nat.le_of_ble_eq_true rfl) (by decide) (by decide) ?_
      rintro v1866 T1866 h1866 L1866 X1866 e1866 ⟨rfl, N1866, rfl⟩
      have N1866a := Fr.app N1865a N1866
      show Ends p e below _ T1866 (mkF m 300 #[iv i0, iv i1, iv ch387, iv ch388, iv ch389, iv ch390, iv (3 : Int32), iv (4 : Int32), rv a1477, rv a1505, rv a1518, rv a1570, rv a1598, rv a1824, rv a1477] [(.int ch388)])
      refine go (fun _ => XS.iloadN X1866.here hx rfl (hb hby at_300) rfl) ?_
      show Ends p e below _ T1866 (mkF m 301 #[iv i0, iv i1, iv ch387, iv ch388, iv ch389, iv ch390, iv (3 : Int32), iv (4 : Int32), rv a1477, rv a1505, rv a1518, rv a1570, rv a1598, rv a1824, rv a1477] [(.int ch388), (.int ch388)])
      refine go (fun _ => XS.icmpYes X1866.here hx rfl (pc0 := 301) (pc' := 306) rfl (hb hby at_301) rfl (XT.ii_eq_t (rfl : ch388 = ch388)) (by decide) (by decide)) ?_
      show Ends p e below _ T1866 (mkF m 306 #[iv i0, iv i1, iv ch387, iv ch388, iv ch389, iv ch390, iv (3 : Int32), iv (4 : Int32), rv a1477, rv a1505, rv a1518, rv a1570, rv a1598, rv a1824, rv a1477] [])
      refine go (fun _ => XS.iload X1866.here hx rfl (hb hby at_306) rfl) ?_
      refine go (fun _ => XT.iconstV X1866.here hx rfl (3 : Int32) (hb hby at_308) (by decide)) ?_
      show Ends p e below _ T1866 (mkF m 309 #[iv i0, iv i1, iv ch387, iv ch388, iv ch389, iv ch390, iv (3 : Int32), iv (4 : Int32), rv a1477, rv a1505, rv a1518, rv a1570, rv a1598, rv a1824, rv a1477] [(.int (3 : Int32)), (.int (3 : Int32))])
      refine go (fun _ => XS.icmpNo X1866.here hx rfl (hb hby at_309) rfl (XT.ii_lt_f ((by decide) : ¬ ((3 : Int32) < (3 : Int32))))) ?_
      show Ends p e below _ T1866 (mkF m 312 #[iv i0, iv i1, iv ch387, iv ch388, iv ch389, iv ch390, iv (3 : Int32), iv (4 : Int32), rv a1477, rv a1505, rv a1518, rv a1570, rv a1598, rv a1824, rv a1477] [])
      refine go (fun _ => XS.aload X1866.here hx rfl (hb hby at_312) rfl rfl) ?_
      refine go (fun _ => XT.iconstV X1866.here hx rfl (2 : Int32) (hb hby at_314) (by decide)) ?_
      show Ends p e below _ T1866 (mkF m 315 #[iv i0, iv i1, iv ch387, iv ch388, iv ch389, iv ch390, iv (3 : Int32), iv (4 : Int32), rv a1477, rv a1505, rv a1518, rv a1570, rv a1598, rv a1824, rv a1477] [(.int (2 : Int32)), (.ref a1477)])
      refine cVirt X1866 hx hZ hown (by rw [hml]; rfl) e1866 (hwi hw 146 rfl) (hwi hw 147 rfl) (hwi hw 149 rfl) (hwi hw 148 rfl) (hwi hw 2 rfl) (hwi hw 150 rfl) (notFace_of_selects (args := #[]) (mvT hZ (hwi hw 149 rfl))) a1477 F1854 [(.int (2 : Int32))] [] rfl (rm_sc_2_3 hw a1477 b1498 k1498 ch387 ch388 ch389 wS _ O1853 cz SCS hcz hsf SS F1861 F1854 F1862 F1863 lc389 gc389) (hb hby at_315) rfl (lenOf pd_34 rfl) (by decide) (by decide) (Nat.le_of_ble_eq_true rfl) (by decide) (by decide) ?_
      rintro v1867 T1867 h1867 L1867 X1867 e1867 ⟨rfl, N1867, rfl⟩
      have N1867a := Fr.app N1866a N1867
      show Ends p e below _ T1867 (mkF m 318 #[iv i0, iv i1, iv ch387, iv ch388, iv ch389, iv ch390, iv (3 : Int32), iv (4 : Int32), rv a1477, rv a1505, rv a1518, rv a1570, rv a1598, rv a1824, rv a1477] [(.int ch389)])
      refine go (fun _ => XS.iload X1867.here hx rfl (hb hby at_318) rfl) ?_
      show Ends p e below _ T1867 (mkF m 320 #[iv i0, iv i1, iv ch387, iv ch388, iv ch389, iv ch390, iv (3 : Int32), iv (4 : Int32), rv a1477, rv a1505, rv a1518, rv a1570, rv a1598, rv a1824, rv a1477] [(.int ch389), (.int ch389)])
      refine go (fun _ => XS.icmpYes X1867.here hx rfl (pc0 := 320) (pc' := 325) rfl (hb hby at_320) rfl (XT.ii_eq_t (rfl : ch389 = ch389)) (by decide) (by decide)) ?_
      show Ends p e below _ T1867 (mkF m 325 #[iv i0, iv i1, iv ch387, iv ch388, iv ch389, iv ch390, iv (3 : Int32), iv (4 : Int32), rv a1477, rv a1505, rv a1518, rv a1570, rv a1598, rv a1824, rv a1477] [])
      refine go (fun _ => XS.aload X1867.here hx rfl (hb hby at_325) rfl rfl) ?_
      show Ends p e below _ T1867 (mkF m 327 #[iv i0, iv i1, iv ch387, iv ch388, iv ch389, iv ch390, iv (3 : Int32), iv (4 : Int32), rv a1477, rv a1505, rv a1518, rv a1570, rv a1598, rv a1824, rv a1477] [(.ref a1598)])
      refine cVirt X1867 hx hZ hown (by rw [hml]; rfl) e1867 (hwi hw 164 rfl) (hwi hw 165 rfl) (hwi hw 167 rfl) (hwi hw 166 rfl) (hwi hw 46 rfl) (hwi hw 168 rfl) (notFace_of_selects (args := #[]) (mvT hZ (hwi hw 167 rfl))) a1598 F1855 [] [] rfl (rm_size hw a1598 (4 : Int32) _ F1857) (hb hby at_327) rfl (lenOf pd_33 rfl) (by decide) (by decide) (Nat.le_of_ble_eq_true rfl) (by decide) (by decide) ?_
      rintro v1868 T1868 h1868 L1868 X1868 e1868 ⟨rfl, N1868, rfl⟩
      have N1868a := Fr.app N1867a N1868
      show Ends p e below _ T1868 (mkF m 330 #[iv i0, iv i1, iv ch387, iv ch388, iv ch389, iv ch390, iv (3 : Int32), iv (4 : Int32), rv a1477, rv a1505, rv a1518, rv a1570, rv a1598, rv a1824, rv a1477] [(.int (4 : Int32))])
      refine go (fun _ => XS.iload X1868.here hx rfl (hb hby at_330) rfl) ?_
      show Ends p e below _ T1868 (mkF m 332 #[iv i0, iv i1, iv ch387, iv ch388, iv ch389, iv ch390, iv (3 : Int32), iv (4 : Int32), rv a1477, rv a1505, rv a1518, rv a1570, rv a1598, rv a1824, rv a1477] [(.int (4 : Int32)), (.int (4 : Int32))])
      refine go (fun _ => XS.icmpNo X1868.here hx rfl (hb hby at_332) rfl (XT.ii_ne_f ((by decide) : (4 : Int32) = (4 : Int32)))) ?_
      show Ends p e below _ T1868 (mkF m 335 #[iv i0, iv i1, iv ch387, iv ch388, iv ch389, iv ch390, iv (3 : Int32), iv (4 : Int32), rv a1477, rv a1505, rv a1518, rv a1570, rv a1598, rv a1824, rv a1477] [])
      refine go (fun _ => XT.iconstV X1868.here hx rfl (1 : Int32) (hb hby at_335) (by decide)) ?_
      refine go (fun _ => XS.goto X1868.here hx rfl (pc0 := 336) (pc' := 340) rfl (hb hby at_336) (by decide) (by decide)) ?_
      show Ends p e below _ T1868 (mkF m 340 #[iv i0, iv i1, iv ch387, iv ch388, iv ch389, iv ch390, iv (3 : Int32), iv (4 : Int32), rv a1477, rv a1505, rv a1518, rv a1570, rv a1598, rv a1824, rv a1477] [(.int (1 : Int32))])
      exact endN X1868 hx hret (by simp) (hb hby at_340) (lvW X1868 hlk hZ (own_EW hw) hs0 hS hk H1852 e1868 (fun h => by rw [hret] at h; cases h) ⟨rfl, N1868a⟩ (by decide) (by decide))
set_option maxRecDepth 65536 in
set_option maxHeartbeats 40000000 in
theorem comes_1 {Post : Tables → Env → Array Value → State → Outcome → State → Prop} (hpost : ∀ tb e args s v u, (limb_1_1.after args s (.returned v) u = true ∧ limb_1_2.after args s (.returned v) u = true ∧ True) → ReturnedEndW s (.returned v) u (Jvm.fieldLocs frame_1_writes args s ++ Jvm.arrayLocs frame_1_arrays args s ++ Jvm.staticLocs frame_1_statics s) 40 1216 → Post tb e args s (.returned v) u) :
    ArmFor flags0 classFile x code maxLocals ret World_1 tables_1 room_1 Calls_1 rest_1 Pre_1 Post := by
  intro l hfl _ _ p e ha hc hk s m args below hf hA hF happ hP
  obtain ⟨hcalls, hrest, hpre⟩ := hP
  obtain ⟨-, -, -, hnamed, -, -, -, hat⟩ := (Spec.applies_iff hf).mp happ
  obtain ⟨hg, hn⟩ := and_e (Cond.before_iff.mp (show (Jvm.Cond.and given_1 narrow_1).before args s = true from hpre))
  obtain ⟨gv0, gvtr⟩ := and_e hg
  obtain ⟨gv1, gv2⟩ := and_e gvtr
  obtain ⟨w0, w1, rfl⟩ : ∃ w0 w1 : Value, args = #[w0, w1] := by
    have hs : args.size = 2 := by simpa [Cond.value, given_1] using gv0
    obtain ⟨L⟩ := args
    match L, hs with
    | [w0, w1], _ => exact ⟨w0, w1, rfl⟩
  have hw := fun d (hd : d ∈ tables_1) => atoms_spec (ws := Jvm.Cond.code x code maxLocals ret :: tables_1) hat d (List.mem_cons_of_mem _ hd)
  have hfit : Fit s := fun {y c} hc i hi => by
    obtain ⟨ha, rfl⟩ := Array.getElem?_eq_some_iff.mp hc
    have q := List.all_eq_true.mp ((Array.all_eq_true_iff_forall_mem.mp hF) _ (Array.getElem_mem ha)) i (List.mem_range.mpr hi)
    simpa [Array.getElem?_eq_getElem hi] using q
  obtain ⟨hsets, hown0⟩ := atoms_of _ (rest_1_c_eq ▸ (show rest_1_c.before _ s = true from hrest))
  obtain ⟨i0, ei0⟩ := is_v gv1
  obtain rfl : w0 = (.int i0) := Option.some.inj ei0
  obtain ⟨i1, ei1⟩ := is_v gv2
  obtain rfl : w1 = (.int i1) := Option.some.inj ei1
  obtain ⟨cz, evz⟩ := is_v (Cond.before_iff.mp (hsets _ (List.mem_of_getElem? (i := 1) rfl)))
  have SCS := Sta.start evz (Or.inl (hsets _ (List.mem_of_getElem? (i := 0) rfl)))
  have hcz : ¬ cz = (0 : Int32) := gotF (Cond.eq_ints evz (Term.int_eval (0 : Int32))) (not_v (Cond.before_iff.mp (hsets _ (List.mem_of_getElem? (i := 2) rfl))))
  have hcw : Jvm.Lit.compactW.before _ s = true := hsets _ (List.mem_of_getElem? (i := 2) rfl)
  have wD1 := Cond.before_iff.mp (hsets _ (List.mem_of_getElem? (i := 15) rfl))
  obtain ⟨aD, evD⟩ := arr_v wD1
  have SD := Sta.start evD (Or.inr ⟨(hwi hw 46 rfl), (hsets _ (List.mem_of_getElem? (i := 11) rfl))⟩)
  obtain ⟨cD, AD⟩ := Arr.start evD wD1
  have lD := own_len evD AD (eqv_i (Term.int_eval (0 : Int32)) (Cond.before_iff.mp (hsets _ (List.mem_of_getElem? (i := 17) rfl))))
  have VD : Arv s s.heap aD cD.cls (.object "java/lang/Object") (0 : Int32) [] .null := Arv.start hfit AD lD.1 lD.2 (by decide) rfl trivial
  obtain ⟨wS, evS, hsf⟩ := isR_v (Cond.before_iff.mp (hsets _ (List.mem_of_getElem? (i := 8) rfl)))
  have SS := Sta.start evS (Or.inl (hsets _ (List.mem_of_getElem? (i := 7) rfl)))
  have hCH : CHv s own_EL s.vm s.heap := CHv.start (own_EW hw) (fun q hq => hcalls.1 q hq) hcw (hwi hw 19 rfl) (hwi hw 1 rfl)
  obtain ⟨n, o, h1, h2, h3, _, L, rfl, ⟨rfl, N⟩, -, hq⟩ := (rm_law (l := l) hw i0 i1 aD cD.cls wS s.heap ⟨Nat.le_refl _, fun _ _ q => q⟩ cz SCS hcz SD VD hsf SS) tables_1 p e ha hc hk s m _ below hf ((Spec.applies_iff_loose hf).mp happ).1 ⟨rfl, State.Warmed39.refl s, rfl, hCH⟩ trivial
  refine ⟨n, _, h1, h2, h3, hpost _ _ _ _ _ _ ⟨Cond.after_iff.mpr rfl, Cond.after_iff.mpr (eq_i res_at (Term.int_eval (1)) rfl), trivial⟩ ⟨hq.1, hq.2.1, hq.2.2.1, (hq.2.2.2.sift fun y hy => Or.inr (N y hy)).mono (by decide) (by decide)⟩⟩
theorem main_1_1 : Claimed_1_1 := comes_1 fun _ _ _ _ _ _ h hF => ⟨h.1, hF⟩
theorem main_1_2 : Claimed_1_2 := comes_1 fun _ _ _ _ _ _ h hF => ⟨h.2.1, hF⟩
end Jvm.Pilot.@@N@@
namespace Jvm.Pilot.@@N@@
open Jvm Jvm.ClassFile Sem Op Lib Jvm.Free Jvm.Stand Jvm.Pilot.@@N@@.Jvm.D
/-! MADE BY PROGRAM (witnessworld.py) out of the Statement's table words and the real class files: 31 classes; the members and pool entries that the words name. The judged class is class 1, her method 1. -/
namespace start1
open Jvm.ClassFile
def u (s : String) : CpInfo := .utf8 (stringToUtf16 s)
/-- a pool by its gaps: so many unusable entries, then the entry; so many at the end -/
def gap : Nat → List CpInfo → List CpInfo
  | 0, r => r
  | n + 1, r => .unusable :: gap n r
def poolList (es : List (Nat × CpInfo)) (last : Nat) : List CpInfo := es.foldr (fun e r => gap e.1 (e.2 :: r)) (gap last [])
def pool (es : List (Nat × CpInfo)) (last : Nat) : Array CpInfo := ⟨poolList es last⟩
def fileOf (pool : Array CpInfo) (this : Nat) (attrs : Array Attribute := #[]) (ms : Array MethodInfo := #[]) (fl : Nat := 33) (sup : Nat := 0) (ifs : Array Nat := #[]) (fds : Array FieldInfo := #[]) : ClassFile where
  minorVersion := 0
  majorVersion := 65
  constantPool := pool
  accessFlags := fl
  thisClass := this
  superClass := sup
  interfaces := ifs
  fields := fds
  methods := ms
  attributes := attrs
def plain (name : String) (sup : Option ClassId) : Class where
  name := name
  kind := .ordinary
  loader := none
  accessFlags := 33
  super := sup
  interfaces := #[]
  cf := none
  fields := #[]
  methods := #[]
  instanceTypes := #[]
  staticTypes := #[]
  resolved := #[]
  callSites := []
  init := .initialized
  statics := none
  mirror := none

def pool0 : Array CpInfo := pool [(5, u "<init>"), (0, u "()V"), (1, .class_ 10), (1, u "java/lang/Object")] 113

def k0c0 : Code := { maxStack := 0, maxLocals := 1, code := object_method_1_code, exceptionTable := #[], attributes := #[] }
def k0m0 : Method := { name := "<init>", desc := "()V", sig := { parameters := [], returnType := none }, accessFlags := 1, code := some k0c0 }
/-- java/lang/Object -/
def k0 : Class := { plain "java/lang/Object" none with
  accessFlags := 33
  interfaces := #[]
  cf := some (fileOf pool0 8 #[] #[{ accessFlags := 1, nameIndex := 5, descriptorIndex := 6, attributes := #[] }] 33 0 #[] #[])
  fields := #[]
  methods := #[k0m0]
  instanceTypes := #[]
  staticTypes := #[]
  resolved := Array.replicate 124 none
  statics := none }

def pool1 : Array CpInfo := pool [(2, .class_ 4), (0, .nameAndType 5 6), (0, u "java/lang/Object"), (0, u "<init>"), (0, u "()V"), (0, .class_ 8), (0, u "java/lang/String"), (0, .methodref 7 10), (0, .nameAndType 5 11), (0, u "([C)V"), (0, .methodref 7 13), (0, .nameAndType 14 15), (0, u "valueOf"), (0, u "(C)Ljava/lang/String;"), (0, .class_ 17), (0, u "java/util/ArrayList"), (0, .methodref 16 3), (0, .methodref 16 20), (0, .nameAndType 21 22), (0, u "add"), (0, u "(Ljava/lang/Object;)Z"), (0, .class_ 24), (0, u "com/example/admit/admit/command/Program"), (0, .methodref 23 26), (0, .nameAndType 5 27), (0, u "(Ljava/util/List;)V"), (0, .methodref 23 29), (0, .nameAndType 30 31), (0, u "name"), (0, u "()Ljava/lang/String;"), (0, .methodref 7 33), (0, .nameAndType 34 35), (0, u "length"), (0, u "()I"), (0, .methodref 7 37), (0, .nameAndType 38 39), (0, u "charAt"), (0, u "(I)C"), (0, .methodref 16 41), (0, .nameAndType 42 35), (0, u "size"), (0, .class_ 44), (0, u "com/example/admit/admit/command/ProgramNamePinLaw"), (2, u "law"), (0, u "(II)Z")] 3

def k1m0 : Method := { name := "<init>", desc := "()V", sig := { parameters := [], returnType := none }, accessFlags := 2, code := none }
def k1c1 : Code := { maxStack := 6, maxLocals := 15, code := code, exceptionTable := #[], attributes := #[] }
def k1m1 : Method := { name := "law", desc := "(II)Z", sig := { parameters := [.int, .int], returnType := some .boolean }, accessFlags := 9, code := some k1c1 }
/-- com/example/admit/admit/command/ProgramNamePinLaw -/
def k1 : Class := { plain "com/example/admit/admit/command/ProgramNamePinLaw" (some 0) with
  accessFlags := 49
  interfaces := #[]
  cf := some (fileOf pool1 43 #[] #[{ accessFlags := 2, nameIndex := 5, descriptorIndex := 6, attributes := #[] }, { accessFlags := 9, nameIndex := 47, descriptorIndex := 48, attributes := #[] }] 49 2 #[] #[])
  fields := #[]
  methods := #[k1m0, k1m1]
  instanceTypes := #[]
  staticTypes := #[]
  resolved := Array.replicate 52 none
  statics := none }

def pool2 : Array CpInfo := pool [(1, .class_ 2), (0, u "java/io/Serializable"), (0, .class_ 4), (0, u "java/lang/Object")] 2

/-- java/io/Serializable -/
def k2 : Class := { plain "java/io/Serializable" (some 0) with
  accessFlags := 1537
  interfaces := #[]
  cf := some (fileOf pool2 1 #[] #[] 1537 3 #[] #[])
  fields := #[]
  methods := #[]
  instanceTypes := #[]
  staticTypes := #[]
  resolved := Array.replicate 7 none
  statics := none }

def pool3 : Array CpInfo := pool [(1, .class_ 2), (0, u "java/lang/Comparable"), (0, .class_ 4), (0, u "java/lang/Object")] 7

/-- java/lang/Comparable -/
def k3 : Class := { plain "java/lang/Comparable" (some 0) with
  accessFlags := 1537
  interfaces := #[]
  cf := some (fileOf pool3 1 #[] #[] 1537 3 #[] #[])
  fields := #[]
  methods := #[]
  instanceTypes := #[]
  staticTypes := #[]
  resolved := Array.replicate 12 none
  statics := none }

def pool4 : Array CpInfo := pool [(2, .class_ 4), (1, u "java/lang/CharSequence"), (42, .class_ 48), (0, u "java/lang/CharSequence$1CodePointIterator"), (10, .class_ 60), (0, u "java/lang/CharSequence$1CharIterator"), (5, .class_ 67), (0, u "java/lang/Object")] 63

/-- java/lang/CharSequence -/
def k4 : Class := { plain "java/lang/CharSequence" (some 0) with
  accessFlags := 1537
  interfaces := #[]
  cf := some (fileOf pool4 2 #[.nestMembers #[47, 59]] #[] 1537 66 #[] #[])
  fields := #[]
  methods := #[]
  instanceTypes := #[]
  staticTypes := #[]
  resolved := Array.replicate 131 none
  statics := none }

def pool5 : Array CpInfo := pool [(1, .class_ 2), (0, u "java/lang/constant/Constable"), (0, .class_ 4), (0, u "java/lang/Object")] 6

/-- java/lang/constant/Constable -/
def k5 : Class := { plain "java/lang/constant/Constable" (some 0) with
  accessFlags := 1537
  interfaces := #[]
  cf := some (fileOf pool5 1 #[] #[] 1537 3 #[] #[])
  fields := #[]
  methods := #[]
  instanceTypes := #[]
  staticTypes := #[]
  resolved := Array.replicate 11 none
  statics := none }

def pool6 : Array CpInfo := pool [(1, .class_ 2), (0, u "java/lang/constant/ConstantDesc"), (0, .class_ 4), (0, u "java/lang/Object")] 32

/-- java/lang/constant/ConstantDesc -/
def k6 : Class := { plain "java/lang/constant/ConstantDesc" (some 0) with
  accessFlags := 1537
  interfaces := #[]
  cf := some (fileOf pool6 1 #[] #[] 1537 3 #[] #[])
  fields := #[]
  methods := #[]
  instanceTypes := #[]
  staticTypes := #[]
  resolved := Array.replicate 37 none
  statics := none }

def pool7 : Array CpInfo := pool [(1, .methodref 2 3), (0, .class_ 4), (0, .nameAndType 5 6), (0, u "java/lang/Object"), (0, u "<init>"), (0, u "()V"), (0, .string 8), (0, u ""), (0, .fieldref 10 11), (0, .class_ 12), (0, .nameAndType 13 14), (0, u "java/lang/String"), (0, u "value"), (0, u "[B"), (0, .fieldref 10 16), (0, .nameAndType 17 18), (0, u "coder"), (0, u "B"), (2, u "hash"), (0, u "I"), (2, u "hashIsZero"), (0, u "Z"), (0, .methodref 10 28), (0, .nameAndType 5 29), (0, u "([CIILjava/lang/Void;)V"), (8, .fieldref 10 39), (0, .nameAndType 40 26), (0, u "COMPACT_STRINGS"), (1, .class_ 44), (1, u "java/lang/StringUTF16"), (0, u "compress"), (1, .methodref 42 48), (0, .nameAndType 49 50), (0, u "coderFromArrayLen"), (0, u "([BI)B"), (2, u "toBytes"), (53, .class_ 109), (1, u "java/lang/StringLatin1"), (32, u "()Z"), (34, .methodref 42 178), (0, .nameAndType 45 179), (0, u "([CII)[B"), (29, .methodref 10 210), (0, .nameAndType 5 211), (0, u "([BB)V"), (122, u "()I"), (0, .methodref 10 336), (0, .nameAndType 17 337), (0, u "()B"), (25, u "([BI)C"), (5, u "(C)Z"), (21, u "(II)V"), (35, u "(I)C"), (64, .methodref 10 493), (0, .nameAndType 494 142), (0, u "isLatin1"), (0, .methodref 107 496), (0, .nameAndType 497 363), (0, u "charAt"), (3, u "checkIndex"), (5, u "length"), (67, .class_ 576), (0, u "java/lang/CharSequence"), (22, u "CASE_INSENSITIVE_ORDER"), (0, u "Ljava/util/Comparator;"), (181, u "valueOf"), (0, u "(C)Ljava/lang/String;"), (226, u "([C)V"), (4, .methodref 107 1016), (0, .nameAndType 1017 369), (0, u "canEncode"), (0, .methodref 107 1019), (0, .nameAndType 53 1020), (0, u "(C)[B"), (32, .fieldref 1054 1055), (0, .class_ 1056), (0, .nameAndType 1057 1058), (0, u "jdk/internal/util/Preconditions"), (0, u "SIOOBE_FORMATTER"), (0, u "Ljava/util/function/BiFunction;"), (0, .methodref 1054 1060), (0, .nameAndType 501 1061), (0, u "(IILjava/util/function/BiFunction;)I"), (39, u "serialPersistentFields"), (0, u "[Ljava/io/ObjectStreamField;"), (0, .class_ 1104), (0, u "java/lang/String$CaseInsensitiveComparator"), (1, .class_ 1107), (0, u "java/io/Serializable"), (0, .class_ 1109), (0, u "java/lang/Comparable"), (0, .class_ 1111), (0, u "java/lang/constant/Constable"), (0, .class_ 1113), (0, u "java/lang/constant/ConstantDesc"), (2, u "serialVersionUID"), (0, u "J"), (3, u "REPL"), (0, u "C"), (2, u "LATIN1"), (1, u "UTF16")] 323

def k7m0 : Method := { name := "<init>", desc := "()V", sig := { parameters := [], returnType := none }, accessFlags := 1, code := none }
def k7c1 : Code := { maxStack := 5, maxLocals := 2, code := jdk_42_method_3_code, exceptionTable := #[], attributes := #[] }
def k7m1 : Method := { name := "<init>", desc := "([C)V", sig := { parameters := [(.array .char)], returnType := none }, accessFlags := 1, code := some k7c1 }
def k7c2 : Code := { maxStack := 2, maxLocals := 1, code := jdk_42_method_54_code, exceptionTable := #[], attributes := #[] }
def k7m2 : Method := { name := "length", desc := "()I", sig := { parameters := [], returnType := some .int }, accessFlags := 1, code := some k7c2 }
def k7c3 : Code := { maxStack := 2, maxLocals := 2, code := jdk_42_method_56_code, exceptionTable := #[], attributes := #[] }
def k7m3 : Method := { name := "charAt", desc := "(I)C", sig := { parameters := [.int], returnType := some .char }, accessFlags := 1, code := some k7c3 }
def k7c4 : Code := { maxStack := 4, maxLocals := 1, code := jdk_42_method_139_code, exceptionTable := #[], attributes := #[] }
def k7m4 : Method := { name := "valueOf", desc := "(C)Ljava/lang/String;", sig := { parameters := [.char], returnType := some (.object "java/lang/String") }, accessFlags := 9, code := some k7c4 }
def k7c5 : Code := { maxStack := 4, maxLocals := 6, code := jdk_42_method_149_code, exceptionTable := #[], attributes := #[] }
def k7m5 : Method := { name := "<init>", desc := "([CIILjava/lang/Void;)V", sig := { parameters := [(.array .char), .int, .int, (.object "java/lang/Void")], returnType := none }, accessFlags := 2, code := some k7c5 }
def k7c6 : Code := { maxStack := 2, maxLocals := 3, code := jdk_42_method_151_code, exceptionTable := #[], attributes := #[] }
def k7m6 : Method := { name := "<init>", desc := "([BB)V", sig := { parameters := [(.array .byte), .byte], returnType := none }, accessFlags := 0, code := some k7c6 }
def k7c7 : Code := { maxStack := 1, maxLocals := 1, code := jdk_42_method_152_code, exceptionTable := #[], attributes := #[] }
def k7m7 : Method := { name := "coder", desc := "()B", sig := { parameters := [], returnType := some .byte }, accessFlags := 0, code := some k7c7 }
def k7c8 : Code := { maxStack := 1, maxLocals := 1, code := jdk_42_method_154_code, exceptionTable := #[], attributes := #[] }
def k7m8 : Method := { name := "isLatin1", desc := "()Z", sig := { parameters := [], returnType := some .boolean }, accessFlags := 0, code := some k7c8 }
def k7c9 : Code := { maxStack := 3, maxLocals := 2, code := jdk_42_method_155_code, exceptionTable := #[], attributes := #[] }
def k7m9 : Method := { name := "checkIndex", desc := "(II)V", sig := { parameters := [.int, .int], returnType := none }, accessFlags := 8, code := some k7c9 }
/-- java/lang/String -/
def k7 : Class := { plain "java/lang/String" (some 0) with
  accessFlags := 49
  interfaces := #[2, 3, 4, 5, 6]
  cf := some (fileOf pool7 10 #[.nestMembers #[1103]] #[{ accessFlags := 1, nameIndex := 5, descriptorIndex := 6, attributes := #[] }, { accessFlags := 1, nameIndex := 5, descriptorIndex := 1010, attributes := #[] }, { accessFlags := 1, nameIndex := 507, descriptorIndex := 334, attributes := #[] }, { accessFlags := 1, nameIndex := 497, descriptorIndex := 427, attributes := #[] }, { accessFlags := 9, nameIndex := 782, descriptorIndex := 783, attributes := #[] }, { accessFlags := 2, nameIndex := 5, descriptorIndex := 29, attributes := #[] }, { accessFlags := 0, nameIndex := 5, descriptorIndex := 211, attributes := #[] }, { accessFlags := 0, nameIndex := 17, descriptorIndex := 337, attributes := #[] }, { accessFlags := 0, nameIndex := 494, descriptorIndex := 142, attributes := #[] }, { accessFlags := 8, nameIndex := 501, descriptorIndex := 391, attributes := #[] }] 49 2 #[1106, 1108, 575, 1110, 1112] #[{ accessFlags := 18, nameIndex := 13, descriptorIndex := 14, attributes := #[] }, { accessFlags := 18, nameIndex := 17, descriptorIndex := 18, attributes := #[] }, { accessFlags := 2, nameIndex := 21, descriptorIndex := 22, attributes := #[] }, { accessFlags := 2, nameIndex := 25, descriptorIndex := 26, attributes := #[] }, { accessFlags := 26, nameIndex := 1116, descriptorIndex := 1117, attributes := #[] }, { accessFlags := 24, nameIndex := 40, descriptorIndex := 26, attributes := #[] }, { accessFlags := 26, nameIndex := 1101, descriptorIndex := 1102, attributes := #[] }, { accessFlags := 26, nameIndex := 1121, descriptorIndex := 1122, attributes := #[] }, { accessFlags := 25, nameIndex := 599, descriptorIndex := 600, attributes := #[] }, { accessFlags := 24, nameIndex := 1125, descriptorIndex := 18, attributes := #[] }, { accessFlags := 24, nameIndex := 1127, descriptorIndex := 18, attributes := #[] }])
  fields := #[{ name := "value", type := (.array .byte), accessFlags := 18, slot := 0, constantValue := 0 }, { name := "coder", type := .byte, accessFlags := 18, slot := 1, constantValue := 0 }, { name := "hash", type := .int, accessFlags := 2, slot := 2, constantValue := 0 }, { name := "hashIsZero", type := .boolean, accessFlags := 2, slot := 3, constantValue := 0 }, { name := "serialVersionUID", type := .long, accessFlags := 26, slot := 0, constantValue := 0 }, { name := "COMPACT_STRINGS", type := .boolean, accessFlags := 24, slot := 1, constantValue := 0 }, { name := "serialPersistentFields", type := (.array (.object "java/io/ObjectStreamField")), accessFlags := 26, slot := 2, constantValue := 0 }, { name := "REPL", type := .char, accessFlags := 26, slot := 3, constantValue := 0 }, { name := "CASE_INSENSITIVE_ORDER", type := (.object "java/util/Comparator"), accessFlags := 25, slot := 4, constantValue := 0 }, { name := "LATIN1", type := .byte, accessFlags := 24, slot := 5, constantValue := 0 }, { name := "UTF16", type := .byte, accessFlags := 24, slot := 6, constantValue := 0 }]
  methods := #[k7m0, k7m1, k7m2, k7m3, k7m4, k7m5, k7m6, k7m7, k7m8, k7m9]
  instanceTypes := #[(.array .byte), .byte, .int, .boolean]
  staticTypes := #[.long, .boolean, (.array (.object "java/io/ObjectStreamField")), .char, (.object "java/util/Comparator"), .byte, .byte]
  resolved := Array.replicate 1451 none
  statics := some 0 }

def pool8 : Array CpInfo := pool [(6, .class_ 8), (1, u "java/lang/Object"), (0, u "<init>"), (0, u "()V"), (1, .class_ 14), (1, u "java/lang/StringUTF16"), (31, u "$assertionsDisabled"), (0, u "Z"), (13, u "HI_BYTE_SHIFT"), (0, u "I"), (2, u "LO_BYTE_SHIFT"), (49, .methodref 12 116), (0, .nameAndType 117 118), (0, u "compress"), (0, u "([CI[BII)I"), (3, u "([CII)[B"), (138, u "coderFromArrayLen"), (0, u "([BI)B"), (106, .class_ 371), (1, u "java/lang/StringUTF16$LinesSpliterator"), (58, u "MAX_LENGTH"), (196, .class_ 628), (0, u "java/lang/StringUTF16$CodePointsSpliterator"), (0, .class_ 630), (0, u "java/lang/StringUTF16$CharsSpliterator")] 4

def k8m0 : Method := { name := "<init>", desc := "()V", sig := { parameters := [], returnType := none }, accessFlags := 0, code := none }
def k8c1 : Code := { maxStack := 2, maxLocals := 2, code := jdk_52_method_15_code, exceptionTable := #[], attributes := #[] }
def k8m1 : Method := { name := "coderFromArrayLen", desc := "([BI)B", sig := { parameters := [(.array .byte), .int], returnType := some .byte }, accessFlags := 8, code := some k8c1 }
def k8c2 : Code := { maxStack := 5, maxLocals := 6, code := jdk_52_method_16_code, exceptionTable := #[], attributes := #[] }
def k8m2 : Method := { name := "compress", desc := "([CII)[B", sig := { parameters := [(.array .char), .int, .int], returnType := some (.array .byte) }, accessFlags := 9, code := some k8c2 }
def k8c3 : Code := { maxStack := 3, maxLocals := 7, code := jdk_52_method_21_code, exceptionTable := #[], attributes := #[] }
def k8m3 : Method := { name := "compress", desc := "([CI[BII)I", sig := { parameters := [(.array .char), .int, (.array .byte), .int, .int], returnType := some .int }, accessFlags := 9, code := some k8c3 }
/-- java/lang/StringUTF16 -/
def k8 : Class := { plain "java/lang/StringUTF16" (some 0) with
  accessFlags := 48
  interfaces := #[]
  cf := some (fileOf pool8 12 #[.nestMembers #[627, 629, 369]] #[{ accessFlags := 0, nameIndex := 9, descriptorIndex := 10, attributes := #[] }, { accessFlags := 8, nameIndex := 261, descriptorIndex := 262, attributes := #[] }, { accessFlags := 9, nameIndex := 117, descriptorIndex := 122, attributes := #[] }, { accessFlags := 9, nameIndex := 117, descriptorIndex := 118, attributes := #[] }] 48 6 #[] #[{ accessFlags := 26, nameIndex := 61, descriptorIndex := 62, attributes := #[] }, { accessFlags := 26, nameIndex := 65, descriptorIndex := 62, attributes := #[] }, { accessFlags := 24, nameIndex := 430, descriptorIndex := 62, attributes := #[] }, { accessFlags := 4120, nameIndex := 46, descriptorIndex := 47, attributes := #[] }])
  fields := #[{ name := "HI_BYTE_SHIFT", type := .int, accessFlags := 26, slot := 0, constantValue := 0 }, { name := "LO_BYTE_SHIFT", type := .int, accessFlags := 26, slot := 1, constantValue := 0 }, { name := "MAX_LENGTH", type := .int, accessFlags := 24, slot := 2, constantValue := 0 }, { name := "$assertionsDisabled", type := .boolean, accessFlags := 4120, slot := 3, constantValue := 0 }]
  methods := #[k8m0, k8m1, k8m2, k8m3]
  instanceTypes := #[]
  staticTypes := #[.int, .int, .int, .boolean]
  resolved := Array.replicate 635 none
  statics := none }

def pool9 : Array CpInfo := pool [(1, .class_ 2), (0, u "java/lang/String"), (1, .class_ 6), (1, u "java/lang/Object"), (0, u "<init>"), (0, u "()V"), (0, .methodref 1 10), (0, .nameAndType 11 12), (0, u "checkIndex"), (0, u "(II)V"), (1, .class_ 16), (1, u "java/lang/StringLatin1"), (36, u "([BI)C"), (36, u "canEncode"), (14, u "(C)Z"), (15, u "$assertionsDisabled"), (0, u "Z"), (98, .class_ 223), (1, u "java/lang/StringLatin1$LinesSpliterator"), (28, u "charAt"), (127, u "toBytes"), (1, u "(C)[B"), (7, .class_ 391), (0, u "java/lang/StringLatin1$CharsSpliterator")] 3

def k9m0 : Method := { name := "<init>", desc := "()V", sig := { parameters := [], returnType := none }, accessFlags := 0, code := none }
def k9c1 : Code := { maxStack := 2, maxLocals := 2, code := jdk_43_method_2_code, exceptionTable := #[], attributes := #[] }
def k9m1 : Method := { name := "charAt", desc := "([BI)C", sig := { parameters := [(.array .byte), .int], returnType := some .char }, accessFlags := 9, code := some k9c1 }
def k9c2 : Code := { maxStack := 2, maxLocals := 1, code := jdk_43_method_3_code, exceptionTable := #[], attributes := #[] }
def k9m2 : Method := { name := "canEncode", desc := "(C)Z", sig := { parameters := [.char], returnType := some .boolean }, accessFlags := 9, code := some k9c2 }
def k9c3 : Code := { maxStack := 4, maxLocals := 1, code := jdk_43_method_46_code, exceptionTable := #[], attributes := #[] }
def k9m3 : Method := { name := "toBytes", desc := "(C)[B", sig := { parameters := [.char], returnType := some (.array .byte) }, accessFlags := 9, code := some k9c3 }
/-- java/lang/StringLatin1 -/
def k9 : Class := { plain "java/lang/StringLatin1" (some 0) with
  accessFlags := 48
  interfaces := #[]
  cf := some (fileOf pool9 14 #[.nestMembers #[390, 221]] #[{ accessFlags := 0, nameIndex := 7, descriptorIndex := 8, attributes := #[] }, { accessFlags := 9, nameIndex := 252, descriptorIndex := 53, attributes := #[] }, { accessFlags := 9, nameIndex := 90, descriptorIndex := 105, attributes := #[] }, { accessFlags := 9, nameIndex := 380, descriptorIndex := 382, attributes := #[] }] 48 4 #[] #[{ accessFlags := 4120, nameIndex := 121, descriptorIndex := 122, attributes := #[] }])
  fields := #[{ name := "$assertionsDisabled", type := .boolean, accessFlags := 4120, slot := 0, constantValue := 0 }]
  methods := #[k9m0, k9m1, k9m2, k9m3]
  instanceTypes := #[]
  staticTypes := #[.boolean]
  resolved := Array.replicate 395 none
  statics := none }

def pool10 : Array CpInfo := pool [(8, .class_ 10), (1, u "java/lang/Iterable"), (24, .class_ 36), (0, u "java/lang/Object")] 25

/-- java/lang/Iterable -/
def k10 : Class := { plain "java/lang/Iterable" (some 0) with
  accessFlags := 1537
  interfaces := #[]
  cf := some (fileOf pool10 8 #[] #[] 1537 35 #[] #[])
  fields := #[]
  methods := #[]
  instanceTypes := #[]
  staticTypes := #[]
  resolved := Array.replicate 62 none
  statics := none }

def pool11 : Array CpInfo := pool [(10, .class_ 12), (1, u "java/util/Collection"), (47, .class_ 61), (0, u "java/lang/Object"), (0, .class_ 63), (0, u "java/lang/Iterable")] 51

/-- java/util/Collection -/
def k11 : Class := { plain "java/util/Collection" (some 0) with
  accessFlags := 1537
  interfaces := #[10]
  cf := some (fileOf pool11 10 #[] #[] 1537 60 #[62] #[])
  fields := #[]
  methods := #[]
  instanceTypes := #[]
  staticTypes := #[]
  resolved := Array.replicate 115 none
  statics := none }

def pool12 : Array CpInfo := pool [(1, .methodref 2 3), (0, .class_ 4), (0, .nameAndType 5 6), (0, u "java/lang/Object"), (0, u "<init>"), (0, u "()V"), (1, .class_ 10), (1, u "java/util/AbstractCollection"), (66, .class_ 78), (0, u "java/util/Collection")] 81

def k12c0 : Code := { maxStack := 1, maxLocals := 1, code := jdk_22_method_1_code, exceptionTable := #[], attributes := #[] }
def k12m0 : Method := { name := "<init>", desc := "()V", sig := { parameters := [], returnType := none }, accessFlags := 4, code := some k12c0 }
/-- java/util/AbstractCollection -/
def k12 : Class := { plain "java/util/AbstractCollection" (some 0) with
  accessFlags := 1057
  interfaces := #[11]
  cf := some (fileOf pool12 8 #[] #[{ accessFlags := 4, nameIndex := 5, descriptorIndex := 6, attributes := #[] }] 1057 2 #[77] #[])
  fields := #[]
  methods := #[k12m0]
  instanceTypes := #[]
  staticTypes := #[]
  resolved := Array.replicate 160 none
  statics := none }

def pool13 : Array CpInfo := pool [(8, .class_ 10), (1, u "java/util/SequencedCollection"), (15, .class_ 27), (0, u "java/lang/Object"), (0, .class_ 29), (0, u "java/util/Collection")] 27

/-- java/util/SequencedCollection -/
def k13 : Class := { plain "java/util/SequencedCollection" (some 0) with
  accessFlags := 1537
  interfaces := #[11]
  cf := some (fileOf pool13 8 #[] #[] 1537 26 #[28] #[])
  fields := #[]
  methods := #[]
  instanceTypes := #[]
  staticTypes := #[]
  resolved := Array.replicate 57 none
  statics := none }

def pool14 : Array CpInfo := pool [(8, .class_ 10), (1, u "java/util/List"), (64, u "get"), (0, u "(I)Ljava/lang/Object;"), (26, .class_ 104), (0, u "java/lang/Object"), (15, .class_ 121), (0, u "java/util/SequencedCollection")] 129

def k14m0 : Method := { name := "get", desc := "(I)Ljava/lang/Object;", sig := { parameters := [.int], returnType := some (.object "java/lang/Object") }, accessFlags := 1025, code := none }
/-- java/util/List -/
def k14 : Class := { plain "java/util/List" (some 0) with
  accessFlags := 1537
  interfaces := #[13]
  cf := some (fileOf pool14 8 #[] #[{ accessFlags := 1025, nameIndex := 75, descriptorIndex := 76, attributes := #[] }] 1537 103 #[120] #[])
  fields := #[]
  methods := #[k14m0]
  instanceTypes := #[]
  staticTypes := #[]
  resolved := Array.replicate 251 none
  statics := none }

def pool15 : Array CpInfo := pool [(1, .methodref 2 3), (0, .class_ 4), (0, .nameAndType 5 6), (0, u "java/util/AbstractCollection"), (0, u "<init>"), (0, u "()V"), (0, .fieldref 8 9), (0, .class_ 10), (0, .nameAndType 11 12), (0, u "java/util/AbstractList"), (0, u "modCount"), (0, u "I"), (64, .class_ 78), (0, u "java/util/AbstractList$Itr"), (3, .class_ 83), (0, u "java/util/AbstractList$ListItr"), (9, .class_ 94), (0, u "java/util/AbstractList$RandomAccessSubList"), (3, .class_ 99), (0, u "java/util/AbstractList$SubList"), (33, .class_ 134), (0, u "java/util/List"), (73, .class_ 209), (0, u "java/util/AbstractList$SubList$1"), (0, .class_ 211), (0, u "java/util/AbstractList$RandomAccessSpliterator")] 6

def k15c0 : Code := { maxStack := 2, maxLocals := 1, code := jdk_39_method_1_code, exceptionTable := #[], attributes := #[] }
def k15m0 : Method := { name := "<init>", desc := "()V", sig := { parameters := [], returnType := none }, accessFlags := 4, code := some k15c0 }
/-- java/util/AbstractList -/
def k15 : Class := { plain "java/util/AbstractList" (some 12) with
  accessFlags := 1057
  interfaces := #[14]
  cf := some (fileOf pool15 8 #[.nestMembers #[93, 98, 208, 210, 82, 77]] #[{ accessFlags := 4, nameIndex := 5, descriptorIndex := 6, attributes := #[] }] 1057 2 #[133] #[{ accessFlags := 132, nameIndex := 11, descriptorIndex := 12, attributes := #[] }])
  fields := #[{ name := "modCount", type := .int, accessFlags := 132, slot := 0, constantValue := 0 }]
  methods := #[k15m0]
  instanceTypes := #[.int]
  staticTypes := #[]
  resolved := Array.replicate 218 none
  statics := none }

def pool16 : Array CpInfo := pool [(1, .class_ 2), (0, u "java/util/RandomAccess"), (0, .class_ 4), (0, u "java/lang/Object")] 2

/-- java/util/RandomAccess -/
def k16 : Class := { plain "java/util/RandomAccess" (some 0) with
  accessFlags := 1537
  interfaces := #[]
  cf := some (fileOf pool16 1 #[] #[] 1537 3 #[] #[])
  fields := #[]
  methods := #[]
  instanceTypes := #[]
  staticTypes := #[]
  resolved := Array.replicate 7 none
  statics := none }

def pool17 : Array CpInfo := pool [(1, .class_ 2), (0, u "java/lang/Cloneable"), (0, .class_ 4), (0, u "java/lang/Object")] 2

/-- java/lang/Cloneable -/
def k17 : Class := { plain "java/lang/Cloneable" (some 0) with
  accessFlags := 1537
  interfaces := #[]
  cf := some (fileOf pool17 1 #[] #[] 1537 3 #[] #[])
  fields := #[]
  methods := #[]
  instanceTypes := #[]
  staticTypes := #[]
  resolved := Array.replicate 7 none
  statics := none }

def pool18 : Array CpInfo := pool [(1, .methodref 2 3), (0, .class_ 4), (0, .nameAndType 5 6), (0, u "java/util/AbstractList"), (0, u "<init>"), (0, u "()V"), (0, .class_ 8), (0, u "java/lang/Object"), (0, .fieldref 10 11), (0, .class_ 12), (0, .nameAndType 13 14), (0, u "java/util/ArrayList"), (0, u "elementData"), (0, u "[Ljava/lang/Object;"), (2, u "EMPTY_ELEMENTDATA"), (21, .fieldref 10 40), (0, .nameAndType 41 14), (0, u "DEFAULTCAPACITY_EMPTY_ELEMENTDATA"), (5, u "()[Ljava/lang/Object;"), (0, .fieldref 10 49), (0, .nameAndType 50 51), (0, u "size"), (0, u "I"), (11, .fieldref 10 64), (0, .nameAndType 65 51), (0, u "modCount"), (3, .methodref 10 70), (0, .nameAndType 71 72), (0, u "grow"), (0, u "(I)[Ljava/lang/Object;"), (6, .methodref 80 81), (0, .class_ 82), (0, .nameAndType 83 84), (0, u "java/lang/Math"), (0, u "max"), (0, u "(II)I"), (11, u "(Ljava/lang/Object;)Z"), (21, .methodref 119 120), (0, .class_ 121), (0, .nameAndType 122 84), (0, u "java/util/Objects"), (0, u "checkIndex"), (0, .methodref 10 124), (0, .nameAndType 13 125), (0, u "(I)Ljava/lang/Object;"), (3, .methodref 10 130), (0, .nameAndType 71 47), (0, .methodref 10 132), (0, .nameAndType 133 134), (0, u "add"), (0, u "(Ljava/lang/Object;[Ljava/lang/Object;I)V"), (13, .class_ 149), (0, u "java/util/List"), (36, u "()I"), (75, .class_ 263), (0, u "java/util/ArrayList$ListItr"), (3, .class_ 268), (0, u "java/util/ArrayList$Itr"), (7, .class_ 277), (0, u "java/util/ArrayList$SubList"), (12, .class_ 291), (0, u "java/util/ArrayList$ArrayListSpliterator"), (37, .class_ 330), (0, u "java/util/RandomAccess"), (0, .class_ 332), (0, u "java/lang/Cloneable"), (0, .class_ 334), (0, u "java/io/Serializable"), (0, u "serialVersionUID"), (0, u "J"), (3, u "DEFAULT_CAPACITY"), (40, u "get"), (118, .class_ 501), (0, u "java/util/ArrayList$SubList$2"), (0, .class_ 503), (0, u "java/util/ArrayList$SubList$1")] 5

def k18c0 : Code := { maxStack := 2, maxLocals := 1, code := jdk_38_method_2_code, exceptionTable := #[], attributes := #[] }
def k18m0 : Method := { name := "<init>", desc := "()V", sig := { parameters := [], returnType := none }, accessFlags := 1, code := some k18c0 }
def k18c1 : Code := { maxStack := 4, maxLocals := 4, code := jdk_38_method_6_code, exceptionTable := #[], attributes := #[] }
def k18m1 : Method := { name := "grow", desc := "(I)[Ljava/lang/Object;", sig := { parameters := [.int], returnType := some (.array (.object "java/lang/Object")) }, accessFlags := 2, code := some k18c1 }
def k18c2 : Code := { maxStack := 3, maxLocals := 1, code := jdk_38_method_7_code, exceptionTable := #[], attributes := #[] }
def k18m2 : Method := { name := "grow", desc := "()[Ljava/lang/Object;", sig := { parameters := [], returnType := some (.array (.object "java/lang/Object")) }, accessFlags := 2, code := some k18c2 }
def k18c3 : Code := { maxStack := 1, maxLocals := 1, code := jdk_38_method_8_code, exceptionTable := #[], attributes := #[] }
def k18m3 : Method := { name := "size", desc := "()I", sig := { parameters := [], returnType := some .int }, accessFlags := 1, code := some k18c3 }
def k18c4 : Code := { maxStack := 2, maxLocals := 2, code := jdk_38_method_18_code, exceptionTable := #[], attributes := #[] }
def k18m4 : Method := { name := "elementData", desc := "(I)Ljava/lang/Object;", sig := { parameters := [.int], returnType := some (.object "java/lang/Object") }, accessFlags := 0, code := some k18c4 }
def k18c5 : Code := { maxStack := 2, maxLocals := 2, code := jdk_38_method_20_code, exceptionTable := #[], attributes := #[] }
def k18m5 : Method := { name := "get", desc := "(I)Ljava/lang/Object;", sig := { parameters := [.int], returnType := some (.object "java/lang/Object") }, accessFlags := 1, code := some k18c5 }
def k18c6 : Code := { maxStack := 3, maxLocals := 4, code := jdk_38_method_24_code, exceptionTable := #[], attributes := #[] }
def k18m6 : Method := { name := "add", desc := "(Ljava/lang/Object;[Ljava/lang/Object;I)V", sig := { parameters := [(.object "java/lang/Object"), (.array (.object "java/lang/Object")), .int], returnType := none }, accessFlags := 2, code := some k18c6 }
def k18c7 : Code := { maxStack := 4, maxLocals := 2, code := jdk_38_method_25_code, exceptionTable := #[], attributes := #[] }
def k18m7 : Method := { name := "add", desc := "(Ljava/lang/Object;)Z", sig := { parameters := [(.object "java/lang/Object")], returnType := some .boolean }, accessFlags := 1, code := some k18c7 }
/-- java/util/ArrayList -/
def k18 : Class := { plain "java/util/ArrayList" (some 15) with
  accessFlags := 33
  interfaces := #[14, 16, 17, 2]
  cf := some (fileOf pool18 10 #[.nestMembers #[290, 276, 500, 502, 262, 267]] #[{ accessFlags := 1, nameIndex := 5, descriptorIndex := 6, attributes := #[] }, { accessFlags := 2, nameIndex := 71, descriptorIndex := 72, attributes := #[] }, { accessFlags := 2, nameIndex := 71, descriptorIndex := 47, attributes := #[] }, { accessFlags := 1, nameIndex := 50, descriptorIndex := 186, attributes := #[] }, { accessFlags := 0, nameIndex := 13, descriptorIndex := 125, attributes := #[] }, { accessFlags := 1, nameIndex := 381, descriptorIndex := 125, attributes := #[] }, { accessFlags := 2, nameIndex := 133, descriptorIndex := 134, attributes := #[] }, { accessFlags := 1, nameIndex := 133, descriptorIndex := 96, attributes := #[] }] 33 2 #[148, 329, 331, 333] #[{ accessFlags := 26, nameIndex := 335, descriptorIndex := 336, attributes := #[] }, { accessFlags := 26, nameIndex := 340, descriptorIndex := 51, attributes := #[] }, { accessFlags := 26, nameIndex := 17, descriptorIndex := 14, attributes := #[] }, { accessFlags := 26, nameIndex := 41, descriptorIndex := 14, attributes := #[] }, { accessFlags := 128, nameIndex := 13, descriptorIndex := 14, attributes := #[] }, { accessFlags := 2, nameIndex := 50, descriptorIndex := 51, attributes := #[] }])
  fields := #[{ name := "serialVersionUID", type := .long, accessFlags := 26, slot := 0, constantValue := 0 }, { name := "DEFAULT_CAPACITY", type := .int, accessFlags := 26, slot := 1, constantValue := 0 }, { name := "EMPTY_ELEMENTDATA", type := (.array (.object "java/lang/Object")), accessFlags := 26, slot := 2, constantValue := 0 }, { name := "DEFAULTCAPACITY_EMPTY_ELEMENTDATA", type := (.array (.object "java/lang/Object")), accessFlags := 26, slot := 3, constantValue := 0 }, { name := "elementData", type := (.array (.object "java/lang/Object")), accessFlags := 128, slot := 1, constantValue := 0 }, { name := "size", type := .int, accessFlags := 2, slot := 2, constantValue := 0 }]
  methods := #[k18m0, k18m1, k18m2, k18m3, k18m4, k18m5, k18m6, k18m7]
  instanceTypes := #[.int, (.array (.object "java/lang/Object")), .int]
  staticTypes := #[.long, .int, (.array (.object "java/lang/Object")), (.array (.object "java/lang/Object"))]
  resolved := Array.replicate 509 none
  statics := some 1 }

def pool19 : Array CpInfo := pool [(1, .class_ 2), (0, u "java/lang/Math"), (1, .class_ 6), (1, u "java/lang/Object"), (0, u "<init>"), (0, u "()V"), (89, .class_ 100), (1, u "java/lang/Math$RandomNumberGeneratorHolder"), (71, u "negativeZeroFloatBits"), (0, u "J"), (2, u "negativeZeroDoubleBits"), (21, u "max"), (46, u "$assertionsDisabled"), (0, u "Z"), (88, u "(II)I"), (2, u "twoToTheDoubleScaleDown"), (0, u "D"), (4, u "twoToTheDoubleScaleUp"), (9, u "E"), (3, u "PI"), (2, u "TAU"), (2, u "DEGREES_TO_RADIANS"), (0, u "RADIANS_TO_DEGREES")] 94

def k19m0 : Method := { name := "<init>", desc := "()V", sig := { parameters := [], returnType := none }, accessFlags := 2, code := none }
def k19c1 : Code := { maxStack := 2, maxLocals := 2, code := jdk_29_method_65_code, exceptionTable := #[], attributes := #[] }
def k19m1 : Method := { name := "max", desc := "(II)I", sig := { parameters := [.int, .int], returnType := some .int }, accessFlags := 9, code := some k19c1 }
/-- java/lang/Math -/
def k19 : Class := { plain "java/lang/Math" (some 0) with
  accessFlags := 49
  interfaces := #[]
  cf := some (fileOf pool19 1 #[.nestMembers #[98]] #[{ accessFlags := 2, nameIndex := 7, descriptorIndex := 8, attributes := #[] }, { accessFlags := 9, nameIndex := 198, descriptorIndex := 335, attributes := #[] }] 49 4 #[] #[{ accessFlags := 25, nameIndex := 354, descriptorIndex := 339, attributes := #[] }, { accessFlags := 25, nameIndex := 358, descriptorIndex := 339, attributes := #[] }, { accessFlags := 25, nameIndex := 361, descriptorIndex := 339, attributes := #[] }, { accessFlags := 26, nameIndex := 364, descriptorIndex := 339, attributes := #[] }, { accessFlags := 26, nameIndex := 365, descriptorIndex := 339, attributes := #[] }, { accessFlags := 26, nameIndex := 172, descriptorIndex := 173, attributes := #[] }, { accessFlags := 26, nameIndex := 176, descriptorIndex := 173, attributes := #[] }, { accessFlags := 8, nameIndex := 344, descriptorIndex := 339, attributes := #[] }, { accessFlags := 8, nameIndex := 338, descriptorIndex := 339, attributes := #[] }, { accessFlags := 4120, nameIndex := 245, descriptorIndex := 246, attributes := #[] }])
  fields := #[{ name := "E", type := .double, accessFlags := 25, slot := 0, constantValue := 0 }, { name := "PI", type := .double, accessFlags := 25, slot := 1, constantValue := 0 }, { name := "TAU", type := .double, accessFlags := 25, slot := 2, constantValue := 0 }, { name := "DEGREES_TO_RADIANS", type := .double, accessFlags := 26, slot := 3, constantValue := 0 }, { name := "RADIANS_TO_DEGREES", type := .double, accessFlags := 26, slot := 4, constantValue := 0 }, { name := "negativeZeroFloatBits", type := .long, accessFlags := 26, slot := 5, constantValue := 0 }, { name := "negativeZeroDoubleBits", type := .long, accessFlags := 26, slot := 6, constantValue := 0 }, { name := "twoToTheDoubleScaleUp", type := .double, accessFlags := 8, slot := 7, constantValue := 0 }, { name := "twoToTheDoubleScaleDown", type := .double, accessFlags := 8, slot := 8, constantValue := 0 }, { name := "$assertionsDisabled", type := .boolean, accessFlags := 4120, slot := 9, constantValue := 0 }]
  methods := #[k19m0, k19m1]
  instanceTypes := #[]
  staticTypes := #[.double, .double, .double, .double, .double, .long, .long, .double, .double, .boolean]
  resolved := Array.replicate 460 none
  statics := none }

def pool20 : Array CpInfo := pool [(1, .methodref 2 3), (0, .class_ 4), (0, .nameAndType 5 6), (0, u "java/lang/Object"), (0, u "<init>"), (0, u "()V"), (0, .fieldref 8 9), (0, .class_ 10), (0, .nameAndType 11 12), (0, u "com/example/admit/admit/command/Program"), (0, u "command"), (0, u "Ljava/util/List;"), (8, u "waiting"), (0, u "Ljava/lang/Thread;"), (14, u "name"), (0, u "()Ljava/lang/String;"), (1, .class_ 42), (1, u "java/lang/String"), (16, u "(Ljava/util/List;)V"), (21, u "stoppedBy"), (0, u "I"), (6, u "lost"), (0, u "Z"), (8, u "process"), (0, u "Ljava/lang/Process;"), (28, u "killAt"), (3, u "J"), (3, .interfaceMethodref 138 139), (0, .class_ 140), (0, .nameAndType 141 142), (0, u "java/util/List"), (0, u "get"), (0, u "(I)Ljava/lang/Object;")] 123

def k20c0 : Code := { maxStack := 2, maxLocals := 2, code := prog_6_method_1_code, exceptionTable := #[], attributes := #[] }
def k20m0 : Method := { name := "<init>", desc := "(Ljava/util/List;)V", sig := { parameters := [(.object "java/util/List")], returnType := none }, accessFlags := 0, code := some k20c0 }
def k20c1 : Code := { maxStack := 2, maxLocals := 1, code := prog_6_method_7_code, exceptionTable := #[], attributes := #[] }
def k20m1 : Method := { name := "name", desc := "()Ljava/lang/String;", sig := { parameters := [], returnType := some (.object "java/lang/String") }, accessFlags := 0, code := some k20c1 }
/-- com/example/admit/admit/command/Program -/
def k20 : Class := { plain "com/example/admit/admit/command/Program" (some 0) with
  accessFlags := 32
  interfaces := #[]
  cf := some (fileOf pool20 8 #[] #[{ accessFlags := 0, nameIndex := 5, descriptorIndex := 59, attributes := #[] }, { accessFlags := 0, nameIndex := 37, descriptorIndex := 38, attributes := #[] }] 32 2 #[] #[{ accessFlags := 18, nameIndex := 11, descriptorIndex := 12, attributes := #[] }, { accessFlags := 2, nameIndex := 21, descriptorIndex := 22, attributes := #[] }, { accessFlags := 2, nameIndex := 99, descriptorIndex := 100, attributes := #[] }, { accessFlags := 2, nameIndex := 81, descriptorIndex := 82, attributes := #[] }, { accessFlags := 2, nameIndex := 89, descriptorIndex := 90, attributes := #[] }, { accessFlags := 2, nameIndex := 129, descriptorIndex := 133, attributes := #[] }])
  fields := #[{ name := "command", type := (.object "java/util/List"), accessFlags := 18, slot := 0, constantValue := 0 }, { name := "waiting", type := (.object "java/lang/Thread"), accessFlags := 2, slot := 1, constantValue := 0 }, { name := "process", type := (.object "java/lang/Process"), accessFlags := 2, slot := 2, constantValue := 0 }, { name := "stoppedBy", type := .int, accessFlags := 2, slot := 3, constantValue := 0 }, { name := "lost", type := .boolean, accessFlags := 2, slot := 4, constantValue := 0 }, { name := "killAt", type := .long, accessFlags := 2, slot := 5, constantValue := 0 }]
  methods := #[k20m0, k20m1]
  instanceTypes := #[(.object "java/util/List"), (.object "java/lang/Thread"), (.object "java/lang/Process"), .int, .boolean, .long]
  staticTypes := #[]
  resolved := Array.replicate 266 none
  statics := none }

def pool21 : Array CpInfo := pool [(2, .class_ 4), (1, u "java/lang/Object"), (0, u "<init>"), (0, u "()V"), (35, .class_ 44), (1, u "java/util/Objects"), (60, .methodref 106 107), (0, .class_ 108), (0, .nameAndType 109 110), (0, u "jdk/internal/util/Preconditions"), (0, u "checkIndex"), (0, u "(IILjava/util/function/BiFunction;)I"), (60, u "(II)I")] 12

def k21m0 : Method := { name := "<init>", desc := "()V", sig := { parameters := [], returnType := none }, accessFlags := 2, code := none }
def k21c1 : Code := { maxStack := 3, maxLocals := 2, code := jdk_31_method_17_code, exceptionTable := #[], attributes := #[] }
def k21m1 : Method := { name := "checkIndex", desc := "(II)I", sig := { parameters := [.int, .int], returnType := some .int }, accessFlags := 9, code := some k21c1 }
/-- java/util/Objects -/
def k21 : Class := { plain "java/util/Objects" (some 0) with
  accessFlags := 49
  interfaces := #[]
  cf := some (fileOf pool21 42 #[] #[{ accessFlags := 2, nameIndex := 5, descriptorIndex := 6, attributes := #[] }, { accessFlags := 9, nameIndex := 109, descriptorIndex := 171, attributes := #[] }] 49 2 #[] #[])
  fields := #[]
  methods := #[k21m0, k21m1]
  instanceTypes := #[]
  staticTypes := #[]
  resolved := Array.replicate 184 none
  statics := none }

def pool22 : Array CpInfo := pool [(2, .class_ 4), (1, u "java/lang/Object"), (0, u "<init>"), (0, u "()V"), (17, .class_ 26), (1, u "jdk/internal/util/Preconditions"), (6, u "checkIndex"), (21, .class_ 56), (0, u "jdk/internal/util/Preconditions$4"), (57, .class_ 115), (0, u "jdk/internal/util/Preconditions$1"), (7, u "SIOOBE_FORMATTER"), (0, u "Ljava/util/function/BiFunction;"), (0, .class_ 126), (0, u "jdk/internal/util/Preconditions$2"), (3, u "AIOOBE_FORMATTER"), (0, .class_ 132), (0, u "jdk/internal/util/Preconditions$3"), (3, u "IOOBE_FORMATTER"), (41, u "(IILjava/util/function/BiFunction;)I")] 15

def k22m0 : Method := { name := "<init>", desc := "()V", sig := { parameters := [], returnType := none }, accessFlags := 1, code := none }
def k22c1 : Code := { maxStack := 3, maxLocals := 3, code := jdk_41_method_11_code, exceptionTable := #[], attributes := #[] }
def k22m1 : Method := { name := "checkIndex", desc := "(IILjava/util/function/BiFunction;)I", sig := { parameters := [.int, .int, (.object "java/util/function/BiFunction")], returnType := some .int }, accessFlags := 9, code := some k22c1 }
/-- jdk/internal/util/Preconditions -/
def k22 : Class := { plain "jdk/internal/util/Preconditions" (some 0) with
  accessFlags := 33
  interfaces := #[]
  cf := some (fileOf pool22 24 #[.nestMembers #[55, 131, 125, 114]] #[{ accessFlags := 1, nameIndex := 5, descriptorIndex := 6, attributes := #[] }, { accessFlags := 9, nameIndex := 33, descriptorIndex := 178, attributes := #[] }] 33 2 #[] #[{ accessFlags := 25, nameIndex := 123, descriptorIndex := 124, attributes := #[] }, { accessFlags := 25, nameIndex := 130, descriptorIndex := 124, attributes := #[] }, { accessFlags := 25, nameIndex := 136, descriptorIndex := 124, attributes := #[] }])
  fields := #[{ name := "SIOOBE_FORMATTER", type := (.object "java/util/function/BiFunction"), accessFlags := 25, slot := 0, constantValue := 0 }, { name := "AIOOBE_FORMATTER", type := (.object "java/util/function/BiFunction"), accessFlags := 25, slot := 1, constantValue := 0 }, { name := "IOOBE_FORMATTER", type := (.object "java/util/function/BiFunction"), accessFlags := 25, slot := 2, constantValue := 0 }]
  methods := #[k22m0, k22m1]
  instanceTypes := #[]
  staticTypes := #[(.object "java/util/function/BiFunction"), (.object "java/util/function/BiFunction"), (.object "java/util/function/BiFunction")]
  resolved := Array.replicate 194 none
  statics := some 2 }

def pool23 : Array CpInfo := pool [(9, u "<init>"), (6, .class_ 18), (1, u "java/lang/Object"), (0, u "()V"), (1, .class_ 23), (1, u "jdk/internal/util/ArraysSupport"), (0, u "LOG2_ARRAY_LONG_INDEX_SCALE"), (0, u "I"), (2, u "U"), (0, u "Ljdk/internal/misc/Unsafe;"), (8, u "BIG_ENDIAN"), (0, u "Z"), (8, u "LOG2_BYTE_BIT_SIZE"), (4, u "LOG2_ARRAY_INT_INDEX_SCALE"), (54, u "JLA"), (0, u "Ljdk/internal/access/JavaLangAccess;"), (11, u "LOG2_ARRAY_BOOLEAN_INDEX_SCALE"), (9, u "LOG2_ARRAY_BYTE_INDEX_SCALE"), (5, u "LOG2_ARRAY_CHAR_INDEX_SCALE"), (5, u "LOG2_ARRAY_SHORT_INDEX_SCALE"), (18, u "LOG2_ARRAY_FLOAT_INDEX_SCALE"), (24, u "LOG2_ARRAY_DOUBLE_INDEX_SCALE"), (89, u "T_BOOLEAN"), (2, u "T_CHAR"), (1, u "T_FLOAT"), (1, u "T_DOUBLE"), (1, u "T_BYTE"), (1, u "T_SHORT"), (1, u "T_INT"), (1, u "T_LONG"), (1, u "SOFT_MAX_ARRAY_LENGTH")] 83

def k23m0 : Method := { name := "<init>", desc := "()V", sig := { parameters := [], returnType := none }, accessFlags := 2, code := none }
/-- jdk/internal/util/ArraysSupport -/
def k23 : Class := { plain "jdk/internal/util/ArraysSupport" (some 0) with
  accessFlags := 33
  interfaces := #[]
  cf := some (fileOf pool23 21 #[] #[{ accessFlags := 2, nameIndex := 9, descriptorIndex := 19, attributes := #[] }] 33 16 #[] #[{ accessFlags := 24, nameIndex := 28, descriptorIndex := 29, attributes := #[] }, { accessFlags := 26, nameIndex := 38, descriptorIndex := 39, attributes := #[] }, { accessFlags := 25, nameIndex := 121, descriptorIndex := 25, attributes := #[] }, { accessFlags := 25, nameIndex := 131, descriptorIndex := 25, attributes := #[] }, { accessFlags := 25, nameIndex := 137, descriptorIndex := 25, attributes := #[] }, { accessFlags := 25, nameIndex := 143, descriptorIndex := 25, attributes := #[] }, { accessFlags := 25, nameIndex := 53, descriptorIndex := 25, attributes := #[] }, { accessFlags := 25, nameIndex := 24, descriptorIndex := 25, attributes := #[] }, { accessFlags := 25, nameIndex := 162, descriptorIndex := 25, attributes := #[] }, { accessFlags := 25, nameIndex := 187, descriptorIndex := 25, attributes := #[] }, { accessFlags := 26, nameIndex := 48, descriptorIndex := 25, attributes := #[] }, { accessFlags := 25, nameIndex := 277, descriptorIndex := 25, attributes := #[] }, { accessFlags := 25, nameIndex := 280, descriptorIndex := 25, attributes := #[] }, { accessFlags := 25, nameIndex := 282, descriptorIndex := 25, attributes := #[] }, { accessFlags := 25, nameIndex := 284, descriptorIndex := 25, attributes := #[] }, { accessFlags := 25, nameIndex := 286, descriptorIndex := 25, attributes := #[] }, { accessFlags := 25, nameIndex := 288, descriptorIndex := 25, attributes := #[] }, { accessFlags := 25, nameIndex := 290, descriptorIndex := 25, attributes := #[] }, { accessFlags := 25, nameIndex := 292, descriptorIndex := 25, attributes := #[] }, { accessFlags := 26, nameIndex := 108, descriptorIndex := 109, attributes := #[] }, { accessFlags := 25, nameIndex := 294, descriptorIndex := 25, attributes := #[] }])
  fields := #[{ name := "U", type := (.object "jdk/internal/misc/Unsafe"), accessFlags := 24, slot := 0, constantValue := 0 }, { name := "BIG_ENDIAN", type := .boolean, accessFlags := 26, slot := 1, constantValue := 0 }, { name := "LOG2_ARRAY_BOOLEAN_INDEX_SCALE", type := .int, accessFlags := 25, slot := 2, constantValue := 0 }, { name := "LOG2_ARRAY_BYTE_INDEX_SCALE", type := .int, accessFlags := 25, slot := 3, constantValue := 0 }, { name := "LOG2_ARRAY_CHAR_INDEX_SCALE", type := .int, accessFlags := 25, slot := 4, constantValue := 0 }, { name := "LOG2_ARRAY_SHORT_INDEX_SCALE", type := .int, accessFlags := 25, slot := 5, constantValue := 0 }, { name := "LOG2_ARRAY_INT_INDEX_SCALE", type := .int, accessFlags := 25, slot := 6, constantValue := 0 }, { name := "LOG2_ARRAY_LONG_INDEX_SCALE", type := .int, accessFlags := 25, slot := 7, constantValue := 0 }, { name := "LOG2_ARRAY_FLOAT_INDEX_SCALE", type := .int, accessFlags := 25, slot := 8, constantValue := 0 }, { name := "LOG2_ARRAY_DOUBLE_INDEX_SCALE", type := .int, accessFlags := 25, slot := 9, constantValue := 0 }, { name := "LOG2_BYTE_BIT_SIZE", type := .int, accessFlags := 26, slot := 10, constantValue := 0 }, { name := "T_BOOLEAN", type := .int, accessFlags := 25, slot := 11, constantValue := 0 }, { name := "T_CHAR", type := .int, accessFlags := 25, slot := 12, constantValue := 0 }, { name := "T_FLOAT", type := .int, accessFlags := 25, slot := 13, constantValue := 0 }, { name := "T_DOUBLE", type := .int, accessFlags := 25, slot := 14, constantValue := 0 }, { name := "T_BYTE", type := .int, accessFlags := 25, slot := 15, constantValue := 0 }, { name := "T_SHORT", type := .int, accessFlags := 25, slot := 16, constantValue := 0 }, { name := "T_INT", type := .int, accessFlags := 25, slot := 17, constantValue := 0 }, { name := "T_LONG", type := .int, accessFlags := 25, slot := 18, constantValue := 0 }, { name := "JLA", type := (.object "jdk/internal/access/JavaLangAccess"), accessFlags := 26, slot := 19, constantValue := 0 }, { name := "SOFT_MAX_ARRAY_LENGTH", type := .int, accessFlags := 25, slot := 20, constantValue := 0 }]
  methods := #[k23m0]
  instanceTypes := #[]
  staticTypes := #[(.object "jdk/internal/misc/Unsafe"), .boolean, .int, .int, .int, .int, .int, .int, .int, .int, .int, .int, .int, .int, .int, .int, .int, .int, .int, (.object "jdk/internal/access/JavaLangAccess"), .int]
  resolved := Array.replicate 378 none
  statics := none }

/-- the primitive byte -/
def k24 : Class := { plain "byte" none with kind := .primitive 'B', accessFlags := 0x411 }
/-- [B -/
def k25 : Class := { plain "[B" (some 0) with kind := .array 24 .byte, interfaces := #[17, 2], accessFlags := 1041 }

/-- the primitive char -/
def k26 : Class := { plain "char" none with kind := .primitive 'C', accessFlags := 0x411 }
/-- [C -/
def k27 : Class := { plain "[C" (some 0) with kind := .array 26 .char, interfaces := #[17, 2], accessFlags := 1041 }

/-- the primitive int -/
def k28 : Class := { plain "int" none with kind := .primitive 'I', accessFlags := 0x411 }
/-- [I -/
def k29 : Class := { plain "[I" (some 0) with kind := .array 28 .int, interfaces := #[17, 2], accessFlags := 1041 }

/-- [Ljava/lang/Object; -/
def k30 : Class := { plain "[Ljava/lang/Object;" (some 0) with kind := .array 0 (.object "java/lang/Object"), interfaces := #[17, 2], accessFlags := 1041 }

def heap : Heap := #[{ cls := 7, slots := #[.long 0, .int 1, .null, .int 0, .null, .int 0, .int 0], vm := .statics 7 },
  { cls := 18, slots := #[.long 0, .int 0, .ref 4, .ref 3], vm := .statics 18 },
  { cls := 22, slots := #[.null, .null, .null], vm := .statics 22 },
  { cls := 30, slots := #[], vm := .none },
  { cls := 30, slots := #[], vm := .none }]
def classes : Array Class := #[k0, k1, k2, k3, k4, k5, k6, k7, k8, k9, k10, k11, k12, k13, k14, k15, k16, k17, k18, k19, k20, k21, k22, k23, k24, k25, k26, k27, k28, k29, k30]
def interned : List (Array UInt16 × Addr) := []
def slotsUsed : Nat := 14
def theMethod : MethodId := ⟨1, 1⟩
def args0 : Array Value := #[.int 1, .int 6]
def aboutOver (below : List Frame) : State where
  vm := { classes := classes, interned := interned.toArray }
  heap := heap
  slotsUsed := slotsUsed
  threads := #[{ frames := .invoking theMethod args0 :: below }]
def below0 : List Frame := [.native { method := ⟨0, 0⟩, args := #[] }]
def about1 : State := aboutOver below0
def p0 : Program := .bare "" "" ""
def e0 : Env := launch0.env 0 0 0
theorem w_frames : about1.frames = Frame.invoking theMethod args0 :: below0 := rfl
set_option maxRecDepth 65536 in
theorem w_args : argsFit about1.vm theMethod args0 = true := by decide +kernel
set_option maxRecDepth 65536 in
theorem w_heap : heapFits about1 = true := by decide +kernel
set_option maxRecDepth 65536 in
theorem w_runnable : about1.curStatus? = some .runnable := by decide +kernel
set_option maxRecDepth 65536 in
theorem w_alone : about1.alone = true := by decide +kernel
set_option maxRecDepth 65536 in
theorem w_named : about1.methodNamed? x = some theMethod := by decide +kernel
set_option maxRecDepth 65536 in
theorem w_hears : about1.hears theMethod below0 = true := by decide +kernel
set_option maxRecDepth 65536 in
theorem w_ripe : about1.ripe theMethod args0 below0 = true := by decide +kernel
theorem w_running : about1.status = .running := rfl
set_option maxRecDepth 65536 in
theorem w_room : about1.hasRoom e0.platform room_1 = true :=
  launch0.hasRoom_least _ room_1 (by decide +kernel) (by decide +kernel) (by decide +kernel) (by decide +kernel) (by decide +kernel) (by decide +kernel)
theorem allAtoms_all (ts : List Jvm.Cond) (a : Array Jvm.Value) (st : Jvm.State) : (allAtoms ts).before a st = ts.all (fun c => c.before a st) := by
  induction ts with
  | nil => rfl
  | cons c t ih =>
    show (Jvm.Cond.and c (allAtoms t)).before a st = _
    rw [Jvm.Cond.before_and, ih, List.all_cons]
def words1 : List Jvm.Cond := Jvm.Cond.code x code maxLocals ret :: tables_1
/-- a 'code' word, met by the world's own term for the bytes: nothing is compared byte by byte -/
theorem code_word {y : MethodName} {bytes : ByteArray} {mx : Nat} {rt : Option FieldType} {a : Array Value} {s : State} {m : MethodId} {meth : Method} {c : Code} (h1 : s.methodNamed? y = some m) (h2 : s.vm.method? m = some meth) (h3 : meth.code = some c) (h4 : c.code = bytes)
    (h5 : (c.maxLocals == mx && c.exceptionTable.isEmpty && decide (c.maxStack ≤ mostOperands) && decide (meth.sig.returnType = rt) && !meth.locks && decide (parseMethodDescriptor y.desc = some meth.sig)) = true) : (Jvm.Cond.code y bytes mx rt).before a s = true := by
  simp only [Bool.and_eq_true, beq_iff_eq, Bool.not_eq_true', decide_eq_true_eq] at h5
  obtain ⟨⟨⟨⟨⟨g1, g2⟩, g3⟩, g4⟩, g5⟩, g6⟩ := h5
  simp [Cond.before, Cond.holds, Cond.value, h1, h2, h3, h4, g1, g2, g3, g4, g5, g6]
def isCode : Jvm.Cond → Bool
  | .code _ _ _ _ => true
  | _ => false
theorem all_split {L : List Jvm.Cond} {P : Jvm.Cond → Bool} (h1 : L.all (fun c => isCode c || P c) = true) (h2 : ∀ c ∈ L.filter isCode, P c = true) : L.all P = true := by
  refine List.all_eq_true.mpr fun c hc => ?_
  have h := List.all_eq_true.mp h1 c hc
  rcases Bool.eq_false_or_eq_true (isCode c) with hi | hi
  · exact h2 c (List.mem_filter.mpr ⟨hc, hi⟩)
  · simpa [hi] using h
set_option maxRecDepth 65536 in
theorem w_c0 : (Jvm.Cond.code x code maxLocals ret).before args0 about1 = true := code_word (m := ⟨1, 1⟩) (meth := k1m1) (c := k1c1) (by decide +kernel) rfl rfl rfl (by decide +kernel)
set_option maxRecDepth 65536 in
theorem w_c1 : (Jvm.Cond.code ({ cls := "java/lang/String", name := "<init>", desc := "([C)V" } : Jvm.MethodName) jdk_42_method_3_code (2 : Nat) (Option.none : Option Jvm.ClassFile.FieldType)).before args0 about1 = true := code_word (m := ⟨7, 1⟩) (meth := k7m1) (c := k7c1) (by decide +kernel) rfl rfl rfl (by decide +kernel)
set_option maxRecDepth 65536 in
theorem w_c2 : (Jvm.Cond.code ({ cls := "java/lang/String", name := "<init>", desc := "([CIILjava/lang/Void;)V" } : Jvm.MethodName) jdk_42_method_149_code (6 : Nat) (Option.none : Option Jvm.ClassFile.FieldType)).before args0 about1 = true := code_word (m := ⟨7, 5⟩) (meth := k7m5) (c := k7c5) (by decide +kernel) rfl rfl rfl (by decide +kernel)
set_option maxRecDepth 65536 in
theorem w_c3 : (Jvm.Cond.code ({ cls := "java/lang/Object", name := "<init>", desc := "()V" } : Jvm.MethodName) object_method_1_code (1 : Nat) (Option.none : Option Jvm.ClassFile.FieldType)).before args0 about1 = true := code_word (m := ⟨0, 0⟩) (meth := k0m0) (c := k0c0) (by decide +kernel) rfl rfl rfl (by decide +kernel)
set_option maxRecDepth 65536 in
theorem w_c4 : (Jvm.Cond.code ({ cls := "java/lang/StringUTF16", name := "compress", desc := "([CII)[B" } : Jvm.MethodName) jdk_52_method_16_code (6 : Nat) (Option.some (Jvm.ClassFile.FieldType.array Jvm.ClassFile.FieldType.byte))).before args0 about1 = true := code_word (m := ⟨8, 2⟩) (meth := k8m2) (c := k8c2) (by decide +kernel) rfl rfl rfl (by decide +kernel)
set_option maxRecDepth 65536 in
theorem w_c5 : (Jvm.Cond.code ({ cls := "java/lang/StringUTF16", name := "compress", desc := "([CI[BII)I" } : Jvm.MethodName) jdk_52_method_21_code (7 : Nat) (Option.some Jvm.ClassFile.FieldType.int)).before args0 about1 = true := code_word (m := ⟨8, 3⟩) (meth := k8m3) (c := k8c3) (by decide +kernel) rfl rfl rfl (by decide +kernel)
set_option maxRecDepth 65536 in
theorem w_c6 : (Jvm.Cond.code ({ cls := "java/lang/StringUTF16", name := "coderFromArrayLen", desc := "([BI)B" } : Jvm.MethodName) jdk_52_method_15_code (2 : Nat) (Option.some Jvm.ClassFile.FieldType.byte)).before args0 about1 = true := code_word (m := ⟨8, 1⟩) (meth := k8m1) (c := k8c1) (by decide +kernel) rfl rfl rfl (by decide +kernel)
set_option maxRecDepth 65536 in
theorem w_c7 : (Jvm.Cond.code ({ cls := "java/lang/String", name := "valueOf", desc := "(C)Ljava/lang/String;" } : Jvm.MethodName) jdk_42_method_139_code (1 : Nat) (Option.some (Jvm.ClassFile.FieldType.object "java/lang/String"))).before args0 about1 = true := code_word (m := ⟨7, 4⟩) (meth := k7m4) (c := k7c4) (by decide +kernel) rfl rfl rfl (by decide +kernel)
set_option maxRecDepth 65536 in
theorem w_c8 : (Jvm.Cond.code ({ cls := "java/lang/StringLatin1", name := "canEncode", desc := "(C)Z" } : Jvm.MethodName) jdk_43_method_3_code (1 : Nat) (Option.some Jvm.ClassFile.FieldType.boolean)).before args0 about1 = true := code_word (m := ⟨9, 2⟩) (meth := k9m2) (c := k9c2) (by decide +kernel) rfl rfl rfl (by decide +kernel)
set_option maxRecDepth 65536 in
theorem w_c9 : (Jvm.Cond.code ({ cls := "java/lang/StringLatin1", name := "toBytes", desc := "(C)[B" } : Jvm.MethodName) jdk_43_method_46_code (1 : Nat) (Option.some (Jvm.ClassFile.FieldType.array Jvm.ClassFile.FieldType.byte))).before args0 about1 = true := code_word (m := ⟨9, 3⟩) (meth := k9m3) (c := k9c3) (by decide +kernel) rfl rfl rfl (by decide +kernel)
set_option maxRecDepth 65536 in
theorem w_c10 : (Jvm.Cond.code ({ cls := "java/lang/String", name := "<init>", desc := "([BB)V" } : Jvm.MethodName) jdk_42_method_151_code (3 : Nat) (Option.none : Option Jvm.ClassFile.FieldType)).before args0 about1 = true := code_word (m := ⟨7, 6⟩) (meth := k7m6) (c := k7c6) (by decide +kernel) rfl rfl rfl (by decide +kernel)
set_option maxRecDepth 65536 in
theorem w_c11 : (Jvm.Cond.code ({ cls := "java/util/ArrayList", name := "<init>", desc := "()V" } : Jvm.MethodName) jdk_38_method_2_code (1 : Nat) (Option.none : Option Jvm.ClassFile.FieldType)).before args0 about1 = true := code_word (m := ⟨18, 0⟩) (meth := k18m0) (c := k18c0) (by decide +kernel) rfl rfl rfl (by decide +kernel)
set_option maxRecDepth 65536 in
theorem w_c12 : (Jvm.Cond.code ({ cls := "java/util/AbstractList", name := "<init>", desc := "()V" } : Jvm.MethodName) jdk_39_method_1_code (1 : Nat) (Option.none : Option Jvm.ClassFile.FieldType)).before args0 about1 = true := code_word (m := ⟨15, 0⟩) (meth := k15m0) (c := k15c0) (by decide +kernel) rfl rfl rfl (by decide +kernel)
set_option maxRecDepth 65536 in
theorem w_c13 : (Jvm.Cond.code ({ cls := "java/util/AbstractCollection", name := "<init>", desc := "()V" } : Jvm.MethodName) jdk_22_method_1_code (1 : Nat) (Option.none : Option Jvm.ClassFile.FieldType)).before args0 about1 = true := code_word (m := ⟨12, 0⟩) (meth := k12m0) (c := k12c0) (by decide +kernel) rfl rfl rfl (by decide +kernel)
set_option maxRecDepth 65536 in
theorem w_c14 : (Jvm.Cond.code ({ cls := "java/util/ArrayList", name := "add", desc := "(Ljava/lang/Object;)Z" } : Jvm.MethodName) jdk_38_method_25_code (2 : Nat) (Option.some Jvm.ClassFile.FieldType.boolean)).before args0 about1 = true := code_word (m := ⟨18, 7⟩) (meth := k18m7) (c := k18c7) (by decide +kernel) rfl rfl rfl (by decide +kernel)
set_option maxRecDepth 65536 in
theorem w_c15 : (Jvm.Cond.code ({ cls := "java/util/ArrayList", name := "add", desc := "(Ljava/lang/Object;[Ljava/lang/Object;I)V" } : Jvm.MethodName) jdk_38_method_24_code (4 : Nat) (Option.none : Option Jvm.ClassFile.FieldType)).before args0 about1 = true := code_word (m := ⟨18, 6⟩) (meth := k18m6) (c := k18c6) (by decide +kernel) rfl rfl rfl (by decide +kernel)
set_option maxRecDepth 65536 in
theorem w_c16 : (Jvm.Cond.code ({ cls := "java/util/ArrayList", name := "grow", desc := "()[Ljava/lang/Object;" } : Jvm.MethodName) jdk_38_method_7_code (1 : Nat) (Option.some (Jvm.ClassFile.FieldType.array (Jvm.ClassFile.FieldType.object "java/lang/Object")))).before args0 about1 = true := code_word (m := ⟨18, 2⟩) (meth := k18m2) (c := k18c2) (by decide +kernel) rfl rfl rfl (by decide +kernel)
set_option maxRecDepth 65536 in
theorem w_c17 : (Jvm.Cond.code ({ cls := "java/util/ArrayList", name := "grow", desc := "(I)[Ljava/lang/Object;" } : Jvm.MethodName) jdk_38_method_6_code (4 : Nat) (Option.some (Jvm.ClassFile.FieldType.array (Jvm.ClassFile.FieldType.object "java/lang/Object")))).before args0 about1 = true := code_word (m := ⟨18, 1⟩) (meth := k18m1) (c := k18c1) (by decide +kernel) rfl rfl rfl (by decide +kernel)
set_option maxRecDepth 65536 in
theorem w_c18 : (Jvm.Cond.code ({ cls := "java/lang/Math", name := "max", desc := "(II)I" } : Jvm.MethodName) jdk_29_method_65_code (2 : Nat) (Option.some Jvm.ClassFile.FieldType.int)).before args0 about1 = true := code_word (m := ⟨19, 1⟩) (meth := k19m1) (c := k19c1) (by decide +kernel) rfl rfl rfl (by decide +kernel)
set_option maxRecDepth 65536 in
theorem w_c19 : (Jvm.Cond.code ({ cls := "com/example/admit/admit/command/Program", name := "<init>", desc := "(Ljava/util/List;)V" } : Jvm.MethodName) prog_6_method_1_code (2 : Nat) (Option.none : Option Jvm.ClassFile.FieldType)).before args0 about1 = true := code_word (m := ⟨20, 0⟩) (meth := k20m0) (c := k20c0) (by decide +kernel) rfl rfl rfl (by decide +kernel)
set_option maxRecDepth 65536 in
theorem w_c20 : (Jvm.Cond.code ({ cls := "com/example/admit/admit/command/Program", name := "name", desc := "()Ljava/lang/String;" } : Jvm.MethodName) prog_6_method_7_code (1 : Nat) (Option.some (Jvm.ClassFile.FieldType.object "java/lang/String"))).before args0 about1 = true := code_word (m := ⟨20, 1⟩) (meth := k20m1) (c := k20c1) (by decide +kernel) rfl rfl rfl (by decide +kernel)
set_option maxRecDepth 65536 in
theorem w_c21 : (Jvm.Cond.code ({ cls := "java/util/ArrayList", name := "get", desc := "(I)Ljava/lang/Object;" } : Jvm.MethodName) jdk_38_method_20_code (2 : Nat) (Option.some (Jvm.ClassFile.FieldType.object "java/lang/Object"))).before args0 about1 = true := code_word (m := ⟨18, 5⟩) (meth := k18m5) (c := k18c5) (by decide +kernel) rfl rfl rfl (by decide +kernel)
set_option maxRecDepth 65536 in
theorem w_c22 : (Jvm.Cond.code ({ cls := "java/util/Objects", name := "checkIndex", desc := "(II)I" } : Jvm.MethodName) jdk_31_method_17_code (2 : Nat) (Option.some Jvm.ClassFile.FieldType.int)).before args0 about1 = true := code_word (m := ⟨21, 1⟩) (meth := k21m1) (c := k21c1) (by decide +kernel) rfl rfl rfl (by decide +kernel)
set_option maxRecDepth 65536 in
theorem w_c23 : (Jvm.Cond.code ({ cls := "jdk/internal/util/Preconditions", name := "checkIndex", desc := "(IILjava/util/function/BiFunction;)I" } : Jvm.MethodName) jdk_41_method_11_code (3 : Nat) (Option.some Jvm.ClassFile.FieldType.int)).before args0 about1 = true := code_word (m := ⟨22, 1⟩) (meth := k22m1) (c := k22c1) (by decide +kernel) rfl rfl rfl (by decide +kernel)
set_option maxRecDepth 65536 in
theorem w_c24 : (Jvm.Cond.code ({ cls := "java/util/ArrayList", name := "elementData", desc := "(I)Ljava/lang/Object;" } : Jvm.MethodName) jdk_38_method_18_code (2 : Nat) (Option.some (Jvm.ClassFile.FieldType.object "java/lang/Object"))).before args0 about1 = true := code_word (m := ⟨18, 4⟩) (meth := k18m4) (c := k18c4) (by decide +kernel) rfl rfl rfl (by decide +kernel)
set_option maxRecDepth 65536 in
theorem w_c25 : (Jvm.Cond.code ({ cls := "java/lang/String", name := "length", desc := "()I" } : Jvm.MethodName) jdk_42_method_54_code (1 : Nat) (Option.some Jvm.ClassFile.FieldType.int)).before args0 about1 = true := code_word (m := ⟨7, 2⟩) (meth := k7m2) (c := k7c2) (by decide +kernel) rfl rfl rfl (by decide +kernel)
set_option maxRecDepth 65536 in
theorem w_c26 : (Jvm.Cond.code ({ cls := "java/lang/String", name := "coder", desc := "()B" } : Jvm.MethodName) jdk_42_method_152_code (1 : Nat) (Option.some Jvm.ClassFile.FieldType.byte)).before args0 about1 = true := code_word (m := ⟨7, 7⟩) (meth := k7m7) (c := k7c7) (by decide +kernel) rfl rfl rfl (by decide +kernel)
set_option maxRecDepth 65536 in
theorem w_c27 : (Jvm.Cond.code ({ cls := "java/lang/String", name := "charAt", desc := "(I)C" } : Jvm.MethodName) jdk_42_method_56_code (2 : Nat) (Option.some Jvm.ClassFile.FieldType.char)).before args0 about1 = true := code_word (m := ⟨7, 3⟩) (meth := k7m3) (c := k7c3) (by decide +kernel) rfl rfl rfl (by decide +kernel)
set_option maxRecDepth 65536 in
theorem w_c28 : (Jvm.Cond.code ({ cls := "java/lang/String", name := "isLatin1", desc := "()Z" } : Jvm.MethodName) jdk_42_method_154_code (1 : Nat) (Option.some Jvm.ClassFile.FieldType.boolean)).before args0 about1 = true := code_word (m := ⟨7, 8⟩) (meth := k7m8) (c := k7c8) (by decide +kernel) rfl rfl rfl (by decide +kernel)
set_option maxRecDepth 65536 in
theorem w_c29 : (Jvm.Cond.code ({ cls := "java/lang/StringLatin1", name := "charAt", desc := "([BI)C" } : Jvm.MethodName) jdk_43_method_2_code (2 : Nat) (Option.some Jvm.ClassFile.FieldType.char)).before args0 about1 = true := code_word (m := ⟨9, 1⟩) (meth := k9m1) (c := k9c1) (by decide +kernel) rfl rfl rfl (by decide +kernel)
set_option maxRecDepth 65536 in
theorem w_c30 : (Jvm.Cond.code ({ cls := "java/lang/String", name := "checkIndex", desc := "(II)V" } : Jvm.MethodName) jdk_42_method_155_code (2 : Nat) (Option.none : Option Jvm.ClassFile.FieldType)).before args0 about1 = true := code_word (m := ⟨7, 9⟩) (meth := k7m9) (c := k7c9) (by decide +kernel) rfl rfl rfl (by decide +kernel)
set_option maxRecDepth 65536 in
theorem w_c31 : (Jvm.Cond.code ({ cls := "java/util/ArrayList", name := "size", desc := "()I" } : Jvm.MethodName) jdk_38_method_8_code (1 : Nat) (Option.some Jvm.ClassFile.FieldType.int)).before args0 about1 = true := code_word (m := ⟨18, 3⟩) (meth := k18m3) (c := k18c3) (by decide +kernel) rfl rfl rfl (by decide +kernel)
def codes1 : List Jvm.Cond := [Jvm.Cond.code x code maxLocals ret, Jvm.Cond.code ({ cls := "java/lang/String", name := "<init>", desc := "([C)V" } : Jvm.MethodName) jdk_42_method_3_code (2 : Nat) (Option.none : Option Jvm.ClassFile.FieldType), Jvm.Cond.code ({ cls := "java/lang/String", name := "<init>", desc := "([CIILjava/lang/Void;)V" } : Jvm.MethodName) jdk_42_method_149_code (6 : Nat) (Option.none : Option Jvm.ClassFile.FieldType), Jvm.Cond.code ({ cls := "java/lang/Object", name := "<init>", desc := "()V" } : Jvm.MethodName) object_method_1_code (1 : Nat) (Option.none : Option Jvm.ClassFile.FieldType), Jvm.Cond.code ({ cls := "java/lang/StringUTF16", name := "compress", desc := "([CII)[B" } : Jvm.MethodName) jdk_52_method_16_code (6 : Nat) (Option.some (Jvm.ClassFile.FieldType.array Jvm.ClassFile.FieldType.byte)), Jvm.Cond.code ({ cls := "java/lang/StringUTF16", name := "compress", desc := "([CI[BII)I" } : Jvm.MethodName) jdk_52_method_21_code (7 : Nat) (Option.some Jvm.ClassFile.FieldType.int), Jvm.Cond.code ({ cls := "java/lang/StringUTF16", name := "coderFromArrayLen", desc := "([BI)B" } : Jvm.MethodName) jdk_52_method_15_code (2 : Nat) (Option.some Jvm.ClassFile.FieldType.byte), Jvm.Cond.code ({ cls := "java/lang/String", name := "valueOf", desc := "(C)Ljava/lang/String;" } : Jvm.MethodName) jdk_42_method_139_code (1 : Nat) (Option.some (Jvm.ClassFile.FieldType.object "java/lang/String")), Jvm.Cond.code ({ cls := "java/lang/StringLatin1", name := "canEncode", desc := "(C)Z" } : Jvm.MethodName) jdk_43_method_3_code (1 : Nat) (Option.some Jvm.ClassFile.FieldType.boolean), Jvm.Cond.code ({ cls := "java/lang/StringLatin1", name := "toBytes", desc := "(C)[B" } : Jvm.MethodName) jdk_43_method_46_code (1 : Nat) (Option.some (Jvm.ClassFile.FieldType.array Jvm.ClassFile.FieldType.byte)), Jvm.Cond.code ({ cls := "java/lang/String", name := "<init>", desc := "([BB)V" } : Jvm.MethodName) jdk_42_method_151_code (3 : Nat) (Option.none : Option Jvm.ClassFile.FieldType), Jvm.Cond.code ({ cls := "java/util/ArrayList", name := "<init>", desc := "()V" } : Jvm.MethodName) jdk_38_method_2_code (1 : Nat) (Option.none : Option Jvm.ClassFile.FieldType), Jvm.Cond.code ({ cls := "java/util/AbstractList", name := "<init>", desc := "()V" } : Jvm.MethodName) jdk_39_method_1_code (1 : Nat) (Option.none : Option Jvm.ClassFile.FieldType), Jvm.Cond.code ({ cls := "java/util/AbstractCollection", name := "<init>", desc := "()V" } : Jvm.MethodName) jdk_22_method_1_code (1 : Nat) (Option.none : Option Jvm.ClassFile.FieldType), Jvm.Cond.code ({ cls := "java/util/ArrayList", name := "add", desc := "(Ljava/lang/Object;)Z" } : Jvm.MethodName) jdk_38_method_25_code (2 : Nat) (Option.some Jvm.ClassFile.FieldType.boolean), Jvm.Cond.code ({ cls := "java/util/ArrayList", name := "add", desc := "(Ljava/lang/Object;[Ljava/lang/Object;I)V" } : Jvm.MethodName) jdk_38_method_24_code (4 : Nat) (Option.none : Option Jvm.ClassFile.FieldType), Jvm.Cond.code ({ cls := "java/util/ArrayList", name := "grow", desc := "()[Ljava/lang/Object;" } : Jvm.MethodName) jdk_38_method_7_code (1 : Nat) (Option.some (Jvm.ClassFile.FieldType.array (Jvm.ClassFile.FieldType.object "java/lang/Object"))), Jvm.Cond.code ({ cls := "java/util/ArrayList", name := "grow", desc := "(I)[Ljava/lang/Object;" } : Jvm.MethodName) jdk_38_method_6_code (4 : Nat) (Option.some (Jvm.ClassFile.FieldType.array (Jvm.ClassFile.FieldType.object "java/lang/Object"))), Jvm.Cond.code ({ cls := "java/lang/Math", name := "max", desc := "(II)I" } : Jvm.MethodName) jdk_29_method_65_code (2 : Nat) (Option.some Jvm.ClassFile.FieldType.int), Jvm.Cond.code ({ cls := "com/example/admit/admit/command/Program", name := "<init>", desc := "(Ljava/util/List;)V" } : Jvm.MethodName) prog_6_method_1_code (2 : Nat) (Option.none : Option Jvm.ClassFile.FieldType), Jvm.Cond.code ({ cls := "com/example/admit/admit/command/Program", name := "name", desc := "()Ljava/lang/String;" } : Jvm.MethodName) prog_6_method_7_code (1 : Nat) (Option.some (Jvm.ClassFile.FieldType.object "java/lang/String")), Jvm.Cond.code ({ cls := "java/util/ArrayList", name := "get", desc := "(I)Ljava/lang/Object;" } : Jvm.MethodName) jdk_38_method_20_code (2 : Nat) (Option.some (Jvm.ClassFile.FieldType.object "java/lang/Object")), Jvm.Cond.code ({ cls := "java/util/Objects", name := "checkIndex", desc := "(II)I" } : Jvm.MethodName) jdk_31_method_17_code (2 : Nat) (Option.some Jvm.ClassFile.FieldType.int), Jvm.Cond.code ({ cls := "jdk/internal/util/Preconditions", name := "checkIndex", desc := "(IILjava/util/function/BiFunction;)I" } : Jvm.MethodName) jdk_41_method_11_code (3 : Nat) (Option.some Jvm.ClassFile.FieldType.int), Jvm.Cond.code ({ cls := "java/util/ArrayList", name := "elementData", desc := "(I)Ljava/lang/Object;" } : Jvm.MethodName) jdk_38_method_18_code (2 : Nat) (Option.some (Jvm.ClassFile.FieldType.object "java/lang/Object")), Jvm.Cond.code ({ cls := "java/lang/String", name := "length", desc := "()I" } : Jvm.MethodName) jdk_42_method_54_code (1 : Nat) (Option.some Jvm.ClassFile.FieldType.int), Jvm.Cond.code ({ cls := "java/lang/String", name := "coder", desc := "()B" } : Jvm.MethodName) jdk_42_method_152_code (1 : Nat) (Option.some Jvm.ClassFile.FieldType.byte), Jvm.Cond.code ({ cls := "java/lang/String", name := "charAt", desc := "(I)C" } : Jvm.MethodName) jdk_42_method_56_code (2 : Nat) (Option.some Jvm.ClassFile.FieldType.char), Jvm.Cond.code ({ cls := "java/lang/String", name := "isLatin1", desc := "()Z" } : Jvm.MethodName) jdk_42_method_154_code (1 : Nat) (Option.some Jvm.ClassFile.FieldType.boolean), Jvm.Cond.code ({ cls := "java/lang/StringLatin1", name := "charAt", desc := "([BI)C" } : Jvm.MethodName) jdk_43_method_2_code (2 : Nat) (Option.some Jvm.ClassFile.FieldType.char), Jvm.Cond.code ({ cls := "java/lang/String", name := "checkIndex", desc := "(II)V" } : Jvm.MethodName) jdk_42_method_155_code (2 : Nat) (Option.none : Option Jvm.ClassFile.FieldType), Jvm.Cond.code ({ cls := "java/util/ArrayList", name := "size", desc := "()I" } : Jvm.MethodName) jdk_38_method_8_code (1 : Nat) (Option.some Jvm.ClassFile.FieldType.int)]
set_option maxRecDepth 65536 in
theorem codes_eq : words1.filter isCode = codes1 := rfl
theorem w_codes : ∀ c ∈ words1.filter isCode, c.before args0 about1 = true := by
  rw [codes_eq]
  intro c hc
  simp only [codes1, List.mem_cons, List.not_mem_nil, or_false] at hc
  rcases hc with rfl | rfl | rfl | rfl | rfl | rfl | rfl | rfl | rfl | rfl | rfl | rfl | rfl | rfl | rfl | rfl | rfl | rfl | rfl | rfl | rfl | rfl | rfl | rfl | rfl | rfl | rfl | rfl | rfl | rfl | rfl | rfl
  · exact w_c0
  · exact w_c1
  · exact w_c2
  · exact w_c3
  · exact w_c4
  · exact w_c5
  · exact w_c6
  · exact w_c7
  · exact w_c8
  · exact w_c9
  · exact w_c10
  · exact w_c11
  · exact w_c12
  · exact w_c13
  · exact w_c14
  · exact w_c15
  · exact w_c16
  · exact w_c17
  · exact w_c18
  · exact w_c19
  · exact w_c20
  · exact w_c21
  · exact w_c22
  · exact w_c23
  · exact w_c24
  · exact w_c25
  · exact w_c26
  · exact w_c27
  · exact w_c28
  · exact w_c29
  · exact w_c30
  · exact w_c31
set_option maxRecDepth 65536 in
theorem w_t1 : (words1.take 24).all (fun c => isCode c || c.before args0 about1) = true := by decide +kernel
set_option maxRecDepth 65536 in
theorem w_t2 : ((words1.drop 24).take 24).all (fun c => isCode c || c.before args0 about1) = true := by decide +kernel
set_option maxRecDepth 65536 in
theorem w_t3 : (((words1.drop 24).drop 24).take 24).all (fun c => isCode c || c.before args0 about1) = true := by decide +kernel
set_option maxRecDepth 65536 in
theorem w_t4 : ((((words1.drop 24).drop 24).drop 24).take 24).all (fun c => isCode c || c.before args0 about1) = true := by decide +kernel
set_option maxRecDepth 65536 in
theorem w_t5 : (((((words1.drop 24).drop 24).drop 24).drop 24).take 24).all (fun c => isCode c || c.before args0 about1) = true := by decide +kernel
set_option maxRecDepth 65536 in
theorem w_t6 : ((((((words1.drop 24).drop 24).drop 24).drop 24).drop 24).take 24).all (fun c => isCode c || c.before args0 about1) = true := by decide +kernel
set_option maxRecDepth 65536 in
theorem w_t7 : (((((((words1.drop 24).drop 24).drop 24).drop 24).drop 24).drop 24).take 24).all (fun c => isCode c || c.before args0 about1) = true := by decide +kernel
set_option maxRecDepth 65536 in
theorem w_t8 : (((((((words1.drop 24).drop 24).drop 24).drop 24).drop 24).drop 24).drop 24).all (fun c => isCode c || c.before args0 about1) = true := by decide +kernel
theorem w_tables : (allAtoms (Jvm.Cond.code x code maxLocals ret :: tables_1)).before args0 about1 = true := by
  rw [allAtoms_all]
  show words1.all (fun c => c.before args0 about1) = true
  refine all_split ?_ w_codes
  rw [← List.take_append_drop 24 words1, List.all_append, w_t1, ← List.take_append_drop 24 (words1.drop 24), List.all_append, w_t2, ← List.take_append_drop 24 ((words1.drop 24).drop 24), List.all_append, w_t3, ← List.take_append_drop 24 (((words1.drop 24).drop 24).drop 24), List.all_append, w_t4, ← List.take_append_drop 24 ((((words1.drop 24).drop 24).drop 24).drop 24), List.all_append, w_t5, ← List.take_append_drop 24 (((((words1.drop 24).drop 24).drop 24).drop 24).drop 24), List.all_append, w_t6, ← List.take_append_drop 24 ((((((words1.drop 24).drop 24).drop 24).drop 24).drop 24).drop 24), List.all_append, w_t7, w_t8]
  rfl
set_option maxRecDepth 65536 in
theorem w_rest : rest_1_c.before args0 about1 = true := by decide +kernel
set_option maxRecDepth 65536 in
theorem w_case : (Jvm.Cond.and given_1 narrow_1).before args0 about1 = true := by decide +kernel
set_option maxRecDepth 65536 in
theorem w_consts : constsHeld consts_1 about1 := Jvm.Lit.constsHeldB_iff.mp (by decide +kernel)
theorem w_applies : (headSpec (Jvm.Cond.code x code maxLocals ret :: tables_1) room_1).applies x e0.platform about1 = true :=
  (Spec.applies_iff w_frames).mpr ⟨w_running, w_runnable, w_alone, w_named, w_hears, w_ripe, w_room, w_tables⟩
theorem atStart : AtStart classFile x code maxLocals ret World_1 tables_1 room_1 Calls_1 rest_1 Pre_1 launch0 p0 e0 about1 theMethod args0 below0 :=
  ⟨lists_1, trivial, launch0.admits_env _ _ _, launch0.least_env, fairChoices_fair.cas, fairChoices_fair.clock, w_frames, w_args, w_heap, w_applies, ⟨w_consts, trivial⟩, w_rest, w_case⟩
end start1
theorem witness_1 : WitnessClaimed_1 := ⟨start1.p0, start1.e0, start1.about1, start1.theMethod, start1.args0, start1.below0, start1.atStart⟩
end Jvm.Pilot.@@N@@
