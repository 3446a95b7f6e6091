import JvmDerived
import JvmDerived.Pilot.@@N@@Statement
import JvmDerived.Pilot.@@N@@Code
set_option linter.unusedVariables false
set_option linter.unusedSimpArgs false
@@BLOCK:TracedD.lean.txt@@
namespace Jvm.Pilot.@@N@@
open Jvm Jvm.ClassFile Sem Op Lib Jvm.Free Jvm.Stand Jvm.LawKit Jvm.RoadKit Bundle Jvm.Pilot.@@N@@.Jvm.D
theorem hwi {Z : State} {a0 : Array Value} (hw : ∀ d ∈ tables_1, d.before a0 Z = true) (i : Nat) {d : Jvm.Cond} (h : tables_1[i]? = some d) : d.before a0 Z = true := hw _ (List.mem_of_getElem? h)
section Own
variable {p : Program} {l : Launch} {e : Env} {R : Room} {s : State} {m : MethodId} {args : Array Value} {below : List Frame} {meth : Method} {c : Code} {T : State} {locs : List Loc} {cells slots : Nat} {Z : State} {a0 : Array Value} {h h' : Heap} {Q : Option Value → Heap → List Loc → Prop} {rc rs : Nat} {P : State → Outcome → Prop}
/-- from here the run comes to its end, and what it leaves is P -/
def Ends (p : Program) (e : Env) (below : List Frame) (P : State → Outcome → Prop) (T : State) (g : JFrame) : Prop :=
  ∃ s₂ o, Steps p.tables e below (T.setTop g) s₂ ∧ s₂.status = .running ∧ Ended s₂ below o ∧ P s₂ o
/-- the narrow end -/
def NP (s : State) (Q : Option Value → Heap → List Loc → Prop) (rc rs : Nat) : State → Outcome → Prop := fun s₂ o => ∃ v L, o = .returned v ∧ Q v s₂.heap L ∧ FrameEnd s o s₂ L rc rs
theorem go {T' : State} {g g' : JFrame} (f : ∀ t, Steps p.tables e below (T'.setTop g') t → Steps p.tables e below (T.setTop g) t) (k : Ends p e below P T' g') : Ends p e below P T g := by
  obtain ⟨s₂, o, h1, r⟩ := k
  exact ⟨s₂, o, f _ h1, r⟩
theorem goS {T' : State} {g g' : JFrame} (f : Steps p.tables e below (T.setTop g) (T'.setTop g')) (k : Ends p e below P T' g') : Ends p e below P T g := by
  obtain ⟨s₂, o, h1, r⟩ := k
  exact ⟨s₂, o, f.trans h1, r⟩
/-- the frame is left with v, and what stands then is P -/
def Lv (e : Env) (m : MethodId) (below : List Frame) (T : State) (v : Option Value) (P : State → Outcome → Prop) : Prop :=
  ∃ fs, (∀ (f : JFrame) (acts : List Action), f.method = m → f.locked = none → f.entered = [] → (doReturn e (T.setTop f) acts v).1 = T.setFrames fs) ∧ (T.setFrames fs).status = .running ∧ Ended (T.setFrames fs) below (.returned v) ∧ P (T.setFrames fs) (.returned v)
theorem lvN (X : Stand p l e R s m args below meth c T locs cells slots) (hlk : meth.locks = false) (eT : T.heap = h) {v : Option Value} (hv : meth.sig.returnType = none → v = none) (hq : Q v h locs) (hc : cells ≤ rc) (hs : slots ≤ rs) : Lv e m below T v (NP s Q rc rs) := by
  subst eT
  obtain ⟨fs, hr, hrun, hended, hW, hsame⟩ := X.leave (v := v) hv hlk
  exact ⟨fs, hr, hrun, hended, _, _, rfl, hq, ⟨_, rfl⟩, hW, hsame.mono hc hs⟩
theorem retI (X : Stand p l e R s m args below meth c T locs cells slots) (hx : p.tables.exec = Jvm.exec) {pc : Nat} {Ls : Array Slot} {z : Int32} {rest : List Value} (hret : meth.sig.returnType = some .int) (hd : decode c.code pc = .ok (.ireturn, 1)) {fs : List Frame}
    (hl : ∀ (f : JFrame) (acts : List Action), f.method = m → f.locked = none → f.entered = [] → (doReturn e (T.setTop f) acts (some (.int z))).1 = T.setFrames fs) : Steps p.tables e below (T.setTop (mkF m pc Ls (.int z :: rest))) (T.setFrames fs) := by
  have hm' : T.vm.method? m = some meth := X.method'
  have hn : narrow .int (.int z) = .int z := rfl
  show Steps p.tables e below (T.setTop { method := m, pc := pc, locals := Ls, stack := _ :: rest, locked := none }) _
  jvm_step X.here [X.here.top, hx, hd, hm', hret, hn]
  first | (intro acts; rw [hl _ acts rfl rfl rfl]) | rw [hl _ _ rfl rfl rfl]
  exact Steps.refl _
theorem endI (X : Stand p l e R s m args below meth c T locs cells slots) (hx : p.tables.exec = Jvm.exec) {pc : Nat} {Ls : Array Slot} {z : Int32} {rest : List Value} (hret : meth.sig.returnType = some .int) (hd : decode c.code pc = .ok (.ireturn, 1)) (hL : Lv e m below T (some (.int z)) P) :
    Ends p e below P T (mkF m pc Ls (.int z :: rest)) := by
  obtain ⟨fs, hr, hrun, hended, hp⟩ := hL
  exact ⟨_, _, retI X hx hret hd hr, hrun, hended, hp⟩
/-- a boolean, byte, char or short: what is returned is narrowed -/
theorem endN (X : Stand p l e R s m args below meth c T locs cells slots) (hx : p.tables.exec = Jvm.exec) {pc : Nat} {Ls : Array Slot} {z : Int32} {t : FieldType} {rest : List Value} (hret : meth.sig.returnType = some t) (ht : t = .boolean ∨ t = .byte ∨ t = .char ∨ t = .short) (hd : decode c.code pc = .ok (.ireturn, 1)) (hL : Lv e m below T (some (.int (nar t z))) P) :
    Ends p e below P T (mkF m pc Ls (.int z :: rest)) := by
  obtain ⟨fs, hr, hrun, hended, hp⟩ := hL
  exact ⟨_, _, retN X hx hret ht hd hr, hrun, hended, hp⟩
theorem endA (X : Stand p l e R s m args below meth c T locs cells slots) (hx : p.tables.exec = Jvm.exec) {pc : Nat} {Ls : Array Slot} {w : Value} {t : FieldType} {rest : List Value} (hret : meth.sig.returnType = some t) (ht : t.isReference = true) (hw : w.isRef = true) (hd : decode c.code pc = .ok (.areturn, 1)) (hL : Lv e m below T (some w) P) :
    Ends p e below P T (mkF m pc Ls (w :: rest)) := by
  obtain ⟨fs, hr, hrun, hended, hp⟩ := hL
  have hn : narrow t w = w := by rcases ref_cases hw with rfl | ⟨b, rfl⟩ <;> cases t <;> rfl
  exact ⟨_, _, retOut X hx hret hn (Or.inr (Or.inr (Or.inr (Or.inr ⟨rfl, ht, hw⟩)))) hd hr, hrun, hended, hp⟩
theorem endJ (X : Stand p l e R s m args below meth c T locs cells slots) (hx : p.tables.exec = Jvm.exec) {pc : Nat} {Ls : Array Slot} {z : Int64} {rest : List Value} (hret : meth.sig.returnType = some .long) (hd : decode c.code pc = .ok (.lreturn, 1)) (hL : Lv e m below T (some (.long z)) P) :
    Ends p e below P T (mkF m pc Ls (.long z :: rest)) := by
  obtain ⟨fs, hr, hrun, hended, hp⟩ := hL
  exact ⟨_, _, retOut X hx hret rfl (Or.inr (Or.inl ⟨rfl, rfl, z, rfl⟩)) hd hr, hrun, hended, hp⟩
theorem endV (X : Stand p l e R s m args below meth c T locs cells slots) (hx : p.tables.exec = Jvm.exec) {pc : Nat} {Ls : Array Slot} (hret : meth.sig.returnType = none) (hd : decode c.code pc = .ok (.return_, 1)) (hL : Lv e m below T none P) :
    Ends p e below P T (mkF m pc Ls []) := by
  obtain ⟨fs, hr, hrun, hended, hp⟩ := hL
  exact ⟨_, _, X.returnOut hx hret hd hr, hrun, hended, hp⟩
/-- a method's contract, at one heap and one list of arguments -/
def Con (l : Launch) (y : MethodName) (bytes : ByteArray) (maxL : Nat) (ret : Option FieldType) (rm : Room) (Z : State) (as' : Array Value) (h0 : Heap) (Q : Option Value → Heap → List Loc → Prop) : Prop :=
  ∀ ws, MetFree l y (head1 (Jvm.Cond.code y bytes maxL ret :: ws) rm) (fun a U => a = as' ∧ Z.Warmed39 U.vm ∧ U.heap = h0) (fun _ _ bl s _ => s.vm.MethodsKnown ∧ s.vm.FramesKnown bl) (fun _ U o U' => ∃ v L, o = .returned v ∧ Q v U'.heap L ∧ FrameEnd U o U' L rm.cells rm.slots)
theorem efOf {m : MethodId} {args : Array Value} {n : Nat} {Ls : Array Slot} (h : Jvm.Sym.laidSlots args.toList ++ List.replicate (n - (Jvm.Sym.laidSlots args.toList).length) .unset = Ls.toList) : entryFrame m args n = mkF m 0 Ls [] := by
  have q : argsToLocals args n = Ls := Array.toList_inj.mp (by rw [Jvm.Sym.argsToLocals_toList]; exact h)
  show mkF m 0 (argsToLocals args n) [] = _
  rw [q]
theorem Con.of {y : MethodName} {bytes : ByteArray} {maxL : Nat} {ret : Option FieldType} {rm : Room} {as' : Array Value} {h0 : Heap} (hp : plainFor y = true) {Ls : Array Slot} (hef : ∀ m, entryFrame m as' maxL = mkF m 0 Ls [])
    (body : ∀ {p : Program} {e : Env} {s : State} {m : MethodId} {below : List Frame} {meth : Method} {c : Code} {T : State}, Stand p l e rm s m as' below meth c T [] 0 0 → p.tables.exec = Jvm.exec → Z.Warmed39 s.vm → c.code = bytes → c.maxLocals = maxL → s.vm.findClass y.cls = some m.cls → meth.name = y.name → meth.sig.returnType = ret → meth.locks = false → T.heap = h0 → s.heap = h0 → s.vm.MethodsKnown → s.vm.FramesKnown below → Ends p e below (NP s Q rm.cells rm.slots) T (mkF m 0 Ls [])) :
    Con l y bytes maxL ret rm Z as' h0 Q := by
  intro ws
  refine MetFree.of_bodySF hp hisR ?_
  intro p e s m args below meth c s₁ Bd hml0 hP hK
  obtain ⟨rfl, hZ, hh⟩ := hP
  have X0 : Stand p l e rm s m _ below meth c s₁ [] 0 0 := Stand.of_body Bd
  have e0 : s₁.heap = h0 := by rw [← hh, Bd.state]; rfl
  obtain ⟨s₂, o, h1, r⟩ := body X0 Bd.exec hZ Bd.bytes hml0 (findClass_of_methodNamed Bd.named) (name_of_methodNamed Bd.named Bd.method).1 Bd.returns Bd.notSynchronized e0 hh hK.1 hK.2
  exact ⟨s₂, o, castTop (hef m) h1, r⟩
theorem cStat {own : String} {index : Nat} {y : MethodName} {bytes : ByteArray} {maxL : Nat} {ret : Option FieldType} {rm : Room} {Q' : Option Value → Heap → List Loc → Prop} {pc : Nat} {Ls : Array Slot} {st : List Value}
    (X : Stand p l e R s m args below meth c T locs cells slots) (hx : p.tables.exec = Jvm.exec) (hZ : Z.Warmed39 s.vm) (hown : s.vm.findClass own = some m.cls) (hml : Ls.size = c.maxLocals) (eT : T.heap = h) (hTK : s.vm.MethodsKnown) (hBelow : s.vm.FramesKnown below)
    (w1 : (Cond.methodLink own index y).before a0 Z = true) (w2 : (Cond.static y).before a0 Z = true) (w3 : (Cond.initialized y.cls).before a0 Z = true) (w4 : (Cond.code y bytes maxL ret).before a0 Z = true)
    (argsL rest : List Value) {as' : Array Value} (has : argsL.toArray = as') (hM : Con l y bytes maxL ret rm Z as' h Q') (hd : decode c.code pc = .ok (.invokestatic index, 3)) (hst : st = argsL.reverse ++ rest)
    (hlen : ∀ sig, parseMethodDescriptor y.desc = some sig → argsL.length = sig.parameters.length) (hy : y.cls ≠ "java/lang/invoke/MethodHandle" ∧ y.cls ≠ "java/lang/invoke/VarHandle")
    (hf : rm.frames + 1 ≤ R.frames) (hl : (rest.map fun v => v.category).sum + (maxL + 11) + rm.locals ≤ R.locals) (hc : cells + rm.cells ≤ R.cells) (hs : slots + rm.slots ≤ R.slots)
    (k : ∀ v T' h' L, Stand p l e R s m args below meth c T' (locs ++ L) (cells + rm.cells) (slots + rm.slots) → T'.heap = h' → Q' v h' L → Ends p e below P T' (mkF m (pc + 3) Ls (v.toList ++ rest))) :
    Ends p e below P T (mkF m pc Ls st) := by
  subst has
  obtain ⟨v, _, ⟨T', L', k', n'⟩, -, X', ⟨Lc, hQ, e1, e2, e3⟩, stp⟩ := Jvm.LawKit.callS X hx (y := y) hown (mvT hZ w1) (mvT hZ w2) (mvT hZ w3) (mvT hZ w4) hy (backOfKL (W := (rest.map fun v => v.category).sum) (hM []) hZ w4 w3 hf hl hTK hBelow) (g := mkF m pc Ls st) rfl hml (argsL := argsL) (rest := rest) hlen hst (by show 2 * 0 + _ ≤ _; omega) hd (fun _ _ => ⟨rfl, eT, hc, hs⟩)
  dsimp only [Pt.U, Pt.locs, Pt.cells, Pt.slots] at X' e1 e2 e3 stp hQ
  subst e1 e2 e3
  exact go stp (k v T' _ Lc X' rfl hQ)
theorem cInit {own : String} {index : Nat} {y : MethodName} {bytes : ByteArray} {maxL : Nat} {rm : Room} {Q' : Option Value → Heap → List Loc → Prop} {pc : Nat} {Ls : Array Slot} {st : List Value}
    (X : Stand p l e R s m args below meth c T locs cells slots) (hx : p.tables.exec = Jvm.exec) (hZ : Z.Warmed39 s.vm) (hown : s.vm.findClass own = some m.cls) (hml : Ls.size = c.maxLocals) (eT : T.heap = h) (hTK : s.vm.MethodsKnown) (hBelow : s.vm.FramesKnown below)
    (w1 : (Cond.methodLink own index y).before a0 Z = true) (w2 : (Cond.instanceMethod y).before a0 Z = true) (w3 : (Cond.initialized y.cls).before a0 Z = true) (w4 : (Cond.code y bytes maxL none).before a0 Z = true)
    (a : Addr) (argsL rest : List Value) {as' : Array Value} (has : (.ref a :: argsL).toArray = as') (hM : Con l y bytes maxL none rm Z as' h Q') (hd : decode c.code pc = .ok (.invokespecial index, 3)) (hst : st = argsL.reverse ++ .ref a :: rest)
    (hlen : ∀ sig, parseMethodDescriptor y.desc = some sig → argsL.length = sig.parameters.length) (hy1 : y.name = "<init>") (hy : y.cls ≠ "java/lang/invoke/MethodHandle" ∧ y.cls ≠ "java/lang/invoke/VarHandle")
    (hf : rm.frames + 1 ≤ R.frames) (hl : (rest.map fun v => v.category).sum + (maxL + 11) + rm.locals ≤ R.locals) (hc : cells + rm.cells ≤ R.cells) (hs : slots + rm.slots ≤ R.slots)
    (k : ∀ v T' h' L, Stand p l e R s m args below meth c T' (locs ++ L) (cells + rm.cells) (slots + rm.slots) → T'.heap = h' → Q' v h' L → Ends p e below P T' (mkF m (pc + 3) Ls (v.toList ++ rest))) :
    Ends p e below P T (mkF m pc Ls st) := by
  subst has
  obtain ⟨v, _, ⟨T', L', k', n'⟩, -, X', ⟨Lc, hQ, e1, e2, e3⟩, stp⟩ := X.specialBack hx (y := y) hy1 hown (mvT hZ w1) (mvT hZ w2) (mvT hZ w4) hy (backOfKL (W := (rest.map fun v => v.category).sum) (hM []) hZ w4 w3 hf hl hTK hBelow) (g := mkF m pc Ls st) rfl hml (Steps.refl _) (a := a) (argsL := argsL) (rest := rest) hlen hst (by show 2 * 0 + _ ≤ _; omega) hd (fun _ _ => ⟨rfl, eT, hc, hs⟩)
  dsimp only [Pt.U, Pt.locs, Pt.cells, Pt.slots] at X' e1 e2 e3 stp hQ
  subst e1 e2 e3
  exact goS stp (k v T' _ Lc X' rfl hQ)
theorem own_mvN {own host : String} {index : Nat} {y : MethodName} (hZ : Z.Warmed39 s.vm) (w : (Cond.methodLinkNest own index y host).before a0 Z = true) : (Cond.methodLinkNest own index y host).before args s = true := (Cond.methodLinkNest_wide hZ w :)
theorem cInitN {own host : String} {index : Nat} {y : MethodName} {bytes : ByteArray} {maxL : Nat} {rm : Room} {Q' : Option Value → Heap → List Loc → Prop} {pc : Nat} {Ls : Array Slot} {st : List Value}
    (X : Stand p l e R s m args below meth c T locs cells slots) (hx : p.tables.exec = Jvm.exec) (hZ : Z.Warmed39 s.vm) (hown : s.vm.findClass own = some m.cls) (hml : Ls.size = c.maxLocals) (eT : T.heap = h) (hTK : s.vm.MethodsKnown) (hBelow : s.vm.FramesKnown below)
    (w1 : (Cond.methodLinkNest own index y host).before a0 Z = true) (w2 : (Cond.instanceMethod y).before a0 Z = true) (w3 : (Cond.initialized y.cls).before a0 Z = true) (w4 : (Cond.code y bytes maxL none).before a0 Z = true)
    (a : Addr) (argsL rest : List Value) {as' : Array Value} (has : (.ref a :: argsL).toArray = as') (hM : Con l y bytes maxL none rm Z as' h Q') (hd : decode c.code pc = .ok (.invokespecial index, 3)) (hst : st = argsL.reverse ++ .ref a :: rest)
    (hlen : ∀ sig, parseMethodDescriptor y.desc = some sig → argsL.length = sig.parameters.length) (hy1 : y.name = "<init>") (hy : y.cls ≠ "java/lang/invoke/MethodHandle" ∧ y.cls ≠ "java/lang/invoke/VarHandle")
    (hf : rm.frames + 1 ≤ R.frames) (hl : (rest.map fun v => v.category).sum + (maxL + 11) + rm.locals ≤ R.locals) (hc : cells + rm.cells ≤ R.cells) (hs : slots + rm.slots ≤ R.slots)
    (k : ∀ v T' h' L, Stand p l e R s m args below meth c T' (locs ++ L) (cells + rm.cells) (slots + rm.slots) → T'.heap = h' → Q' v h' L → Ends p e below P T' (mkF m (pc + 3) Ls (v.toList ++ rest))) :
    Ends p e below P T (mkF m pc Ls st) := by
  subst has
  obtain ⟨v, _, ⟨T', L', k', n'⟩, -, X', ⟨Lc, hQ, e1, e2, e3⟩, stp⟩ := X.specialBackNest hx (y := y) hy1 hown (own_mvN hZ w1) (mvT hZ w2) (mvT hZ w4) hy (backOfKL (W := (rest.map fun v => v.category).sum) (hM []) hZ w4 w3 hf hl hTK hBelow) (g := mkF m pc Ls st) rfl hml (Steps.refl _) (a := a) (argsL := argsL) (rest := rest) hlen hst (by show 2 * 0 + _ ≤ _; omega) hd (fun _ _ => ⟨rfl, eT, hc, hs⟩)
  dsimp only [Pt.U, Pt.locs, Pt.cells, Pt.slots] at X' e1 e2 e3 stp hQ
  subst e1 e2 e3
  exact goS stp (k v T' _ Lc X' rfl hQ)
theorem cVirt {own K : String} {index : Nat} {y z : MethodName} {bytes : ByteArray} {maxL : Nat} {ret : Option FieldType} {rm : Room} {Q' : Option Value → Heap → List Loc → Prop} {pc : Nat} {Ls : Array Slot} {st : List Value}
    (X : Stand p l e R s m args below meth c T locs cells slots) (hx : p.tables.exec = Jvm.exec) (hZ : Z.Warmed39 s.vm) (hown : s.vm.findClass own = some m.cls) (hml : Ls.size = c.maxLocals) (eT : T.heap = h) (hTK : s.vm.MethodsKnown) (hBelow : s.vm.FramesKnown below)
    (w1 : (Cond.methodLink own index y).before a0 Z = true) (w2 : (Cond.declares y).before a0 Z = true) (w3 : (Cond.selects K y z).before a0 Z = true) (w4 : (Cond.instanceMethod z).before a0 Z = true) (w5 : (Cond.initialized z.cls).before a0 Z = true) (w6 : (Cond.code z bytes maxL ret).before a0 Z = true) (hnf : NotFace s y)
    (a : Addr) (E : Exa Z h a K) (argsL rest : List Value) {as' : Array Value} (has : (.ref a :: argsL).toArray = as') (hM : Con l z bytes maxL ret rm Z as' h Q') (hd : decode c.code pc = .ok (.invokevirtual index, 3)) (hst : st = argsL.reverse ++ .ref a :: rest)
    (hlen : ∀ sig, parseMethodDescriptor y.desc = some sig → argsL.length = sig.parameters.length) (hy : y.cls ≠ "java/lang/invoke/MethodHandle" ∧ y.cls ≠ "java/lang/invoke/VarHandle")
    (hf : rm.frames + 1 ≤ R.frames) (hl : (rest.map fun v => v.category).sum + (maxL + 11) + rm.locals ≤ R.locals) (hc : cells + rm.cells ≤ R.cells) (hs : slots + rm.slots ≤ R.slots)
    (k : ∀ v T' h' L, Stand p l e R s m args below meth c T' (locs ++ L) (cells + rm.cells) (slots + rm.slots) → T'.heap = h' → Q' v h' L → Ends p e below P T' (mkF m (pc + 3) Ls (v.toList ++ rest))) :
    Ends p e below P T (mkF m pc Ls st) := by
  subst has
  obtain ⟨cq, kq, qa, qb, qc⟩ := isOf hZ eT E
  obtain ⟨v, _, ⟨T', L', k', n'⟩, -, X', ⟨Lc, hQ, e1, e2, e3⟩, stp⟩ := X.virtualBack hx (y := y) (z := z) hown (mvT hZ w1) (mvT hZ w2) hnf (mvT hZ w3) (mvT hZ w4) hy (backOfKL (W := (rest.map fun v => v.category).sum) (hM []) hZ w6 w5 hf hl hTK hBelow) qa qc (g := mkF m pc Ls st) rfl hml (Steps.refl _) (argsL := argsL) (rest := rest) hlen hst (by show 2 * 0 + _ ≤ _; omega) hd (fun _ _ => ⟨rfl, eT, hc, hs⟩)
  dsimp only [Pt.U, Pt.locs, Pt.cells, Pt.slots] at X' e1 e2 e3 stp hQ
  subst e1 e2 e3
  exact goS stp (k v T' _ Lc X' rfl hQ)
theorem cUp {own K owner : String} {index : Nat} {y z : MethodName} {bytes : ByteArray} {maxL : Nat} {ret : Option FieldType} {rm : Room} {Q' : Option Value → Heap → List Loc → Prop} {pc : Nat} {Ls : Array Slot} {st : List Value}
    (X : Stand p l e R s m args below meth c T locs cells slots) (hx : p.tables.exec = Jvm.exec) (hZ : Z.Warmed39 s.vm) (hown : s.vm.findClass own = some m.cls) (hml : Ls.size = c.maxLocals) (eT : T.heap = h) (hTK : s.vm.MethodsKnown) (hBelow : s.vm.FramesKnown below)
    (w1 : (Cond.methodLink own index y).before a0 Z = true) (w2 : (Cond.sameMethod y.cls owner y.name y.desc).before a0 Z = true) (w2d : (Cond.declares ⟨owner, y.name, y.desc⟩).before a0 Z = true) (w3 : (Cond.selects K y z).before a0 Z = true) (w4 : (Cond.instanceMethod z).before a0 Z = true) (w5 : (Cond.initialized z.cls).before a0 Z = true) (w6 : (Cond.code z bytes maxL ret).before a0 Z = true)
    (a : Addr) (E : Exa Z h a K) (argsL rest : List Value) {as' : Array Value} (has : (.ref a :: argsL).toArray = as') (hM : Con l z bytes maxL ret rm Z as' h Q') (hd : decode c.code pc = .ok (.invokevirtual index, 3)) (hst : st = argsL.reverse ++ .ref a :: rest)
    (hlen : ∀ sig, parseMethodDescriptor y.desc = some sig → argsL.length = sig.parameters.length) (hy : owner ≠ "java/lang/invoke/MethodHandle" ∧ owner ≠ "java/lang/invoke/VarHandle")
    (hf : rm.frames + 1 ≤ R.frames) (hl : (rest.map fun v => v.category).sum + (maxL + 11) + rm.locals ≤ R.locals) (hc : cells + rm.cells ≤ R.cells) (hs : slots + rm.slots ≤ R.slots)
    (k : ∀ v T' h' L, Stand p l e R s m args below meth c T' (locs ++ L) (cells + rm.cells) (slots + rm.slots) → T'.heap = h' → Q' v h' L → Ends p e below P T' (mkF m (pc + 3) Ls (v.toList ++ rest))) :
    Ends p e below P T (mkF m pc Ls st) := by
  subst has
  obtain ⟨cq, kq, qa, qb, qc⟩ := isOf hZ eT E
  obtain ⟨v, _, ⟨T', L', k', n'⟩, -, X', ⟨Lc, hQ, e1, e2, e3⟩, stp⟩ := X.virtualBackUp hx (x := y) (y := z) hown (mvT hZ w1) (mvT hZ w2) (mvT hZ w2d) hy (mvT hZ w3) (mvT hZ w4) (backOfKL (W := (rest.map fun v => v.category).sum) (hM []) hZ w6 w5 hf hl hTK hBelow) qa qc (g := mkF m pc Ls st) rfl hml (Steps.refl _) (argsL := argsL) (rest := rest) hlen hst (by show 2 * 0 + _ ≤ _; omega) hd (fun _ _ => ⟨rfl, eT, hc, hs⟩)
  dsimp only [Pt.U, Pt.locs, Pt.cells, Pt.slots] at X' e1 e2 e3 stp hQ
  subst e1 e2 e3
  exact goS stp (k v T' _ Lc X' rfl hQ)
theorem cFace {own K : String} {index count : Nat} {y z : MethodName} {bytes : ByteArray} {maxL : Nat} {ret : Option FieldType} {rm : Room} {Q' : Option Value → Heap → List Loc → Prop} {pc : Nat} {Ls : Array Slot} {st : List Value}
    (X : Stand p l e R s m args below meth c T locs cells slots) (hx : p.tables.exec = Jvm.exec) (hZ : Z.Warmed39 s.vm) (hown : s.vm.findClass own = some m.cls) (hml : Ls.size = c.maxLocals) (eT : T.heap = h) (hTK : s.vm.MethodsKnown) (hBelow : s.vm.FramesKnown below)
    (w1 : (Cond.methodLink own index y).before a0 Z = true) (w2 : (Cond.declares y).before a0 Z = true) (wf : (Cond.interfaceMethod y.cls y.cls y.name y.desc).before args s = true) (w3 : (Cond.selects K y z).before a0 Z = true) (w4 : (Cond.instanceMethod z).before a0 Z = true) (wp : (Cond.publicMethod z).before a0 Z = true) (wu : (Cond.unhidden K y.name y.desc).before args s = true) (wc : (Cond.castable K y.cls).before a0 Z = true) (w5 : (Cond.initialized z.cls).before a0 Z = true) (w6 : (Cond.code z bytes maxL ret).before a0 Z = true)
    (a : Addr) (E : Exa Z h a K) (argsL rest : List Value) {as' : Array Value} (has : (.ref a :: argsL).toArray = as') (hM : Con l z bytes maxL ret rm Z as' h Q') (hd : decode c.code pc = .ok (.invokeinterface index count, 5)) (hst : st = argsL.reverse ++ .ref a :: rest)
    (hlen : ∀ sig, parseMethodDescriptor y.desc = some sig → argsL.length = sig.parameters.length) (hy : y.cls ≠ "java/lang/invoke/MethodHandle" ∧ y.cls ≠ "java/lang/invoke/VarHandle")
    (hf : rm.frames + 1 ≤ R.frames) (hl : (rest.map fun v => v.category).sum + (maxL + 11) + rm.locals ≤ R.locals) (hc : cells + rm.cells ≤ R.cells) (hs : slots + rm.slots ≤ R.slots)
    (k : ∀ v T' h' L, Stand p l e R s m args below meth c T' (locs ++ L) (cells + rm.cells) (slots + rm.slots) → T'.heap = h' → Q' v h' L → Ends p e below P T' (mkF m (pc + 5) Ls (v.toList ++ rest))) :
    Ends p e below P T (mkF m pc Ls st) := by
  subst has
  obtain ⟨cq, kq, qa, qb, qc⟩ := isOf hZ eT E
  obtain ⟨v, _, ⟨T', L', k', n'⟩, -, X', ⟨Lc, hQ, e1, e2, e3⟩, stp⟩ := X.interfaceBack hx (xi := y) (y := z) hown (mvT hZ w1) (mvT hZ w2) wf (mvT hZ w3) (mvT hZ w4) (mvT hZ wp) wu (mvT hZ wc) hy (backOfKL (W := (rest.map fun v => v.category).sum) (hM []) hZ w6 w5 hf hl hTK hBelow) qa qb qc (g := mkF m pc Ls st) rfl hml (Steps.refl _) (argsL := argsL) (rest := rest) hlen hst (by show 2 * 0 + _ ≤ _; omega) hd (fun _ _ => ⟨rfl, eT, hc, hs⟩)
  dsimp only [Pt.U, Pt.locs, Pt.cells, Pt.slots] at X' e1 e2 e3 stp hQ
  subst e1 e2 e3
  exact goS stp (k v T' _ Lc X' rfl hQ)
theorem cPriv {own K : String} {index nn : Nat} {y : MethodName} {bytes : ByteArray} {maxL : Nat} {ret : Option FieldType} {rm : Room} {Q' : Option Value → Heap → List Loc → Prop} {pc : Nat} {Ls : Array Slot} {st : List Value}
    (X : Stand p l e R s m args below meth c T locs cells slots) (hx : p.tables.exec = Jvm.exec) (hZ : Z.Warmed39 s.vm) (hown : s.vm.findClass own = some m.cls) (hml : Ls.size = c.maxLocals) (eT : T.heap = h) (hTK : s.vm.MethodsKnown) (hBelow : s.vm.FramesKnown below)
    (w1 : (Cond.methodLink own index y).before a0 Z = true) (w2 : (Cond.instanceMethod y).before a0 Z = true) (w3 : (Cond.privateMethod y).before a0 Z = true) (w4 : (Cond.instantiable y.cls nn).before a0 Z = true) (w5 : (Cond.initialized y.cls).before a0 Z = true) (w6 : (Cond.code y bytes maxL ret).before a0 Z = true)
    (a : Addr) (E : Exa Z h a K) (argsL rest : List Value) {as' : Array Value} (has : (.ref a :: argsL).toArray = as') (hM : Con l y bytes maxL ret rm Z as' h Q') (hd : decode c.code pc = .ok (.invokevirtual index, 3)) (hst : st = argsL.reverse ++ .ref a :: rest)
    (hlen : ∀ sig, parseMethodDescriptor y.desc = some sig → argsL.length = sig.parameters.length) (hy : y.cls ≠ "java/lang/invoke/MethodHandle" ∧ y.cls ≠ "java/lang/invoke/VarHandle")
    (hf : rm.frames + 1 ≤ R.frames) (hl : (rest.map fun v => v.category).sum + (maxL + 11) + rm.locals ≤ R.locals) (hc : cells + rm.cells ≤ R.cells) (hs : slots + rm.slots ≤ R.slots)
    (k : ∀ v T' h' L, Stand p l e R s m args below meth c T' (locs ++ L) (cells + rm.cells) (slots + rm.slots) → T'.heap = h' → Q' v h' L → Ends p e below P T' (mkF m (pc + 3) Ls (v.toList ++ rest))) :
    Ends p e below P T (mkF m pc Ls st) := by
  subst has
  obtain ⟨cell, q1, q2⟩ := E.cell
  have hpr := Cond.privateMethod_at (mvP hZ w3 (args := #[]))
  obtain ⟨cc, kc, i1, i2, -, i4, -⟩ := Cond.instantiable_spec (mvT (args := args) hZ w4)
  have hni : kc.isInterface = false := by
    cases hq : kc.isInterface with
    | false => rfl
    | true => rw [hq] at i4; simp at i4
  have hsel := Jvm.Stand.selects_self_of_private (args := args) i1 i2 hni hpr (mvT hZ w2) hy
  obtain ⟨v, _, ⟨T', L', k', n'⟩, -, X', ⟨Lc, hQ, e1, e2, e3⟩, stp⟩ := X.privateBack hx (y := y) hown (mvT hZ w1) (mvT hZ w2) hsel hpr (mvT hZ w6) hy (backOfKL (W := (rest.map fun v => v.category).sum) (hM []) hZ w6 w5 hf hl hTK hBelow) (g := mkF m pc Ls st) rfl hml (Steps.refl _) (a := a) (by rw [eT]; exact q1) q2 (argsL := argsL) (rest := rest) hlen hst (by show 2 * 0 + _ ≤ _; omega) hd (fun _ _ => ⟨rfl, eT, hc, hs⟩)
  dsimp only [Pt.U, Pt.locs, Pt.cells, Pt.slots] at X' e1 e2 e3 stp hQ
  subst e1 e2 e3
  exact goS stp (k v T' _ Lc X' rfl hQ)
theorem xx (O : Ext Z.heap h) (E : Ext h h') : Ext Z.heap h' := ⟨Nat.le_trans O.1 E.1, fun a c q => E.2 _ _ (O.2 _ _ q)⟩
theorem xk {ws : List Addr} (O : Ext Z.heap h) (K : Keep h h' ws) (q : ∀ x ∈ ws, Z.heap.size ≤ x) : Ext Z.heap h' := (Old.keep ⟨rfl, O⟩ K q).2
theorem xw {a : Addr} {sl : Nat} {v : Value} (O : Ext Z.heap h) (W : Wr h h' a sl v) (q : Z.heap.size ≤ a) : Ext Z.heap h' := (Old.wr ⟨rfl, O⟩ W q).2
theorem ke (E : Ext h h') : Keep h h' [] := (Keep.refl h []).ext E
theorem ek (K : Keep h h' []) : Ext h h' := ⟨K.1, fun a c q => K.2.1 a c q nin0⟩
end Own
theorem pn_0 : plainName "java/lang/StringLatin1" = true := by first | (simp [plainName, overriddenIn]; done) | decide +kernel
theorem d0_0 : decode jdk_43_method_3_code 0 = .ok (.iload_n 0, 1) := by decide +kernel
theorem d0_1 : decode jdk_43_method_3_code 1 = .ok (.sipush 255, 3) := by decide +kernel
theorem d0_4 : decode jdk_43_method_3_code 4 = .ok (.if_icmp .gt 7, 3) := by decide +kernel
theorem d0_7 : decode jdk_43_method_3_code 7 = .ok (.iconst 1, 1) := by decide +kernel
theorem d0_8 : decode jdk_43_method_3_code 8 = .ok (.goto 4, 3) := by decide +kernel
theorem d0_12 : decode jdk_43_method_3_code 12 = .ok (.ireturn, 1) := by decide +kernel
theorem d1_0 : decode jdk_43_method_46_code 0 = .ok (.iconst 1, 1) := by decide +kernel
theorem d1_1 : decode jdk_43_method_46_code 1 = .ok (.newarray .byte, 2) := by decide +kernel
theorem d1_3 : decode jdk_43_method_46_code 3 = .ok (.dup, 1) := by decide +kernel
theorem d1_4 : decode jdk_43_method_46_code 4 = .ok (.iconst 0, 1) := by decide +kernel
theorem d1_5 : decode jdk_43_method_46_code 5 = .ok (.iload_n 0, 1) := by decide +kernel
theorem d1_6 : decode jdk_43_method_46_code 6 = .ok (.i2b, 1) := by decide +kernel
theorem d1_7 : decode jdk_43_method_46_code 7 = .ok (.bastore, 1) := by decide +kernel
theorem d1_8 : decode jdk_43_method_46_code 8 = .ok (.areturn, 1) := by decide +kernel
theorem pn_1 : plainName "java/lang/String" = true := by first | (simp [plainName, overriddenIn]; done) | decide +kernel
theorem d2_0 : decode jdk_42_method_151_code 0 = .ok (.aload_n 0, 1) := by decide +kernel
theorem d2_1 : decode jdk_42_method_151_code 1 = .ok (.invokespecial 1, 3) := by decide +kernel
theorem d2_4 : decode jdk_42_method_151_code 4 = .ok (.aload_n 0, 1) := by decide +kernel
theorem d2_5 : decode jdk_42_method_151_code 5 = .ok (.aload_n 1, 1) := by decide +kernel
theorem d2_6 : decode jdk_42_method_151_code 6 = .ok (.putfield 9, 3) := by decide +kernel
theorem d2_9 : decode jdk_42_method_151_code 9 = .ok (.aload_n 0, 1) := by decide +kernel
theorem d2_10 : decode jdk_42_method_151_code 10 = .ok (.iload_n 2, 1) := by decide +kernel
theorem d2_11 : decode jdk_42_method_151_code 11 = .ok (.putfield 15, 3) := by decide +kernel
theorem d2_14 : decode jdk_42_method_151_code 14 = .ok (.return_, 1) := by decide +kernel
theorem d3_0 : decode jdk_42_method_139_code 0 = .ok (.getstatic 38, 3) := by decide +kernel
theorem d3_3 : decode jdk_42_method_139_code 3 = .ok (.ifCond .eq 23, 3) := by decide +kernel
theorem d3_6 : decode jdk_42_method_139_code 6 = .ok (.iload_n 0, 1) := by decide +kernel
theorem d3_7 : decode jdk_42_method_139_code 7 = .ok (.invokestatic 1015, 3) := by decide +kernel
theorem pd_2 : parseMethodDescriptor "(C)Z" = some ⟨[.char], some .boolean⟩ := by decide +kernel
theorem d3_10 : decode jdk_42_method_139_code 10 = .ok (.ifCond .eq 16, 3) := by decide +kernel
theorem d3_13 : decode jdk_42_method_139_code 13 = .ok (.new 10, 3) := by decide +kernel
theorem d3_16 : decode jdk_42_method_139_code 16 = .ok (.dup, 1) := by decide +kernel
theorem d3_17 : decode jdk_42_method_139_code 17 = .ok (.iload_n 0, 1) := by decide +kernel
theorem d3_18 : decode jdk_42_method_139_code 18 = .ok (.invokestatic 1018, 3) := by decide +kernel
theorem pd_3 : parseMethodDescriptor "(C)[B" = some ⟨[.char], some (.array .byte)⟩ := by decide +kernel
theorem d3_21 : decode jdk_42_method_139_code 21 = .ok (.iconst 0, 1) := by decide +kernel
theorem d3_22 : decode jdk_42_method_139_code 22 = .ok (.invokespecial 209, 3) := by decide +kernel
theorem pd_4 : parseMethodDescriptor "([BB)V" = some ⟨[(.array .byte), .byte], none⟩ := by decide +kernel
theorem d3_25 : decode jdk_42_method_139_code 25 = .ok (.areturn, 1) := by decide +kernel
theorem pn_5 : plainName "java/lang/Number" = true := by first | (simp [plainName, overriddenIn]; done) | decide +kernel
theorem d4_0 : decode jdk_18_method_1_code 0 = .ok (.aload_n 0, 1) := by decide +kernel
theorem d4_1 : decode jdk_18_method_1_code 1 = .ok (.invokespecial 1, 3) := by decide +kernel
theorem d4_4 : decode jdk_18_method_1_code 4 = .ok (.return_, 1) := by decide +kernel
theorem pn_6 : plainName "java/lang/Long" = true := by first | (simp [plainName, overriddenIn]; done) | decide +kernel
theorem d5_0 : decode jdk_35_method_26_code 0 = .ok (.aload_n 0, 1) := by decide +kernel
theorem d5_1 : decode jdk_35_method_26_code 1 = .ok (.invokespecial 270, 3) := by decide +kernel
theorem pd_7 : parseMethodDescriptor "()V" = some ⟨[], none⟩ := by decide +kernel
theorem d5_4 : decode jdk_35_method_26_code 4 = .ok (.aload_n 0, 1) := by decide +kernel
theorem d5_5 : decode jdk_35_method_26_code 5 = .ok (.lload_n 1, 1) := by decide +kernel
theorem d5_6 : decode jdk_35_method_26_code 6 = .ok (.putfield 273, 3) := by decide +kernel
theorem d5_9 : decode jdk_35_method_26_code 9 = .ok (.return_, 1) := by decide +kernel
theorem d6_0 : decode jdk_35_method_24_code 0 = .ok (.sipush 128, 3) := by decide +kernel
theorem d6_3 : decode jdk_35_method_24_code 3 = .ok (.istore_n 2, 1) := by decide +kernel
theorem d6_4 : decode jdk_35_method_24_code 4 = .ok (.lload_n 0, 1) := by decide +kernel
theorem d6_5 : decode jdk_35_method_24_code 5 = .ok (.ldc2_w 230, 3) := by decide +kernel
theorem d6_8 : decode jdk_35_method_24_code 8 = .ok (.lcmp, 1) := by decide +kernel
theorem d6_9 : decode jdk_35_method_24_code 9 = .ok (.ifCond .lt 22, 3) := by decide +kernel
theorem d6_31 : decode jdk_35_method_24_code 31 = .ok (.new 1, 3) := by decide +kernel
theorem d6_34 : decode jdk_35_method_24_code 34 = .ok (.dup, 1) := by decide +kernel
theorem d6_35 : decode jdk_35_method_24_code 35 = .ok (.lload_n 0, 1) := by decide +kernel
theorem d6_36 : decode jdk_35_method_24_code 36 = .ok (.invokespecial 240, 3) := by decide +kernel
theorem pd_8 : parseMethodDescriptor "(J)V" = some ⟨[.long], none⟩ := by decide +kernel
theorem d6_39 : decode jdk_35_method_24_code 39 = .ok (.areturn, 1) := by decide +kernel
theorem d6_12 : decode jdk_35_method_24_code 12 = .ok (.lload_n 0, 1) := by decide +kernel
theorem d6_13 : decode jdk_35_method_24_code 13 = .ok (.ldc2_w 232, 3) := by decide +kernel
theorem d6_16 : decode jdk_35_method_24_code 16 = .ok (.lcmp, 1) := by decide +kernel
theorem d6_17 : decode jdk_35_method_24_code 17 = .ok (.ifCond .gt 14, 3) := by decide +kernel
theorem d6_20 : decode jdk_35_method_24_code 20 = .ok (.getstatic 234, 3) := by decide +kernel
theorem d6_23 : decode jdk_35_method_24_code 23 = .ok (.lload_n 0, 1) := by decide +kernel
theorem d6_24 : decode jdk_35_method_24_code 24 = .ok (.l2i, 1) := by decide +kernel
theorem d6_25 : decode jdk_35_method_24_code 25 = .ok (.sipush 128, 3) := by decide +kernel
theorem d6_28 : decode jdk_35_method_24_code 28 = .ok (.iadd, 1) := by decide +kernel
theorem d6_29 : decode jdk_35_method_24_code 29 = .ok (.aaload, 1) := by decide +kernel
theorem d6_30 : decode jdk_35_method_24_code 30 = .ok (.areturn, 1) := by decide +kernel
theorem pn_9 : plainName "java/lang/Throwable" = true := by first | (simp [plainName, overriddenIn]; done) | decide +kernel
theorem d7_0 : decode jdk_78_method_2_code 0 = .ok (.aload_n 0, 1) := by decide +kernel
theorem d7_1 : decode jdk_78_method_2_code 1 = .ok (.invokespecial 1, 3) := by decide +kernel
theorem d7_4 : decode jdk_78_method_2_code 4 = .ok (.aload_n 0, 1) := by decide +kernel
theorem d7_5 : decode jdk_78_method_2_code 5 = .ok (.aload_n 0, 1) := by decide +kernel
theorem d7_6 : decode jdk_78_method_2_code 6 = .ok (.putfield 7, 3) := by decide +kernel
theorem d7_9 : decode jdk_78_method_2_code 9 = .ok (.aload_n 0, 1) := by decide +kernel
theorem d7_10 : decode jdk_78_method_2_code 10 = .ok (.getstatic 13, 3) := by decide +kernel
theorem d7_13 : decode jdk_78_method_2_code 13 = .ok (.putfield 17, 3) := by decide +kernel
theorem d7_16 : decode jdk_78_method_2_code 16 = .ok (.aload_n 0, 1) := by decide +kernel
theorem d7_17 : decode jdk_78_method_2_code 17 = .ok (.getstatic 20, 3) := by decide +kernel
theorem d7_20 : decode jdk_78_method_2_code 20 = .ok (.putfield 24, 3) := by decide +kernel
theorem d7_23 : decode jdk_78_method_2_code 23 = .ok (.aload_n 0, 1) := by decide +kernel
theorem d7_24 : decode jdk_78_method_2_code 24 = .ok (.invokevirtual 27, 3) := by decide +kernel
theorem d7_27 : decode jdk_78_method_2_code 27 = .ok (.pop, 1) := by decide +kernel
theorem d7_28 : decode jdk_78_method_2_code 28 = .ok (.aload_n 0, 1) := by decide +kernel
theorem d7_29 : decode jdk_78_method_2_code 29 = .ok (.aload_n 1, 1) := by decide +kernel
theorem d7_30 : decode jdk_78_method_2_code 30 = .ok (.putfield 31, 3) := by decide +kernel
theorem d7_33 : decode jdk_78_method_2_code 33 = .ok (.return_, 1) := by decide +kernel
theorem pn_10 : plainName "java/lang/Exception" = true := by first | (simp [plainName, overriddenIn]; done) | decide +kernel
theorem d8_0 : decode jdk_59_method_2_code 0 = .ok (.aload_n 0, 1) := by decide +kernel
theorem d8_1 : decode jdk_59_method_2_code 1 = .ok (.aload_n 1, 1) := by decide +kernel
theorem d8_2 : decode jdk_59_method_2_code 2 = .ok (.invokespecial 7, 3) := by decide +kernel
theorem pd_11 : parseMethodDescriptor "(Ljava/lang/String;)V" = some ⟨[(.object "java/lang/String")], none⟩ := by decide +kernel
theorem d8_5 : decode jdk_59_method_2_code 5 = .ok (.return_, 1) := by decide +kernel
theorem pn_12 : plainName "com/example/durable_state/durablestate/model/RefusedException" = true := by first | (simp [plainName, overriddenIn]; done) | decide +kernel
theorem d9_0 : decode prog_25_method_2_code 0 = .ok (.aload_n 0, 1) := by decide +kernel
theorem d9_1 : decode prog_25_method_2_code 1 = .ok (.aload_n 1, 1) := by decide +kernel
theorem d9_2 : decode prog_25_method_2_code 2 = .ok (.invokespecial 7, 3) := by decide +kernel
theorem d9_5 : decode prog_25_method_2_code 5 = .ok (.aload_n 0, 1) := by decide +kernel
theorem d9_6 : decode prog_25_method_2_code 6 = .ok (.aload_n 2, 1) := by decide +kernel
theorem d9_7 : decode prog_25_method_2_code 7 = .ok (.putfield 12, 3) := by decide +kernel
theorem d9_10 : decode prog_25_method_2_code 10 = .ok (.return_, 1) := by decide +kernel
theorem d10_0 : decode prog_25_method_1_code 0 = .ok (.aload_n 0, 1) := by decide +kernel
theorem d10_1 : decode prog_25_method_1_code 1 = .ok (.aload_n 1, 1) := by decide +kernel
theorem d10_2 : decode prog_25_method_1_code 2 = .ok (.aconst_null, 1) := by decide +kernel
theorem d10_3 : decode prog_25_method_1_code 3 = .ok (.invokespecial 1, 3) := by decide +kernel
theorem pd_13 : parseMethodDescriptor "(Ljava/lang/String;Lcom/example/durable_state/durablestate/model/StatePath;)V" = some ⟨[(.object "java/lang/String"), (.object "com/example/durable_state/durablestate/model/StatePath")], none⟩ := by decide +kernel
theorem d10_6 : decode prog_25_method_1_code 6 = .ok (.return_, 1) := by decide +kernel
theorem pn_14 : plainName "com/example/durable_state/durablestate/service/Unmigrated" = true := by first | (simp [plainName, overriddenIn]; done) | decide +kernel
theorem d11_0 : decode prog_43_method_1_code 0 = .ok (.aload_n 0, 1) := by decide +kernel
theorem d11_1 : decode prog_43_method_1_code 1 = .ok (.invokespecial 1, 3) := by decide +kernel
theorem d11_4 : decode prog_43_method_1_code 4 = .ok (.aload_n 0, 1) := by decide +kernel
theorem d11_5 : decode prog_43_method_1_code 5 = .ok (.aload_n 1, 1) := by decide +kernel
theorem d11_6 : decode prog_43_method_1_code 6 = .ok (.putfield 7, 3) := by decide +kernel
theorem d11_9 : decode prog_43_method_1_code 9 = .ok (.aload_n 0, 1) := by decide +kernel
theorem d11_10 : decode prog_43_method_1_code 10 = .ok (.aload_n 2, 1) := by decide +kernel
theorem d11_11 : decode prog_43_method_1_code 11 = .ok (.putfield 13, 3) := by decide +kernel
theorem d11_14 : decode prog_43_method_1_code 14 = .ok (.return_, 1) := by decide +kernel
theorem d12_0 : decode prog_43_method_3_code 0 = .ok (.aload_n 0, 1) := by decide +kernel
theorem d12_1 : decode prog_43_method_3_code 1 = .ok (.instanceof 8, 3) := by decide +kernel
theorem d12_4 : decode prog_43_method_3_code 4 = .ok (.ifCond .eq 13, 3) := by decide +kernel
theorem d12_17 : decode prog_43_method_3_code 17 = .ok (.aload_n 0, 1) := by decide +kernel
theorem d12_18 : decode prog_43_method_3_code 18 = .ok (.areturn, 1) := by decide +kernel
theorem d12_7 : decode prog_43_method_3_code 7 = .ok (.aload_n 0, 1) := by decide +kernel
theorem d12_8 : decode prog_43_method_3_code 8 = .ok (.checkcast 8, 3) := by decide +kernel
theorem d12_11 : decode prog_43_method_3_code 11 = .ok (.getfield 7, 3) := by decide +kernel
theorem d12_14 : decode prog_43_method_3_code 14 = .ok (.goto 4, 3) := by decide +kernel
theorem pn_15 : plainName "com/example/durable_state/durablestate/service/UnmigratedStoredPinLaw" = true := by first | (simp [plainName, overriddenIn]; done) | decide +kernel
theorem pd_16 : parseMethodDescriptor "(C)Ljava/lang/String;" = some ⟨[.char], some (.object "java/lang/String")⟩ := by decide +kernel
theorem pd_17 : parseMethodDescriptor "(J)Ljava/lang/Long;" = some ⟨[.long], some (.object "java/lang/Long")⟩ := by decide +kernel
theorem pd_18 : parseMethodDescriptor "(Ljava/lang/Object;)Ljava/lang/Object;" = some ⟨[(.object "java/lang/Object")], some (.object "java/lang/Object")⟩ := by decide +kernel
theorem pd_19 : parseMethodDescriptor "(Ljava/lang/Object;Lcom/example/durable_state/durablestate/model/RefusedException;)V" = some ⟨[(.object "java/lang/Object"), (.object "com/example/durable_state/durablestate/model/RefusedException")], none⟩ := by decide +kernel
theorem own_nsroot {Z : State} {a0 : Array Value} {O K : String} {n : Nat} (w : (Jvm.Cond.noSuperclass O).before a0 Z = true) (wk : (Jvm.Cond.instantiable K n).before a0 Z = true) (hn : O ≠ K) : NS Z O K := by
  obtain ⟨c, k, h1, h2, h3, -, -⟩ := Cond.noSuperclass_spec w
  obtain ⟨t, kt, g1, -⟩ := Cond.instantiable_spec wk
  have ne := ids_ne h1 g1 hn
  refine ⟨c, t, h1, g1, fun fuel => ?_⟩
  cases fuel with
  | zero => rfl
  | succ f => simp [Vm.isSubclassAux, ne, h2, h3]
theorem own_nsno {Z : State} {a0 : Array Value} {C S K : String} {n : Nat} (w : (Jvm.Cond.superclass C S).before a0 Z = true) (wk : (Jvm.Cond.instantiable K n).before a0 Z = true) (ns : NS Z C K) (hn : C ≠ K) : ∃ c t, Z.vm.findClass C = some c ∧ Z.vm.findClass K = some t ∧ Z.vm.assignable c t = false := by
  obtain ⟨c, t, h0, g0, n3⟩ := ns
  obtain ⟨p, k, kp, h1, h2, h3, h4, h5, -, h7⟩ := Cond.superclass_spec h0 w
  obtain ⟨t', kt, g1, g2, g3, g4, -⟩ := Cond.instantiable_spec wk
  cases g0.symm.trans g1
  have g5 : kt.isInterface = false := by
    cases hq : kt.isInterface with
    | false => rfl
    | true => rw [hq] at g4; simp at g4
  have ne := ids_ne h0 g0 hn
  refine ⟨c, t, h0, g0, ?_⟩
  show Z.vm.assignableAux (255 + 1) c t = false
  simp [Vm.assignableAux, ne, h2, g2, h5, g3, g5, Vm.isSubclass, n3]
theorem own_len {args : Array Value} {Z : State} {t : Term} {a : Addr} {cl : Cell} {ty : FieldType} {z : Int32} (ht : t.eval args Z none [] Z = some (.ref a)) (A : Arr Z Z.heap a cl ty) (e : (Term.length t).eval args Z none [] Z = some (.int z)) : cl.slots.size < 2 ^ 31 ∧ cl.slots.size.toInt32 = z := by
  have hA := A.fin (Vm.Alike.refl _)
  by_cases hn : cl.slots.size < 2 ^ 31
  · exact ⟨hn, Value.int.inj (Option.some.inj ((len_f ht hA hn).symm.trans e))⟩
  · exfalso
    simp [Term.eval, ht, hA, hn] at e
theorem own_idx {args : Array Value} {Z : State} {j : Int32} (hj : ¬ j < 0) : (Term.sub (.index 0) (.int 128)).eval args Z none [j.toNatClampNeg] Z = some (.int (j - 128)) := by
  have e := idx_at (args := args) (first := Z) (s := Z) (o := none) hj
  simp only [Term.eval] at e ⊢
  simp [e, (back32 hj).1]
theorem own_nb (x : Int32) : nar .byte x.toInt8.toInt32 = x.toInt8.toInt32 := by simp [nar]
theorem own_ch (x : Int32) : ¬ (255 : Int32) < (x &&& 255).toUInt32.toUInt16.toUInt32.toInt32 ∧ ¬ (x &&& 255).toUInt32.toUInt16.toUInt32.toInt32 < 0 := by
  have e1 : (255 : Int32).toInt = 255 := by decide
  have e2 : (0 : Int32).toInt = 0 := by decide
  have q := c_and x 255 (by decide)
  rw [i2c_mask]
  simp only [Int32.lt_iff_toInt_lt, e1, e2] at *
  omega
theorem own_nc (x : Int32) : nar .char x.toUInt32.toUInt16.toUInt32.toInt32 = x.toUInt32.toUInt16.toUInt32.toInt32 := by simp only [nar, UInt32.toUInt32_toInt32, UInt16.toUInt16_toUInt32]
theorem own_and3 {x k : Int32} (hk : k = x &&& 3) (h0 : ¬ k = 0) (h1 : ¬ k = 1) (h2 : ¬ k = 2) : k = 3 := by
  have q := c_and x 3 (by decide)
  rw [← hk] at q
  have e0 : (0 : Int32).toInt = 0 := by decide
  have e1 : (1 : Int32).toInt = 1 := by decide
  have e2 : (2 : Int32).toInt = 2 := by decide
  have e3 : (3 : Int32).toInt = 3 := by decide
  rw [← Int32.toInt_inj, e0] at h0
  rw [← Int32.toInt_inj, e1] at h1
  rw [← Int32.toInt_inj, e2] at h2
  rw [e3] at q
  rw [← Int32.toInt_inj, e3]
  omega
set_option maxRecDepth 65536 in
set_option maxHeartbeats 40000000 in
theorem rm_can {l : Launch} {Z : State} {a0 : Array Value} (hw : ∀ d ∈ tables_1, d.before a0 Z = true) (y : Int32) (h0 : Heap) (l0 : ¬ (255 : Int32) < y) :
    Con l (⟨"java/lang/StringLatin1", "canEncode", "(C)Z"⟩ : MethodName) jdk_43_method_3_code 1 (some .boolean) ({ frames := 0, cells := 0, slots := 0, locals := 0 } : Room) Z #[(.int y)] h0 (fun v h L => v = some (.int 1) ∧ Fr Z.heap.size L ∧ h0 = h) := by
  refine Con.of (plainFor_of_name pn_0) (Ls := #[iv y]) (fun m => efOf rfl) ?_
  intro p e s m below meth c T0 X0 hx hZ hby hml hown hnm hret hlk e0 hs0 hTK hBelow
  refine go (fun _ => XS.iloadN X0.here hx rfl (hb hby d0_0) rfl) ?_
  refine go (fun _ => XT.sipushV X0.here hx rfl (255 : Int32) (hb hby d0_1) (by decide)) ?_
  show Ends p e below _ T0 (mkF m 4 #[iv y] [(.int (255 : Int32)), (.int y)])
  refine go (fun _ => XS.icmpNo X0.here hx rfl (hb hby d0_4) rfl (XT.ii_gt_f l0)) ?_
  show Ends p e below _ T0 (mkF m 7 #[iv y] [])
  refine go (fun _ => XT.iconstV X0.here hx rfl (1 : Int32) (hb hby d0_7) (by decide)) ?_
  refine go (fun _ => XS.goto X0.here hx rfl (pc0 := 8) (pc' := 12) rfl (hb hby d0_8) (by decide) (by decide)) ?_
  show Ends p e below _ T0 (mkF m 12 #[iv y] [(.int (1 : Int32))])
  exact endN X0 hx hret (by simp) (hb hby d0_12) (lvN X0 hlk e0 (fun h => by rw [hret] at h; cases h) ⟨rfl, (Fr.nil _), rfl⟩ (by decide) (by decide))
set_option maxRecDepth 65536 in
set_option maxHeartbeats 40000000 in
theorem rm_tobytes {l : Launch} {Z : State} {a0 : Array Value} (hw : ∀ d ∈ tables_1, d.before a0 Z = true) (y : Int32) (h0 : Heap) (O0 : Ext Z.heap h0) :
    Con l (⟨"java/lang/StringLatin1", "toBytes", "(C)[B"⟩ : MethodName) jdk_43_method_46_code 1 (some (.array .byte)) ({ frames := 0, cells := 1, slots := 1, locals := 0 } : Room) Z #[(.int y)] h0 (fun v h L => ∃ (b : Addr) (k : ClassId), v = some (.ref b) ∧ Fr Z.heap.size L ∧ Keep h0 h [] ∧ h0.size ≤ b ∧ Arv Z h b k .byte (1 : Int32) [(.int y.toInt8.toInt32)] (.int 0)) := by
  refine Con.of (plainFor_of_name pn_0) (Ls := #[iv y]) (fun m => efOf rfl) ?_
  intro p e s m below meth c T0 X0 hx hZ hby hml hown hnm hret hlk e0 hs0 hTK hBelow
  refine go (fun _ => XT.iconstV X0.here hx rfl (1 : Int32) (hb hby d1_0) (by decide)) ?_
  show Ends p e below _ T0 (mkF m 1 #[iv y] [(.int (1 : Int32))])
  obtain ⟨T1, h1, k1, X1, e1, E1, A1, s1⟩ := newP X0 hx hZ (hwi hw 17 rfl) e0 (g := (mkF m 1 #[iv y] [(.int (1 : Int32))])) rfl (hb hby d1_1) rfl (by decide) (cap := 1) (by decide) (by decide) (by decide) (by decide)
  obtain ⟨a1, g1⟩ : ∃ z : Addr, z = h0.size := ⟨_, rfl⟩
  have f1 : Z.heap.size ≤ a1 := by rw [g1]; exact (O0).1
  have K2 : Keep h0 h0 [] := (Keep.refl _ _)
  have b1 : h0.size ≤ a1 := by rw [g1]; exact (K2).1
  rw [← g1] at A1 s1
  have O3 : Ext Z.heap h1 := xx O0 E1
  have V1 : Arv Z h1 a1 k1 .byte (1 : Int32) [(.int (0 : Int32))] (.int 0) := Arv.pad (Arv.new A1 (by decide)) (pad_rep [] _ 1)
  refine go s1 ?_
  show Ends p e below _ T1 (mkF m 3 #[iv y] [(.ref a1)])
  refine go (fun _ => XS.dup X1.here hx rfl (hb hby d1_3) rfl rfl) ?_
  refine go (fun _ => XT.iconstV X1.here hx rfl (0 : Int32) (hb hby d1_4) (by decide)) ?_
  refine go (fun _ => XS.iloadN X1.here hx rfl (hb hby d1_5) rfl) ?_
  refine go (fun _ => XT.i2b X1.here hx rfl (hb hby d1_6) rfl) ?_
  show Ends p e below _ T1 (mkF m 7 #[iv y] [(.int y.toInt8.toInt32), (.int (0 : Int32)), (.ref a1), (.ref a1)])
  obtain ⟨cl4, A4, q4, S4, M4, H4, G4⟩ := id V1
  obtain ⟨T4, h4, X4, e4, W4, s4⟩ := stB X1 hx hZ e1 A4 (j := (0 : Int32)) (inb_of S4 (by decide)) (g := (mkF m 7 #[iv y] [(.int y.toInt8.toInt32), (.int (0 : Int32)), (.ref a1), (.ref a1)])) rfl rfl (hb hby d1_7)
  have r4 : nar .byte y.toInt8.toInt32 = y.toInt8.toInt32 := own_nb _
  rw [r4] at W4
  have N4 := Fr.snoc X4 (Fr.nil _) f1
  have O5 : Ext Z.heap h4 := xw O3 W4 f1
  have V4 : Arv Z h4 a1 k1 .byte (1 : Int32) [(.int y.toInt8.toInt32)] (.int 0) := Arv.set A4 q4 S4 M4 H4 G4 (by first | rfl | exact fits_nar_byte y.toInt8.toInt32 | (rw [← r4]; exact fits_nar_byte y.toInt8.toInt32)) W4 0 (by decide) (Nat.le_of_ble_eq_true rfl)
  refine go s4 ?_
  show Ends p e below _ T4 (mkF m 8 #[iv y] [(.ref a1)])
  have K6 : Keep h0 h4 [] := (Keep.wr (Keep.ext K2 E1) W4 (Or.inr b1))
  exact endA X4 hx hret rfl rfl (hb hby d1_8) (lvN X4 hlk e4 (fun h => by rw [hret] at h; cases h) ⟨a1, _, rfl, N4, K6, b1, V4⟩ (by decide) (by decide))
set_option maxRecDepth 65536 in
set_option maxHeartbeats 40000000 in
theorem rm_strbb {l : Launch} {Z : State} {a0 : Array Value} (hw : ∀ d ∈ tables_1, d.before a0 Z = true) (a : Addr) (x : Addr) (h0 : Heap) (O0 : Ext Z.heap h0) (f0 : Z.heap.size ≤ a) (E0 : Exa Z h0 a "java/lang/String") (F_value : Fld Z h0 a "java/lang/String" "value" "[B" .null) (F_coder : Fld Z h0 a "java/lang/String" "coder" "B" (.int (0 : Int32)))   :
    Con l (⟨"java/lang/String", "<init>", "([BB)V"⟩ : MethodName) jdk_42_method_151_code 3 none ({ frames := 1, cells := 0, slots := 0, locals := 12 } : Room) Z #[(.ref a), (.ref x), (.int (0 : Int32))] h0 (fun v h L => v = none ∧ Fr Z.heap.size L ∧ Keep h0 h [a] ∧ Fld Z h a "java/lang/String" "value" "[B" (.ref x) ∧ Fld Z h a "java/lang/String" "coder" "B" (.int (0 : Int32))) := by
  refine Con.of (plainFor_of_name pn_1) (Ls := #[rv a, rv x, iv (0 : Int32)]) (fun m => efOf rfl) ?_
  intro p e s m below meth c T0 X0 hx hZ hby hml hown hnm hret hlk e0 hs0 hTK hBelow
  refine go (fun _ => XS.aloadN X0.here hx rfl (hb hby d2_0) rfl rfl) ?_
  show Ends p e below _ T0 (mkF m 1 #[rv a, rv x, iv (0 : Int32)] [(.ref a)])
  obtain ⟨T7, X7, e7, s7⟩ := initO X0 hx hZ hown (hwi hw 22 rfl) (hwi hw 23 rfl) (hwi hw 24 rfl) e0 (g := (mkF m 1 #[rv a, rv x, iv (0 : Int32)] [(.ref a)])) rfl (by rw [hml]; rfl) rfl (hb hby d2_1) (by decide) (W := 0) (by show 2 * 0 + _ ≤ _; exact Nat.le_of_eq rfl) (by decide)
  refine go s7 ?_
  show Ends p e below _ T7 (mkF m 4 #[rv a, rv x, iv (0 : Int32)] [])
  refine go (fun _ => XS.aloadN X7.here hx rfl (hb hby d2_4) rfl rfl) ?_
  refine go (fun _ => XS.aloadN X7.here hx rfl (hb hby d2_5) rfl rfl) ?_
  show Ends p e below _ T7 (mkF m 6 #[rv a, rv x, iv (0 : Int32)] [(.ref x), (.ref a)])
  obtain ⟨T8, h8, X8, e8, W8, s8⟩ := putF X7 hx hZ hown (host := "") (Or.inl (hwi hw 25 rfl)) Via.refl e7 F_value E0 (Or.inr ⟨(hwi hw 26 rfl), rfl, hnm⟩) (hwi hw 13 rfl) (ty := (.array .byte)) (by decide) rfl rfl (g := (mkF m 6 #[rv a, rv x, iv (0 : Int32)] [(.ref x), (.ref a)])) rfl rfl (hb hby d2_6)
  have N8 := Fr.snoc X8 (Fr.nil _) f0
  have O9 : Ext Z.heap h8 := xw O0 W8 f0
  refine go s8 ?_
  show Ends p e below _ T8 (mkF m 9 #[rv a, rv x, iv (0 : Int32)] [])
  refine go (fun _ => XS.aloadN X8.here hx rfl (hb hby d2_9) rfl rfl) ?_
  refine go (fun _ => XS.iloadN X8.here hx rfl (hb hby d2_10) rfl) ?_
  show Ends p e below _ T8 (mkF m 11 #[rv a, rv x, iv (0 : Int32)] [(.int (0 : Int32)), (.ref a)])
  have F10 := (Exa.wr W8 E0)
  have F11 := (Fld.other W8 F_coder (Or.inr (slot_ne (a0 := a0) (Or.inr (hwi hw 28 rfl)) (Or.inr (hwi hw 26 rfl)) (by decide) (t := .byte) (t' := (.array .byte)) (by decide) (by decide))))
  obtain ⟨T12, h12, X12, e12, W12, s12⟩ := putF X8 hx hZ hown (host := "") (Or.inl (hwi hw 27 rfl)) Via.refl e8 F11 F10 (Or.inr ⟨(hwi hw 28 rfl), rfl, hnm⟩) (hwi hw 13 rfl) (ty := .byte) (by decide) rfl rfl (g := (mkF m 11 #[rv a, rv x, iv (0 : Int32)] [(.int (0 : Int32)), (.ref a)])) rfl rfl (hb hby d2_11)
  have N12 := Fr.snoc X12 N8 f0
  have O13 : Ext Z.heap h12 := xw O9 W12 f0
  refine go s12 ?_
  show Ends p e below _ T12 (mkF m 14 #[rv a, rv x, iv (0 : Int32)] [])
  have K14 : Keep h0 h12 [a] := (Keep.wr (Keep.wr (Keep.refl _ _) W8 (Or.inl (List.mem_of_getElem? (i := 0) rfl))) W12 (Or.inl (List.mem_of_getElem? (i := 0) rfl)))
  have F15 := (Fld.other W12 (Fld.same W8 F_value) (Or.inr (slot_ne (a0 := a0) (Or.inr (hwi hw 26 rfl)) (Or.inr (hwi hw 28 rfl)) (by decide) (t := (.array .byte)) (t' := .byte) (by decide) (by decide))))
  have F16 := (Fld.same W12 F11)
  exact endV X12 hx hret (hb hby d2_14) (lvN X12 hlk e12 (fun _ => rfl) ⟨rfl, N12, K14, F15, F16⟩ (by decide) (by decide))
set_option maxRecDepth 65536 in
set_option maxHeartbeats 40000000 in
theorem rm_cvalueOf {l : Launch} {Z : State} {a0 : Array Value} (hw : ∀ d ∈ tables_1, d.before a0 Z = true) (y : Int32) (h0 : Heap) (O0 : Ext Z.heap h0) (l0 : ¬ (255 : Int32) < y) (cz : Int32) (SCS : Sta Z Z.heap "java/lang/String" "COMPACT_STRINGS" "Z" (.int cz)) (hcz : ¬ cz = (0 : Int32)) :
    Con l (⟨"java/lang/String", "valueOf", "(C)Ljava/lang/String;"⟩ : MethodName) jdk_42_method_139_code 1 (some (.object "java/lang/String")) ({ frames := 2, cells := 2, slots := 5, locals := 27 } : Room) Z #[(.int y)] h0 (fun v h L => ∃ (a b : Addr) (k : ClassId), v = some (.ref a) ∧ Fr Z.heap.size L ∧ Keep h0 h [] ∧ h0.size ≤ a ∧ h0.size ≤ b ∧ a ≠ b ∧ Exa Z h a "java/lang/String" ∧ Fld Z h a "java/lang/String" "value" "[B" (.ref b) ∧ Fld Z h a "java/lang/String" "coder" "B" (.int 0) ∧ Arv Z h b k .byte (1 : Int32) [(.int y.toInt8.toInt32)] (.int 0)) := by
  refine Con.of (plainFor_of_name pn_1) (Ls := #[iv y]) (fun m => efOf rfl) ?_
  intro p e s m below meth c T0 X0 hx hZ hby hml hown hnm hret hlk e0 hs0 hTK hBelow
  obtain ⟨T17, X17, e17, s17⟩ := getS2 X0 hx hZ hown (host := "") (Or.inl (hwi hw 7 rfl)) Via.refl e0 (Sta.ext O0 SCS) (g := (mkF m 0 #[iv y] [])) rfl (hb hby d3_0)
  refine go s17 ?_
  show Ends p e below _ T17 (mkF m 3 #[iv y] [(.int cz)])
  refine go (fun _ => XS.ifNo X17.here hx rfl (hb hby d3_3) rfl (XT.i0_eq_f hcz)) ?_
  show Ends p e below _ T17 (mkF m 6 #[iv y] [])
  refine go (fun _ => XS.iloadN X17.here hx rfl (hb hby d3_6) rfl) ?_
  show Ends p e below _ T17 (mkF m 7 #[iv y] [(.int y)])
  refine cStat X17 hx hZ hown (by rw [hml]; rfl) e17 hTK hBelow (hwi hw 8 rfl) (hwi hw 9 rfl) (hwi hw 10 rfl) (hwi hw 11 rfl) [(.int y)] [] rfl (rm_can hw y _ l0) (hb hby d3_7) rfl (lenOf pd_2 rfl) (by decide) (by decide) (Nat.le_of_ble_eq_true rfl) (by decide) (by decide) ?_
  rintro v18 T18 h18 L18 X18 e18 ⟨rfl, N18, rfl⟩
  have N18a := Fr.app (Fr.nil _) N18
  show Ends p e below _ T18 (mkF m 10 #[iv y] [(.int (1 : Int32))])
  refine go (fun _ => XS.ifNo X18.here hx rfl (hb hby d3_10) rfl (XT.i0_eq_f ((by decide) : ¬ ((1 : Int32) = (0 : Int32))))) ?_
  show Ends p e below _ T18 (mkF m 13 #[iv y] [])
  obtain ⟨T19, h19, X19, e19, E19, A19, D19, U19, s19⟩ := newO X18 hx hZ hown (hwi hw 12 rfl) (hwi hw 13 rfl) (hwi hw 5 rfl) e18 (g := (mkF m 13 #[iv y] [])) rfl (hb hby d3_13) (by decide) (by decide)
  obtain ⟨a19, g19⟩ : ∃ z : Addr, z = h0.size := ⟨_, rfl⟩
  have f19 : Z.heap.size ≤ a19 := by rw [g19]; exact (O0).1
  have K20 : Keep h0 h0 [] := (Keep.refl _ _)
  have b19 : h0.size ≤ a19 := by rw [g19]; exact (K20).1
  rw [← g19] at A19 D19 U19 s19
  have O21 : Ext Z.heap h19 := xx O0 E19
  refine go s19 ?_
  show Ends p e below _ T19 (mkF m 16 #[iv y] [(.ref a19)])
  refine go (fun _ => XS.dup X19.here hx rfl (hb hby d3_16) rfl rfl) ?_
  refine go (fun _ => XS.iloadN X19.here hx rfl (hb hby d3_17) rfl) ?_
  show Ends p e below _ T19 (mkF m 18 #[iv y] [(.int y), (.ref a19), (.ref a19)])
  refine cStat X19 hx hZ hown (by rw [hml]; rfl) e19 hTK hBelow (hwi hw 14 rfl) (hwi hw 15 rfl) (hwi hw 10 rfl) (hwi hw 16 rfl) [(.int y)] [(.ref a19), (.ref a19)] rfl (rm_tobytes hw y _ O21) (hb hby d3_18) rfl (lenOf pd_3 rfl) (by decide) (by decide) (Nat.le_of_ble_eq_true rfl) (by decide) (by decide) ?_
  rintro v22 T22 h22 L22 X22 e22 ⟨b22, k22, rfl, N22, K22, g22, V22⟩
  have N22a := Fr.app N18a N22
  have n23 : a19 ≠ b22 := Nat.ne_of_lt (Nat.lt_of_lt_of_le (A19.lt) g22)
  have f24 : Z.heap.size ≤ b22 := Nat.le_trans (O21).1 g22
  have K25 : Keep h0 h19 [] := (Keep.ext K20 E19)
  have b24 : h0.size ≤ b22 := Nat.le_trans (K25).1 g22
  have O26 : Ext Z.heap h22 := xk O21 K22 all0
  show Ends p e below _ T22 (mkF m 21 #[iv y] [(.ref b22), (.ref a19), (.ref a19)])
  refine go (fun _ => XT.iconstV X22.here hx rfl (0 : Int32) (hb hby d3_21) (by decide)) ?_
  show Ends p e below _ T22 (mkF m 22 #[iv y] [(.int (0 : Int32)), (.ref b22), (.ref a19), (.ref a19)])
  have F27 := (Exa.keep A19 K22)
  have F28 := (Fld.keep (D19 (Or.inr (hwi hw 26 rfl)) (ty := (.array .byte)) (by decide)) K22 nin0)
  have F29 := (Fld.keep (D19 (Or.inr (hwi hw 28 rfl)) (ty := .byte) (by decide)) K22 nin0)
  refine cInit X22 hx hZ hown (by rw [hml]; rfl) e22 hTK hBelow (hwi hw 18 rfl) (hwi hw 19 rfl) (hwi hw 5 rfl) (hwi hw 21 rfl) a19 [(.ref b22), (.int (0 : Int32))] [(.ref a19)] rfl (rm_strbb hw a19 b22 _ O26 f19 F27 F28 F29  ) (hb hby d3_22) rfl (lenOf pd_4 rfl) rfl (by decide) (by decide) (Nat.le_of_ble_eq_true rfl) (by decide) (by decide) ?_
  rintro v30 T30 h30 L30 X30 e30 ⟨rfl, N30, K30, F30_0, F30_1⟩
  have N30a := Fr.app N22a N30
  have O31 : Ext Z.heap h30 := xk O26 K30 (allS f19 all0)
  show Ends p e below _ T30 (mkF m 25 #[iv y] [(.ref a19)])
  have K32 : Keep h0 h30 [] := (Keep.trans (Keep.trans K25 K22 all0) K30 (allS (Or.inr b19) all0))
  have F33 := (Exa.keep F27 K30)
  have F34 := (Arv.keep V22 K30 (ninS (Ne.symm n23) nin0))
  exact endA X30 hx hret rfl rfl (hb hby d3_25) (lvN X30 hlk e30 (fun h => by rw [hret] at h; cases h) ⟨a19, b22, _, rfl, N30a, K32, b19, b24, n23, F33, F30_0, F30_1, F34⟩ (by decide) (by decide))
theorem own_lbox {x : Int64} (h1 : ¬ x < (-128 : Int64)) (h2 : ¬ (127 : Int64) < x) : (¬ (x.toInt32 + 128) < 0 ∧ (x.toInt32 + 128) < (256 : Int32)) ∧ (x.toInt32 + 128 - 128).toInt64 = x := by
  have e1 : (-128 : Int64).toInt = -128 := by decide
  have e2 : (127 : Int64).toInt = 127 := by decide
  have e3 : (128 : Int32).toInt = 128 := by decide
  have e4 : (256 : Int32).toInt = 256 := by decide
  have e5 : (0 : Int32).toInt = 0 := by decide
  have q0 := c_l2i x
  have q := c_iadd x.toInt32 128
  have q' := c_isub (x.toInt32 + 128) 128
  have r0 := rng32 x.toInt32
  have r := rng32 (x.toInt32 + 128)
  have r' := rng32 (x.toInt32 + 128 - 128)
  have rx := rng64 x
  have w := c_i2l (x.toInt32 + 128 - 128)
  simp only [Int64.lt_iff_toInt_lt, e1, e2] at h1 h2
  rw [e3] at q q'
  refine ⟨?_, Int64.toInt_inj.mp (by rw [w]; omega)⟩
  simp only [Int32.lt_iff_toInt_lt, e4, e5]
  omega
set_option maxRecDepth 65536 in
set_option maxHeartbeats 40000000 in
theorem rm_number {l : Launch} {Z : State} {a0 : Array Value} (hw : ∀ d ∈ tables_1, d.before a0 Z = true) (a : Addr) (h0 : Heap)  :
    Con l (⟨"java/lang/Number", "<init>", "()V"⟩ : MethodName) jdk_18_method_1_code 1 none ({ frames := 1, cells := 0, slots := 0, locals := 12 } : Room) Z #[(.ref a)] h0 (fun v h L => v = none ∧ Fr Z.heap.size L ∧ h0 = h) := by
  refine Con.of (plainFor_of_name pn_5) (Ls := #[rv a]) (fun m => efOf rfl) ?_
  intro p e s m below meth c T0 X0 hx hZ hby hml hown hnm hret hlk e0 hs0 hTK hBelow
  refine go (fun _ => XS.aloadN X0.here hx rfl (hb hby d4_0) rfl rfl) ?_
  show Ends p e below _ T0 (mkF m 1 #[rv a] [(.ref a)])
  obtain ⟨T35, X35, e35, s35⟩ := initO X0 hx hZ hown (hwi hw 121 rfl) (hwi hw 23 rfl) (hwi hw 24 rfl) e0 (g := (mkF m 1 #[rv a] [(.ref a)])) rfl (by rw [hml]; rfl) rfl (hb hby d4_1) (by decide) (W := 0) (by show 2 * 0 + _ ≤ _; exact Nat.le_of_eq rfl) (by decide)
  refine go s35 ?_
  show Ends p e below _ T35 (mkF m 4 #[rv a] [])
  exact endV X35 hx hret (hb hby d4_4) (lvN X35 hlk e35 (fun _ => rfl) ⟨rfl, (Fr.nil _), rfl⟩ (by decide) (by decide))
set_option maxRecDepth 65536 in
set_option maxHeartbeats 40000000 in
theorem rm_long {l : Launch} {Z : State} {a0 : Array Value} (hw : ∀ d ∈ tables_1, d.before a0 Z = true) (a : Addr) (x : Int64) (h0 : Heap) (O0 : Ext Z.heap h0) (f0 : Z.heap.size ≤ a) (E0 : Exa Z h0 a "java/lang/Long") (F_value : Fld Z h0 a "java/lang/Long" "value" "J" (.long (0 : Int64)))   :
    Con l (⟨"java/lang/Long", "<init>", "(J)V"⟩ : MethodName) jdk_35_method_26_code 3 none ({ frames := 2, cells := 0, slots := 0, locals := 24 } : Room) Z #[(.ref a), (.long x)] h0 (fun v h L => v = none ∧ Fr Z.heap.size L ∧ Keep h0 h [a] ∧ Fld Z h a "java/lang/Long" "value" "J" (.long x)) := by
  refine Con.of (plainFor_of_name pn_6) (Ls := #[rv a, .val (.long x), .second]) (fun m => efOf rfl) ?_
  intro p e s m below meth c T0 X0 hx hZ hby hml hown hnm hret hlk e0 hs0 hTK hBelow
  refine go (fun _ => XS.aloadN X0.here hx rfl (hb hby d5_0) rfl rfl) ?_
  show Ends p e below _ T0 (mkF m 1 #[rv a, .val (.long x), .second] [(.ref a)])
  refine cInit X0 hx hZ hown (by rw [hml]; rfl) e0 hTK hBelow (hwi hw 115 rfl) (hwi hw 116 rfl) (hwi hw 119 rfl) (hwi hw 120 rfl) a [] [] rfl (rm_number hw a _) (hb hby d5_1) rfl (lenOf pd_7 rfl) rfl (by decide) (by decide) (Nat.le_of_ble_eq_true rfl) (by decide) (by decide) ?_
  rintro v36 T36 h36 L36 X36 e36 ⟨rfl, N36, rfl⟩
  have N36a := Fr.app (Fr.nil _) N36
  show Ends p e below _ T36 (mkF m 4 #[rv a, .val (.long x), .second] [])
  refine go (fun _ => XS.aloadN X36.here hx rfl (hb hby d5_4) rfl rfl) ?_
  refine go (fun _ => XT.lloadN X36.here hx rfl (hb hby d5_5) rfl) ?_
  show Ends p e below _ T36 (mkF m 6 #[rv a, .val (.long x), .second] [(.long x), (.ref a)])
  obtain ⟨T37, h37, X37, e37, W37, s37⟩ := putF X36 hx hZ hown (host := "") (Or.inl (hwi hw 122 rfl)) Via.refl e36 F_value E0 (Or.inr ⟨(hwi hw 123 rfl), rfl, hnm⟩) (hwi hw 110 rfl) (ty := .long) (by decide) rfl rfl (g := (mkF m 6 #[rv a, .val (.long x), .second] [(.long x), (.ref a)])) rfl rfl (hb hby d5_6)
  have N37 := Fr.snoc X37 N36a f0
  have O38 : Ext Z.heap h37 := xw O0 W37 f0
  refine go s37 ?_
  show Ends p e below _ T37 (mkF m 9 #[rv a, .val (.long x), .second] [])
  have K39 : Keep h0 h37 [a] := (Keep.wr (Keep.refl _ _) W37 (Or.inl (List.mem_of_getElem? (i := 0) rfl)))
  have F40 := (Fld.same W37 F_value)
  exact endV X37 hx hret (hb hby d5_9) (lvN X37 hlk e37 (fun _ => rfl) ⟨rfl, N37, K39, F40⟩ (by decide) (by decide))
set_option maxRecDepth 65536 in
set_option maxHeartbeats 40000000 in
theorem rm_lvalueOf {l : Launch} {Z : State} {a0 : Array Value} (hw : ∀ d ∈ tables_1, d.before a0 Z = true) (x : Int64) (aJ : Addr) (cJ : Cell) (h0 : Heap) (O0 : Ext Z.heap h0) (SJ : Sta Z Z.heap "java/lang/Long$LongCache" "cache" "[Ljava/lang/Long;" (.ref aJ)) (BJ : Bxs Z aJ cJ "java/lang/Long" "J" (256 : Int32) (fun j => .long (j - 128).toInt64)) :
    Con l (⟨"java/lang/Long", "valueOf", "(J)Ljava/lang/Long;"⟩ : MethodName) jdk_35_method_24_code 3 (some (.object "java/lang/Long")) ({ frames := 3, cells := 1, slots := 1, locals := 39 } : Room) Z #[(.long x)] h0 (fun v h L => ∃ b, v = some (.ref b) ∧ Fr Z.heap.size L ∧ Keep h0 h [] ∧ Exa Z h b "java/lang/Long" ∧ Fld Z h b "java/lang/Long" "value" "J" (.long x)) := by
  refine Con.of (plainFor_of_name pn_6) (Ls := #[.val (.long x), .second, .unset]) (fun m => efOf rfl) ?_
  intro p e s m below meth c T0 X0 hx hZ hby hml hown hnm hret hlk e0 hs0 hTK hBelow
  refine go (fun _ => XT.sipushV X0.here hx rfl (128 : Int32) (hb hby d6_0) (by decide)) ?_
  refine go (fun _ => XS.istoreN X0.here hx rfl (hb hby d6_3) rfl (l' := #[.val (.long x), .second, iv (128 : Int32)]) rfl) ?_
  refine go (fun _ => XT.lloadN X0.here hx rfl (hb hby d6_4) rfl) ?_
  show Ends p e below _ T0 (mkF m 5 #[.val (.long x), .second, iv (128 : Int32)] [(.long x)])
  refine go (fun _ => Jvm.Stand.ldc2J X0 hx hown (mvT hZ (hwi hw 89 rfl)) rfl (hb hby d6_5)) ?_
  show Ends p e below _ T0 (mkF m 8 #[.val (.long x), .second, iv (128 : Int32)] [(.long (-128 : Int64)), (.long x)])
  refine go (fun _ => XT.lcmp X0.here hx rfl (hb hby d6_8) rfl) ?_
  show Ends p e below _ T0 (mkF m 9 #[.val (.long x), .second, iv (128 : Int32)] [(.int (XT.cmpL x (-128 : Int64)))])
  by_cases c9_41 : x < (-128 : Int64)
  · refine go (fun _ => XS.ifYes X0.here hx rfl (pc0 := 9) (pc' := 31) rfl (hb hby d6_9) rfl (XT.ll_lt_t c9_41) (by decide) (by decide)) ?_
    show Ends p e below _ T0 (mkF m 31 #[.val (.long x), .second, iv (128 : Int32)] [])
    obtain ⟨T42, h42, X42, e42, E42, A42, D42, U42, s42⟩ := newO X0 hx hZ hown (hwi hw 109 rfl) (hwi hw 110 rfl) (hwi hw 87 rfl) e0 (g := (mkF m 31 #[.val (.long x), .second, iv (128 : Int32)] [])) rfl (hb hby d6_31) (by decide) (by decide)
    obtain ⟨a42, g42⟩ : ∃ z : Addr, z = h0.size := ⟨_, rfl⟩
    have f42 : Z.heap.size ≤ a42 := by rw [g42]; exact (O0).1
    have K43 : Keep h0 h0 [] := (Keep.refl _ _)
    have b42 : h0.size ≤ a42 := by rw [g42]; exact (K43).1
    rw [← g42] at A42 D42 U42 s42
    have O44 : Ext Z.heap h42 := xx O0 E42
    refine go s42 ?_
    show Ends p e below _ T42 (mkF m 34 #[.val (.long x), .second, iv (128 : Int32)] [(.ref a42)])
    refine go (fun _ => XS.dup X42.here hx rfl (hb hby d6_34) rfl rfl) ?_
    refine go (fun _ => XT.lloadN X42.here hx rfl (hb hby d6_35) rfl) ?_
    show Ends p e below _ T42 (mkF m 36 #[.val (.long x), .second, iv (128 : Int32)] [(.long x), (.ref a42), (.ref a42)])
    have F45 := (D42 (Or.inr (hwi hw 123 rfl)) (ty := .long) (by decide))
    refine cInit X42 hx hZ hown (by rw [hml]; rfl) e42 hTK hBelow (hwi hw 111 rfl) (hwi hw 112 rfl) (hwi hw 87 rfl) (hwi hw 114 rfl) a42 [(.long x)] [(.ref a42)] rfl (rm_long hw a42 x _ O44 f42 A42 F45  ) (hb hby d6_36) rfl (lenOf pd_8 rfl) rfl (by decide) (by decide) (Nat.le_of_ble_eq_true rfl) (by decide) (by decide) ?_
    rintro v46 T46 h46 L46 X46 e46 ⟨rfl, N46, K46, F46_0⟩
    have N46a := Fr.app (Fr.nil _) N46
    have O47 : Ext Z.heap h46 := xk O44 K46 (allS f42 all0)
    show Ends p e below _ T46 (mkF m 39 #[.val (.long x), .second, iv (128 : Int32)] [(.ref a42)])
    have K48 : Keep h0 h46 [] := (Keep.trans (Keep.ext K43 E42) K46 (allS (Or.inr b42) all0))
    have F49 := (Exa.keep A42 K46)
    exact endA X46 hx hret rfl rfl (hb hby d6_39) (lvN X46 hlk e46 (fun h => by rw [hret] at h; cases h) ⟨a42, rfl, N46a, K48, F49, F46_0⟩ (by decide) (by decide))
  · refine go (fun _ => XS.ifNo X0.here hx rfl (hb hby d6_9) rfl (XT.ll_lt_f c9_41)) ?_
    show Ends p e below _ T0 (mkF m 12 #[.val (.long x), .second, iv (128 : Int32)] [])
    refine go (fun _ => XT.lloadN X0.here hx rfl (hb hby d6_12) rfl) ?_
    show Ends p e below _ T0 (mkF m 13 #[.val (.long x), .second, iv (128 : Int32)] [(.long x)])
    refine go (fun _ => Jvm.Stand.ldc2J X0 hx hown (mvT hZ (hwi hw 90 rfl)) rfl (hb hby d6_13)) ?_
    show Ends p e below _ T0 (mkF m 16 #[.val (.long x), .second, iv (128 : Int32)] [(.long (127 : Int64)), (.long x)])
    refine go (fun _ => XT.lcmp X0.here hx rfl (hb hby d6_16) rfl) ?_
    show Ends p e below _ T0 (mkF m 17 #[.val (.long x), .second, iv (128 : Int32)] [(.int (XT.cmpL x (127 : Int64)))])
    by_cases c17_50 : (127 : Int64) < x
    · refine go (fun _ => XS.ifYes X0.here hx rfl (pc0 := 17) (pc' := 31) rfl (hb hby d6_17) rfl (XT.ll_gt_t c17_50) (by decide) (by decide)) ?_
      show Ends p e below _ T0 (mkF m 31 #[.val (.long x), .second, iv (128 : Int32)] [])
      obtain ⟨T51, h51, X51, e51, E51, A51, D51, U51, s51⟩ := newO X0 hx hZ hown (hwi hw 109 rfl) (hwi hw 110 rfl) (hwi hw 87 rfl) e0 (g := (mkF m 31 #[.val (.long x), .second, iv (128 : Int32)] [])) rfl (hb hby d6_31) (by decide) (by decide)
      obtain ⟨a51, g51⟩ : ∃ z : Addr, z = h0.size := ⟨_, rfl⟩
      have f51 : Z.heap.size ≤ a51 := by rw [g51]; exact (O0).1
      have K52 : Keep h0 h0 [] := (Keep.refl _ _)
      have b51 : h0.size ≤ a51 := by rw [g51]; exact (K52).1
      rw [← g51] at A51 D51 U51 s51
      have O53 : Ext Z.heap h51 := xx O0 E51
      refine go s51 ?_
      show Ends p e below _ T51 (mkF m 34 #[.val (.long x), .second, iv (128 : Int32)] [(.ref a51)])
      refine go (fun _ => XS.dup X51.here hx rfl (hb hby d6_34) rfl rfl) ?_
      refine go (fun _ => XT.lloadN X51.here hx rfl (hb hby d6_35) rfl) ?_
      show Ends p e below _ T51 (mkF m 36 #[.val (.long x), .second, iv (128 : Int32)] [(.long x), (.ref a51), (.ref a51)])
      have F54 := (D51 (Or.inr (hwi hw 123 rfl)) (ty := .long) (by decide))
      refine cInit X51 hx hZ hown (by rw [hml]; rfl) e51 hTK hBelow (hwi hw 111 rfl) (hwi hw 112 rfl) (hwi hw 87 rfl) (hwi hw 114 rfl) a51 [(.long x)] [(.ref a51)] rfl (rm_long hw a51 x _ O53 f51 A51 F54  ) (hb hby d6_36) rfl (lenOf pd_8 rfl) rfl (by decide) (by decide) (Nat.le_of_ble_eq_true rfl) (by decide) (by decide) ?_
      rintro v55 T55 h55 L55 X55 e55 ⟨rfl, N55, K55, F55_0⟩
      have N55a := Fr.app (Fr.nil _) N55
      have O56 : Ext Z.heap h55 := xk O53 K55 (allS f51 all0)
      show Ends p e below _ T55 (mkF m 39 #[.val (.long x), .second, iv (128 : Int32)] [(.ref a51)])
      have K57 : Keep h0 h55 [] := (Keep.trans (Keep.ext K52 E51) K55 (allS (Or.inr b51) all0))
      have F58 := (Exa.keep A51 K55)
      exact endA X55 hx hret rfl rfl (hb hby d6_39) (lvN X55 hlk e55 (fun h => by rw [hret] at h; cases h) ⟨a51, rfl, N55a, K57, F58, F55_0⟩ (by decide) (by decide))
    · refine go (fun _ => XS.ifNo X0.here hx rfl (hb hby d6_17) rfl (XT.ll_gt_f c17_50)) ?_
      show Ends p e below _ T0 (mkF m 20 #[.val (.long x), .second, iv (128 : Int32)] [])
      obtain ⟨T59, X59, e59, s59⟩ := getS2 X0 hx hZ hown (host := "") (Or.inl (hwi hw 91 rfl)) Via.refl e0 (Sta.ext O0 SJ) (g := (mkF m 20 #[.val (.long x), .second, iv (128 : Int32)] [])) rfl (hb hby d6_20)
      refine go s59 ?_
      show Ends p e below _ T59 (mkF m 23 #[.val (.long x), .second, iv (128 : Int32)] [(.ref aJ)])
      refine go (fun _ => XT.lloadN X59.here hx rfl (hb hby d6_23) rfl) ?_
      refine go (fun _ => XT.l2i X59.here hx rfl (hb hby d6_24) rfl) ?_
      refine go (fun _ => XT.sipushV X59.here hx rfl (128 : Int32) (hb hby d6_25) (by decide)) ?_
      refine go (fun _ => XS.iadd X59.here hx rfl (hb hby d6_28) rfl) ?_
      show Ends p e below _ T59 (mkF m 29 #[.val (.long x), .second, iv (128 : Int32)] [(.int (x.toInt32 + (128 : Int32))), (.ref aJ)])
      have q60 := own_lbox c9_41 c17_50
      have i60 := inb_of BJ.2.1 q60.1
      obtain ⟨b60, b160, b260, b360⟩ := BJ.2.2.2 _ i60
      have A60 := (BJ.ext O0).1
      refine go (fun _ => X59.aaload hx (j := (x.toInt32 + (128 : Int32))) (v := .ref b60) (by rw [e59]; exact A60.1) (State.isArrayOf_alike hZ.alike A60.2.1) rfl A60.2.2 i60 b160 (g := (mkF m 29 #[.val (.long x), .second, iv (128 : Int32)] [(.int (x.toInt32 + (128 : Int32))), (.ref aJ)])) rfl rfl (hb hby d6_29) _) ?_
      show Ends p e below _ T59 (mkF m 30 #[.val (.long x), .second, iv (128 : Int32)] [(.ref b60)])
      simp only [q60.2] at b360
      have K61 : Keep h0 h0 [] := (Keep.refl _ _)
      have F62 := (Exa.ext O0 b260)
      have F63 := (Fld.ext O0 b360)
      exact endA X59 hx hret rfl rfl (hb hby d6_30) (lvN X59 hlk e59 (fun h => by rw [hret] at h; cases h) ⟨b60, rfl, (Fr.nil _), K61, F62, F63⟩ (by decide) (by decide))
section OwnExc
open Jvm.Bundle Jvm.Free.Exc LibCode.Throwable
abbrev own_xs : Cond := .lays tN tN "suppressedExceptions" listD
/-- the tables' side of fillInStackTrace, the field suppressedExceptions read off the exception's own class -/
theorem own_links {rc : String} {args : Array Value} {s : State} {pl : Platform} (hrc : rc ≠ tN) (howns : pl.frameOwnsMonitors = true) (hfin : pl.finalization = false) (hpl : pl.magicAccessors = ({} : Platform).magicAccessors) (A : ∀ d ∈ excAtoms rc, d ≠ own_xs → d.before args s = true) :
    ∃ T : ThrowableC, T.Links pl s ∧ s.vm.findClass tN = some T.cT ∧ s.methodNamed? tFill = some T.fill ∧ s.methodNamed? tFill0 = some T.fill0 ∧ s.fieldFound? tN "stackTrace" steD = some (T.cT, T.kT, T.i17, T.fStack) ∧ s.fieldFound? tN "UNASSIGNED_STACK" steD = some (T.cT, T.kT, T.i13, T.fUnassigned) ∧ T.fStack.name = "stackTrace" ∧ T.fStack.type = .array (.object "java/lang/StackTraceElement") ∧ ∃ cell, s.heap[T.aS]? = some cell ∧ cell.vm.isStatics = true := by
  have W : ∀ d, d ∈ excAtoms rc → d ≠ own_xs → d.holds args s none s [] = true := fun d h1 h2 => A d h1 h2
  have w24 := W (.lays rc tN "suppressedExceptions" listD) (by simp [excAtoms, throwableAtoms]) (by intro h; injection h with h1; exact hrc h1)
  have w17 := W (.lays rc tN "stackTrace" steD) (by simp [excAtoms, throwableAtoms]) (by first | (intro h; cases h; done) | simp [own_xs, tN, steD, listD])
  obtain ⟨⟨cT, j0⟩, mt0, nn0, mm0, nat0, cod0, lok0, sig0⟩ := Cond.native_spec (W (.native tFill0) (by simp [excAtoms, throwableAtoms]) (by first | (intro h; cases h; done) | simp [own_xs, tN, steD, listD]))
  have fT : s.vm.findClass tN = some cT := findClass_of_methodNamed nn0
  obtain ⟨kT, kk, knm⟩ := Vm.findClass_spec fT
  obtain ⟨_, kT', _, -, kk', -, -, -, -, kni⟩ := Cond.superclass_spec fT (W (.superclass tN "java/lang/Object") (by simp [excAtoms, throwableAtoms]) (by first | (intro h; cases h; done) | simp [own_xs, tN, steD, listD]))
  cases kk.symm.trans kk'
  -- the three methods of Throwable, and Object's constructor
  obtain ⟨jF, mtF, nnF, mmF, atF, stF, abF, -, -⟩ := Cond.ownMethod (x := tFill) fT kk (W (.instanceMethod tFill) (by simp [excAtoms, throwableAtoms]) (by first | (intro h; cases h; done) | simp [own_xs, tN, steD, listD]))
  obtain ⟨mtF', cdF, mmF', hcdF, bF, mlF, rtF, lkF, -, sgF⟩ := Cond.codeSync_spec nnF (W (.codeSync tFill Fill.code 1 (some (.object tN))) (by simp [excAtoms, throwableAtoms]) (by first | (intro h; cases h; done) | simp [own_xs, tN, steD, listD]))
  cases mmF.symm.trans mmF'
  obtain ⟨j0', mt0', nn0', mm0', at0, st0, ab0, nm0, ds0⟩ := Cond.ownMethod (x := tFill0) fT kk (W (.instanceMethod tFill0) (by simp [excAtoms, throwableAtoms]) (by first | (intro h; cases h; done) | simp [own_xs, tN, steD, listD]))
  cases nn0.symm.trans nn0'
  cases mm0.symm.trans mm0'
  obtain ⟨jI, mtI, nnI, mmI, -, -, -, -, -⟩ := Cond.ownMethod (x := tInit0) fT kk (W (.instanceMethod tInit0) (by simp [excAtoms, throwableAtoms]) (by first | (intro h; cases h; done) | simp [own_xs, tN, steD, listD]))
  obtain ⟨_, cdI, -, -, -, -, -, -, -, -⟩ := Cond.code_spec nnI (W (.code tInit0 Init0.code 1 none) (by simp [excAtoms, throwableAtoms]) (by first | (intro h; cases h; done) | simp [own_xs, tN, steD, listD]))
  obtain ⟨mO, mtO, nnO, mmO, stO, abO⟩ := Cond.instanceMethod_spec (W (.instanceMethod oInit) (by simp [excAtoms, throwableAtoms]) (by first | (intro h; cases h; done) | simp [own_xs, tN, steD, listD]))
  obtain ⟨mtO', cdO, mmO', hcdO, bO, -, -, lkO, -, sgO⟩ := Cond.code_spec nnO (W (.code oInit ⟨#[0xb1]⟩ 1 none) (by simp [excAtoms, throwableAtoms]) (by first | (intro h; cases h; done) | simp [own_xs, tN, steD, listD]))
  cases mmO.symm.trans mmO'
  obtain ⟨kO, kkO, knO⟩ := Vm.findClass_spec (findClass_of_methodNamed nnO)
  obtain ⟨nmO, dsO⟩ := name_of_methodNamed nnO mmO
  -- the pool's entries
  obtain ⟨i1, t1, cf, l1, r1, ecf, p1⟩ := Cond.linkedMethod fT kk nnO (W (.methodLink tN 1 oInit) (by simp [excAtoms, throwableAtoms]) (by first | (intro h; cases h; done) | simp [own_xs, tN, steD, listD])) pl hpl
  obtain ⟨i27, t27, cf', l27, r27, ecf', p27⟩ := Cond.linkedMethod fT kk nnF (W (.methodLink tN 27 tFill) (by simp [excAtoms, throwableAtoms]) (by first | (intro h; cases h; done) | simp [own_xs, tN, steD, listD])) pl hpl
  cases ecf.symm.trans ecf'
  obtain ⟨i202, t202, cf', l202, r202, ecf', p202⟩ := Cond.linkedMethod fT kk nn0 (W (.methodLink tN 202 tFill0) (by simp [excAtoms, throwableAtoms]) (by first | (intro h; cases h; done) | simp [own_xs, tN, steD, listD])) pl hpl
  cases ecf.symm.trans ecf'
  obtain ⟨c7, i7, f7, l7, g7, a7, s7, n7, -, -, -⟩ := Cond.ownField (t := .object tN) fT kk (by decide +kernel) (W (.fieldLink tN 7 tN "cause" "Ljava/lang/Throwable;") (by simp [excAtoms, throwableAtoms]) (by first | (intro h; cases h; done) | simp [own_xs, tN, steD, listD])) (W (.lays tN tN "cause" "Ljava/lang/Throwable;") (by simp [excAtoms, throwableAtoms]) (by first | (intro h; cases h; done) | simp [own_xs, tN, steD, listD])) pl hpl
  obtain ⟨c17, i17, f17, l17, g17, a17, s17, n17, nm17, ty17, ff17⟩ := Cond.ownField (t := .array (.object "java/lang/StackTraceElement")) fT kk (by decide +kernel) (W (.fieldLink tN 17 tN "stackTrace" steD) (by simp [excAtoms, throwableAtoms]) (by first | (intro h; cases h; done) | simp [own_xs, tN, steD, listD])) (W (.lays tN tN "stackTrace" steD) (by simp [excAtoms, throwableAtoms]) (by first | (intro h; cases h; done) | simp [own_xs, tN, steD, listD])) pl hpl
  obtain ⟨c24, i24, f24, l24, g24, a24, s24, n24, nm24, -, ff24⟩ := Cond.ownField (C' := rc) (t := .object "java/util/List") fT kk (by decide +kernel) (W (.fieldLink tN 24 tN "suppressedExceptions" listD) (by simp [excAtoms, throwableAtoms]) (by first | (intro h; cases h; done) | simp [own_xs, tN, steD, listD])) w24 pl hpl
  obtain ⟨c13, i13, f13, aS, cS, l13, g13, a13, s13, -, -, hst, hcS, isS, -, -, ff13⟩ := Cond.ownStatic (t := .array (.object "java/lang/StackTraceElement")) fT kk (by decide +kernel) (W (.fieldLink tN 13 tN "UNASSIGNED_STACK" steD) (by simp [excAtoms, throwableAtoms]) (by first | (intro h; cases h; done) | simp [own_xs, tN, steD, listD])) (W (.laysStatic tN "UNASSIGNED_STACK" steD) (by simp [excAtoms, throwableAtoms]) (by first | (intro h; cases h; done) | simp [own_xs, tN, steD, listD])) pl hpl
  obtain ⟨c20, i20, f20, _, _, l20, g20, a20, s20, -, -, -, -, -, -, -, -⟩ := Cond.ownStatic (t := .object "java/util/List") fT kk (by decide +kernel) (W (.fieldLink tN 20 tN "SUPPRESSED_SENTINEL" listD) (by simp [excAtoms, throwableAtoms]) (by first | (intro h; cases h; done) | simp [own_xs, tN, steD, listD])) (W (.laysStatic tN "SUPPRESSED_SENTINEL" listD) (by simp [excAtoms, throwableAtoms]) (by first | (intro h; cases h; done) | simp [own_xs, tN, steD, listD])) pl hpl
  obtain ⟨_, _, _, _, _, fM, -, -, -, sM, nM, -⟩ := Cond.lays_spec (W (.lays tN tN "detailMessage" "Ljava/lang/String;") (by simp [excAtoms, throwableAtoms]) (by first | (intro h; cases h; done) | simp [own_xs, tN, steD, listD]))
  obtain ⟨cR, kR, _, _, _, _, fR, kkR, -⟩ := Cond.lays_spec w17
  obtain ⟨-, d17, e17, q17⟩ := Cond.laysAt fR kkR ff17 w17
  obtain ⟨-, d24, e24, q24⟩ := Cond.laysAt fR kkR ff24 w24
  have apart : f17.slot ≠ f24.slot := Cond.laysApart e17 e24 q17 q24 (by rw [nm17, nm24]; decide)
  have pF : mtF.sig.parameters = [] := by
    have q : (parseMethodDescriptor tFill.desc).map (·.parameters) = some [] := by decide +kernel
    rw [sgF] at q; simpa using q
  have p0 : mt0.sig.parameters = [.int] := by
    have q : (parseMethodDescriptor tFill0.desc).map (·.parameters) = some [.int] := by decide +kernel
    rw [sig0] at q; simpa using q
  have pO : mtO.sig.parameters.length = 0 := by
    have q : (parseMethodDescriptor oInit.desc).map (·.parameters) = some [] := by decide +kernel
    rw [sgO] at q
    have q' : mtO.sig.parameters = [] := by simpa using q
    rw [q']; rfl
  refine ⟨{ cT := cT, kT := kT, cO := cT, aS := aS, fillIdx := jF, fill0Idx := j0, initSIdx := jI, obj := mO, kObj := kO, methFill := mtF, methFill0 := mt0, methInitS := mtI, methObj := mtO, codeFill := cdF, codeInitS := cdI, codeObj := cdO, fBack := f7, fDepth := f7, fStack := f17, fCause := f7, fSupp := f24, fMsg := fM, fUnassigned := f13, fSentinel := f20, cfT := cf, ci1 := i1, n1 := t1, ci27 := i27, n27 := t27, ci202 := i202, n202 := t202, ci7 := c7, i7 := i7, ci13 := c13, i13 := i13, ci17 := c17, i17 := i17, ci20 := c20, i20 := i20, ci24 := c24, i24 := i24 }, ?_, fT, nnF, nn0, ff17, ff13, nm17, ty17, cS, hcS, isS⟩
  constructor
  all_goals first
    | assumption
    | exact Vm.findClass_boot fT kk
    | exact Cond.initialized_spec fT kk (W (.initialized tN) (by simp [excAtoms, throwableAtoms]) (by first | (intro h; cases h; done) | simp [own_xs, tN, steD, listD]))
    | (rw [dsO]; exact lookupSpecial_of_named nnO mmO stO)
variable {p : Program} {l : Launch} {e : Env} {R : Room} {s : State} {m : MethodId} {args : Array Value} {below : List Frame} {meth : Method} {c : Code} {T : State} {locs : List Loc} {cells slots : Nat} {Z : State} {a0 : Array Value} {h : Heap}
theorem own_wsz {h h' : Heap} {a : Addr} {sl : Nat} {v : Value} (W : Wr h h' a sl v) : h'.size = h.size := by
  obtain ⟨_, -, -, -, rfl⟩ := W; simp
set_option maxHeartbeats 4000000 in
/-- fillInStackTrace() on an object that the walk has made, within a constructor that has written that object alone -/
theorem own_fill (X : Stand p l e R s m args below meth c T locs cells slots) (hx : p.tables.exec = Jvm.exec) (hl : l.stackTraces = true) (hZ : Z.Warmed39 s.vm) (hown : s.vm.findClass tN = some m.cls) {rc : String} (hrc : rc ≠ tN) (W : ∀ d ∈ excAtoms rc, d ≠ own_xs → d.before a0 Z = true) {nI : Nat} (wi : (Cond.instantiable rc nI).before a0 Z = true)
    (hT0 : ThS Z s.heap) (hTK : s.vm.MethodsKnown) (hBelow : s.vm.FramesKnown below) (eT : T.heap = h) (hsz : h.size = s.heap.size) {a : Addr} (Kh : Keep s.heap h [a]) (hloc : ∀ x ∈ locs, x.base = a) (E : Exa Z h a rc) (N : Unt h a) (B : Fld Z h a tN "backtrace" obD .null) {wU : Value} (hU : wU.isRef = true) (S : Fld Z h a tN "stackTrace" steD wU) (SU : Sta Z h tN "UNASSIGNED_STACK" steD wU)
    {g : JFrame} (hg : g.method = m) (hsize : g.locals.size = c.maxLocals) {rest : List Value} (hs : g.stack = .ref a :: rest) (hd : decode c.code g.pc = .ok (.invokevirtual 27, 3)) (hf : 3 ≤ R.frames) {Wd : Nat} (hW : 2 * g.monitorRoom + (rest.map fun v => v.category).sum ≤ Wd) (hlo : Wd + 42 ≤ R.locals) (hc : cells + 1 ≤ R.cells) (hsl : slots + 2752 ≤ R.slots) :
    ∃ (T' : State) (h' : Heap) (L : List Loc), Stand p l e R s m args below meth c T' (locs ++ L) (cells + 1) (slots + 2752) ∧ T'.heap = h' ∧ (∀ x ∈ L, x.base = a) ∧ Keep h h' [a] ∧
      (∀ {O n d : String} {v : Value}, Fld Z h a O n d v → Jvm.RoadKit.slotOf Z O n d ≠ Jvm.RoadKit.slotOf Z tN "backtrace" obD → Jvm.RoadKit.slotOf Z O n d ≠ Jvm.RoadKit.slotOf Z tN "depth" "I" → Jvm.RoadKit.slotOf Z O n d ≠ Jvm.RoadKit.slotOf Z tN "stackTrace" steD → Fld Z h' a O n d v) ∧
      ∀ target, Steps p.tables e below (T'.setTop { g with pc := g.pc + 3, stack := .ref a :: rest }) target → Steps p.tables e below (T.setTop g) target := by
  have A : ∀ d ∈ excAtoms rc, d ≠ own_xs → d.before args s = true := fun d h1 h2 => mvX hT0 hZ (List.all_eq_true.mp exc_ok d h1) (W d h1 h2)
  have A' : ∀ d, d ∈ excAtoms rc → d ≠ own_xs → d.holds args s none s [] = true := fun d h1 h2 => A d h1 h2
  have htr : e.platform.stackTraces = true := by rw [X.admits.platform]; exact hl
  have howns : e.platform.frameOwnsMonitors = true := by rw [X.admits.platform]
  have hfin : e.platform.finalization = false := by rw [X.admits.platform]
  have hpl : e.platform.magicAccessors = ({} : Platform).magicAccessors := by rw [X.admits.platform]
  obtain ⟨Th, L, fT, nnF, nn0, ffS, ffU, nmS, tyS, -⟩ := own_links hrc howns hfin hpl A
  obtain ⟨cell, kZ, e1, e2, e3, e4, e5⟩ := E
  obtain ⟨c2, u1, u2, u3⟩ := N
  cases e1.symm.trans u1
  obtain ⟨t', kt, w1, w2, w3, -⟩ := Cond.instantiable_spec wi
  cases w1.symm.trans e2
  cases w2.symm.trans e3
  have hfound : s.vm.findClass rc = some cell.cls := by rw [hZ.alike.findClass]; exact e2
  obtain ⟨kX, kk, ek⟩ := hZ.alike.2.2 _ _ e3
  have hord : kX.kind = .ordinary := by rw [ek]; exact w3
  have hsz' : cell.slots.size = kX.instanceTypes.size := by rw [ek]; exact e5 w3
  obtain ⟨ci198, i198, fB, lB, gB, aB, sB, -, nmB, tyB, ffB⟩ := Cond.ownField (t := .object "java/lang/Object") fT L.cls (by decide +kernel) (A' (.fieldLink tN 198 tN "backtrace" obD) (by simp [excAtoms, throwableAtoms]) (by first | (intro h; cases h; done) | simp [own_xs, tN, steD, listD])) (A' (.lays tN tN "backtrace" obD) (by simp [excAtoms, throwableAtoms]) (by first | (intro h; cases h; done) | simp [own_xs, tN, steD, listD])) e.platform hpl
  have wD := A' (.lays rc tN "depth" "I") (by simp [excAtoms, throwableAtoms]) (by first | (intro h; cases h; done) | simp [own_xs, tN, steD, listD])
  obtain ⟨_, _, cD, kD, iD, fD, -, -, ffD, sD, -⟩ := Cond.lays_spec wD
  obtain ⟨kkD, atD⟩ := State.fieldFound?_spec ffD
  have eD : cD = Th.cT := Option.some.inj ((Cond.lays_declared wD ffD).symm.trans fT)
  subst eD
  have eD2 : kD = Th.kT := Option.some.inj (kkD.symm.trans L.cls)
  subst eD2
  obtain ⟨nmD, tyD⟩ := State.fieldFound?_type ffD (t := .int) (by decide +kernel)
  have hfb := Cond.soleField_find fT L.cls (A' (.soleField tN "backtrace") (by simp [excAtoms, throwableAtoms]) (by first | (intro h; cases h; done) | simp [own_xs, tN, steD, listD])) aB nmB sB
  have hfd := Cond.soleField_find fT L.cls (A' (.soleField tN "depth") (by simp [excAtoms, throwableAtoms]) (by first | (intro h; cases h; done) | simp [own_xs, tN, steD, listD])) atD nmD sD
  obtain ⟨comp, cO, kO, -, -, hkO, hkindO, hO⟩ := Cond.arrayOver_spec (A' (.arrayOver (.object "java/lang/Object")) (by simp [excAtoms, throwableAtoms]) (by first | (intro h; cases h; done) | simp [own_xs, tN, steD, listD]))
  obtain ⟨tS, -⟩ := Cond.laysAt hfound kk ffS (A' (.lays rc tN "stackTrace" steD) (by simp [excAtoms, throwableAtoms]) (by first | (intro h; cases h; done) | simp [own_xs, tN, steD, listD]))
  obtain ⟨tB, -⟩ := Cond.laysAt hfound kk ffB (A' (.lays rc tN "backtrace" obD) (by simp [excAtoms, throwableAtoms]) (by first | (intro h; cases h; done) | simp [own_xs, tN, steD, listD]))
  obtain ⟨tD, -⟩ := Cond.laysAt hfound kk ffD wD
  have tk : ∀ {f : Field} {v : Value}, kX.instanceTypes[f.slot]? = some f.type → fits f.type v = true → Jvm.Takes s cell f v := fun {f v} h1 h2 => by
    obtain ⟨q1, q2⟩ := Takes.of_laid (v := v) kk hord h1 h2
    exact ⟨by rw [hsz']; simpa using q1, by rw [u2]; exact q2⟩
  -- what the slots hold
  obtain ⟨b1, b2, b3, b4, fB', b5, b6, -, -, -, -, b7⟩ := id B
  cases e1.symm.trans b5
  obtain ⟨_, _, _, b8⟩ := Jvm.Free.BdW.found_ride (U := Z) (U' := s) hZ.alike ⟨_, _, _, b6⟩
  have eB : fB' = fB := by have := Option.some.inj (b8.symm.trans ffB); simp only [Prod.mk.injEq] at this; exact this.2.2.2
  subst eB
  obtain ⟨s1, s2, s3, s4, fS', s5, s6, -, -, -, -, s7⟩ := id S
  cases e1.symm.trans s5
  obtain ⟨_, _, _, s8⟩ := Jvm.Free.BdW.found_ride (U := Z) (U' := s) hZ.alike ⟨_, _, _, s6⟩
  have eS : fS' = Th.fStack := by have := Option.some.inj (s8.symm.trans ffS); simp only [Prod.mk.injEq] at this; exact this.2.2.2
  subst eS
  obtain ⟨cf, ix, k, fU, st, cellS, z1, z2, z3, z4, z5, z6, z7⟩ := SU
  obtain ⟨k', z8, zk⟩ := State.fieldFound?_setVm hZ.alike z1
  have eU := Option.some.inj (z8.symm.trans ffU)
  simp only [Prod.mk.injEq] at eU
  obtain ⟨-, ek', -, eU⟩ := eU
  subst eU
  have eSt : st = Th.aS := by
    have q : Th.kT.statics = some st := by rw [← ek', zk]; exact z4
    exact Option.some.inj (q.symm.trans L.statics)
  subst eSt
  have hneS : Th.aS ≠ a := fun q => by
    rw [q] at z5
    cases e1.symm.trans z5
    rw [u2] at z6; cases z6
  have hknS : cellS.vm ≠ .unknown := fun q => by rw [q] at z6; cases z6
  have hsel0 : selectMethod e.platform s.vm cell.cls Th.fill0 = .method Th.fill0 := by
    obtain ⟨c2, r2, m2, q1, q2, q3, q4, -⟩ := Cond.selects_spec (A' (.selects rc tFill0 tFill0) (by simp [excAtoms, throwableAtoms]) (by first | (intro h; cases h; done) | simp [own_xs, tN, steD, listD]))
    cases Option.some.inj (q1.symm.trans hfound)
    cases Option.some.inj (q2.symm.trans (State.methodFound?_of_named nn0 (by decide)))
    cases Option.some.inj (q3.symm.trans nn0)
    rw [Launch.admits_selectMethod X.admits]; exact q4
  have hcell : T.heap[a]? = some cell := by rw [eT]; exact e1
  have hSE := A (.selects rc tFill tFill) (by simp [excAtoms, throwableAtoms]) (by first | (intro h; cases h; done) | simp [own_xs, tN, steD, listD])
  obtain ⟨v6, vm6, ⟨T6, L6, c6, n6⟩, -, X6, ⟨hv6, C6, n, hn, hD6, q1, q2, q3, q4, hL6, hc6, hn6⟩, come⟩ := X.virtualBack hx (own := tN) (C := rc) (index := 27) (y := tFill) (z := tFill) hown (A (.methodLink tN 27 tFill) (by simp [excAtoms, throwableAtoms]) (by first | (intro h; cases h; done) | simp [own_xs, tN, steD, listD])) (A (.declares tFill) (by simp [excAtoms, throwableAtoms]) (by first | (intro h; cases h; done) | simp [own_xs, tN, steD, listD])) (notFace_of_selects hSE) hSE (A (.instanceMethod tFill) (by simp [excAtoms, throwableAtoms]) (by first | (intro h; cases h; done) | simp [own_xs, tN, steD, listD])) (by decide)
    (fillPaysAny (l := l) (W := Wd) hx htr Th L nnF (u0 := ⟨wU, hU⟩) (self := a) (cell := cell) (cellS := cellS) (fun _ => by rw [u2]; simp) (by rw [u2]; simp) (by rw [u3]) (by rw [u3]) s7 hsel0 hneS hknS z7 (tk tS (by rw [tyS]; exact fits_refV_array _ ⟨wU, hU⟩))
      ⟨{ ci198 := ci198, i198 := i198, fBack := fB' }, ⟨lB, gB, aB, sB⟩, b7⟩ hTK hBelow fT hO hkO hkindO hfb hfd (fun x => tk tB (by rw [tyB]; rfl)) (fun x => tk tD (by rw [tyD]; rfl)) (by omega) (by omega))
    (b := a) (cB := cell.cls) hfound ⟨cell, hcell, rfl, by rw [u2]; rfl⟩ (g := g) hg hsize (Steps.refl _) (argsL := []) (rest := rest)
    (fun sig h => by rw [show parseMethodDescriptor tFill.desc = some ⟨[], some (.object tN)⟩ from by decide +kernel] at h; rw [← Option.some.inj h]; rfl) hs hW hd
    (fun vmx hWx => ⟨rfl, hc, hsl, hcell, by show T.heap[Th.aS]? = some cellS; rw [eT]; exact z5⟩)
  dsimp only [Pt.U, Pt.locs, Pt.cells, Pt.slots] at X6 hD6 hL6 hc6 hn6 come
  subst hv6 hL6 hc6 hn6
  have hbase : ∀ x ∈ locs ++ [⟨a, fB'.slot⟩, ⟨a, fD.slot⟩, ⟨a, Th.fStack.slot⟩], x.base = a := fun x hm => by
    rcases List.mem_append.mp hm with q | q
    · exact hloc x q
    · simp only [List.mem_cons, List.not_mem_nil, or_false] at q
      rcases q with rfl | rfl | rfl <;> rfl
  have KK : Jvm.Free.Exc.Kept s T6 (locs ++ [⟨a, fB'.slot⟩, ⟨a, fD.slot⟩, ⟨a, Th.fStack.slot⟩]) := X6.same.2.2.2.2.2
  have old : ∀ (x : Addr) (cx : Cell), h[x]? = some cx → x ≠ a → T6.heap[x]? = some cx := fun x cx q ne => by
    have hlt : x < s.heap.size := hsz ▸ (Array.getElem?_eq_some_iff.mp q).1
    have q0 := Array.getElem?_eq_getElem hlt
    have q1 := Kh.2.1 x _ q0 (by simpa using ne)
    have ex := Option.some.inj (q1.symm.trans q)
    rw [← ex]
    exact KK.other (a := a) hbase ne q0
  refine ⟨T6, T6.heap, _, X6.more (Nat.le_refl _) (by omega), rfl, fun x hm => hbase x (List.mem_append_right _ hm), ⟨?_, fun x cx q ne => old x cx q (by simpa using ne), fun x cx q => ?_⟩, ?_, fun target hr => come.trans hr⟩
  · rw [hsz]; exact X6.same.2.1
  · by_cases hxa : x = a
    · subst hxa
      cases e1.symm.trans q
      exact ⟨C6, hD6, q1, q2, q3⟩
    · exact ⟨cx, old x cx q hxa, rfl, rfl, rfl⟩
  · intro O n' d v F n1 n2 n3
    obtain ⟨cl, cf', k2, i2, f, g1, g2, g3, g4, g5, g6, g7⟩ := F
    cases e1.symm.trans g1
    obtain ⟨_, _, _, r8⟩ := Jvm.Free.BdW.found_ride (U := s) (U' := Z) hZ.alike.symm ⟨_, _, _, ffD⟩
    have j0 : Jvm.RoadKit.slotOf Z O n' d = f.slot := by simp [Jvm.RoadKit.slotOf, g2]
    have j1 : Jvm.RoadKit.slotOf Z tN "backtrace" obD = fB'.slot := by simp [Jvm.RoadKit.slotOf, b6]
    have j2 : Jvm.RoadKit.slotOf Z tN "depth" "I" = fD.slot := by simp [Jvm.RoadKit.slotOf, r8]
    have j3 : Jvm.RoadKit.slotOf Z tN "stackTrace" steD = Th.fStack.slot := by simp [Jvm.RoadKit.slotOf, s6]
    rw [j0, j1] at n1
    rw [j0, j2] at n2
    rw [j0, j3] at n3
    exact ⟨C6, cf', k2, i2, f, hD6, g2, g3, by rw [q2]; exact g4, by rw [q2]; exact g5, by rw [q1]; exact g6, by rw [q4 _ n1 n2 n3]; exact g7⟩
end OwnExc
theorem own_exc : ∀ d ∈ Jvm.Free.Exc.excAtoms "com/example/durable_state/durablestate/model/RefusedException", d ≠ own_xs → d ∈ tables_1 := by decide +kernel
theorem own_W {Z : State} {a0 : Array Value} (hw : ∀ d ∈ tables_1, d.before a0 Z = true) : ∀ d ∈ Jvm.Free.Exc.excAtoms "com/example/durable_state/durablestate/model/RefusedException", d ≠ own_xs → d.before a0 Z = true := fun d h1 h2 => hw d (own_exc d h1 h2)
set_option maxRecDepth 65536 in
set_option maxHeartbeats 40000000 in
theorem rm_thr {l : Launch} {Z : State} {a0 : Array Value} (hw : ∀ d ∈ tables_1, d.before a0 Z = true) (a : Addr) (w : Value) (wU wN : Value) (h0 : Heap) (O0 : Ext Z.heap h0) (f0 : Z.heap.size ≤ a) (E0 : Exa Z h0 a "com/example/durable_state/durablestate/model/RefusedException") (U0 : Unt h0 a) (F_cause : Fld Z h0 a "java/lang/Throwable" "cause" "Ljava/lang/Throwable;" .null) (F_stackTrace : Fld Z h0 a "java/lang/Throwable" "stackTrace" "[Ljava/lang/StackTraceElement;" .null) (F_suppressedExceptions : Fld Z h0 a "java/lang/Throwable" "suppressedExceptions" "Ljava/util/List;" .null) (F_detailMessage : Fld Z h0 a "java/lang/Throwable" "detailMessage" "Ljava/lang/String;" .null) (F_backtrace : Fld Z h0 a "java/lang/Throwable" "backtrace" "Ljava/lang/Object;" .null) (F_path : Fld Z h0 a "com/example/durable_state/durablestate/model/RefusedException" "path" "Lcom/example/durable_state/durablestate/model/StatePath;" .null) (hlt : l.stackTraces = true) (hU : wU.isRef = true) (hN : wN.isRef = true) (SU : Sta Z Z.heap "java/lang/Throwable" "UNASSIGNED_STACK" "[Ljava/lang/StackTraceElement;" wU) (SN : Sta Z Z.heap "java/lang/Throwable" "SUPPRESSED_SENTINEL" "Ljava/util/List;" wN) (wr : w.isRef = true) :
    Con l (⟨"java/lang/Throwable", "<init>", "(Ljava/lang/String;)V"⟩ : MethodName) jdk_78_method_2_code 2 none ({ frames := 3, cells := 1, slots := 2752, locals := 60 } : Room) Z #[(.ref a), w] h0 (fun v h L => v = none ∧ Fr Z.heap.size L ∧ Keep h0 h [a] ∧ Fld Z h a "java/lang/Throwable" "detailMessage" "Ljava/lang/String;" w ∧ Fld Z h a "com/example/durable_state/durablestate/model/RefusedException" "path" "Lcom/example/durable_state/durablestate/model/StatePath;" .null) := by
  refine Con.of (plainFor_of_name pn_9) (Ls := #[rv a, .val w]) (fun m => by rcases ref_cases wr with rfl | ⟨_, rfl⟩ <;> first | rfl | (simp [entryFrame, mkF, argsToLocals, Value.category]; done)) ?_
  intro p e s m below meth c T0 X0 hx hZ hby hml hown hnm hret hlk e0 hs0 hTK hBelow
  refine go (fun _ => XS.aloadN X0.here hx rfl (hb hby d7_0) rfl rfl) ?_
  show Ends p e below _ T0 (mkF m 1 #[rv a, .val w] [(.ref a)])
  obtain ⟨T64, X64, e64, s64⟩ := initO X0 hx hZ hown (hwi hw 46 rfl) (hwi hw 23 rfl) (hwi hw 24 rfl) e0 (g := (mkF m 1 #[rv a, .val w] [(.ref a)])) rfl (by rw [hml]; rfl) rfl (hb hby d7_1) (by decide) (W := 0) (by show 2 * 0 + _ ≤ _; exact Nat.le_of_eq rfl) (by decide)
  refine go s64 ?_
  show Ends p e below _ T64 (mkF m 4 #[rv a, .val w] [])
  refine go (fun _ => XS.aloadN X64.here hx rfl (hb hby d7_4) rfl rfl) ?_
  refine go (fun _ => XS.aloadN X64.here hx rfl (hb hby d7_5) rfl rfl) ?_
  show Ends p e below _ T64 (mkF m 6 #[rv a, .val w] [(.ref a), (.ref a)])
  obtain ⟨T65, h65, X65, e65, W65, s65⟩ := putF X64 hx hZ hown (host := "") (Or.inl (hwi hw 47 rfl)) Via.refl e64 F_cause E0 (Or.inl (hwi hw 48 rfl)) (hwi hw 1 rfl) (ty := (.object "java/lang/Throwable")) (by decide) rfl rfl (g := (mkF m 6 #[rv a, .val w] [(.ref a), (.ref a)])) rfl rfl (hb hby d7_6)
  have N65 := Fr.snoc X65 (Fr.nil _) f0
  have O66 : Ext Z.heap h65 := xw O0 W65 f0
  refine go s65 ?_
  show Ends p e below _ T65 (mkF m 9 #[rv a, .val w] [])
  refine go (fun _ => XS.aloadN X65.here hx rfl (hb hby d7_9) rfl rfl) ?_
  show Ends p e below _ T65 (mkF m 10 #[rv a, .val w] [(.ref a)])
  obtain ⟨T67, X67, e67, s67⟩ := getS2 X65 hx hZ hown (host := "") (Or.inl (hwi hw 49 rfl)) Via.refl e65 (Sta.ext O66 SU) (g := (mkF m 10 #[rv a, .val w] [(.ref a)])) rfl (hb hby d7_10)
  refine go s67 ?_
  show Ends p e below _ T67 (mkF m 13 #[rv a, .val w] [wU, (.ref a)])
  have F68 := (Exa.wr W65 E0)
  have F69 := (Fld.other W65 F_stackTrace (Or.inr (slot_ne (a0 := a0) (Or.inl (hwi hw 51 rfl)) (Or.inl (hwi hw 48 rfl)) (by decide) (t := (.array (.object "java/lang/StackTraceElement"))) (t' := (.object "java/lang/Throwable")) (by decide) (by decide))))
  obtain ⟨T70, h70, X70, e70, W70, s70⟩ := putF X67 hx hZ hown (host := "") (Or.inl (hwi hw 50 rfl)) Via.refl e67 F69 F68 (Or.inl (hwi hw 51 rfl)) (hwi hw 1 rfl) (ty := (.array (.object "java/lang/StackTraceElement"))) (by decide) (by rcases ref_cases hU with h | ⟨b, h⟩ <;> rw [h] <;> rfl) (by rcases ref_cases hU with h | ⟨b, h⟩ <;> rw [h] <;> rfl) (g := (mkF m 13 #[rv a, .val w] [wU, (.ref a)])) rfl rfl (hb hby d7_13)
  have N70 := Fr.snoc X70 N65 f0
  have O71 : Ext Z.heap h70 := xw O66 W70 f0
  refine go s70 ?_
  show Ends p e below _ T70 (mkF m 16 #[rv a, .val w] [])
  refine go (fun _ => XS.aloadN X70.here hx rfl (hb hby d7_16) rfl rfl) ?_
  show Ends p e below _ T70 (mkF m 17 #[rv a, .val w] [(.ref a)])
  obtain ⟨T72, X72, e72, s72⟩ := getS2 X70 hx hZ hown (host := "") (Or.inl (hwi hw 52 rfl)) Via.refl e70 (Sta.ext O71 SN) (g := (mkF m 17 #[rv a, .val w] [(.ref a)])) rfl (hb hby d7_17)
  refine go s72 ?_
  show Ends p e below _ T72 (mkF m 20 #[rv a, .val w] [wN, (.ref a)])
  have F73 := (Exa.wr W70 F68)
  have F74 := (Fld.other W70 (Fld.other W65 F_suppressedExceptions (Or.inr (slot_ne (a0 := a0) (Or.inl (hwi hw 54 rfl)) (Or.inl (hwi hw 48 rfl)) (by decide) (t := (.object "java/util/List")) (t' := (.object "java/lang/Throwable")) (by decide) (by decide)))) (Or.inr (slot_ne (a0 := a0) (Or.inl (hwi hw 54 rfl)) (Or.inl (hwi hw 51 rfl)) (by decide) (t := (.object "java/util/List")) (t' := (.array (.object "java/lang/StackTraceElement"))) (by decide) (by decide))))
  obtain ⟨T75, h75, X75, e75, W75, s75⟩ := putF X72 hx hZ hown (host := "") (Or.inl (hwi hw 53 rfl)) Via.refl e72 F74 F73 (Or.inl (hwi hw 54 rfl)) (hwi hw 1 rfl) (ty := (.object "java/util/List")) (by decide) (by rcases ref_cases hN with h | ⟨b, h⟩ <;> rw [h] <;> rfl) (by rcases ref_cases hN with h | ⟨b, h⟩ <;> rw [h] <;> rfl) (g := (mkF m 20 #[rv a, .val w] [wN, (.ref a)])) rfl rfl (hb hby d7_20)
  have N75 := Fr.snoc X75 N70 f0
  have O76 : Ext Z.heap h75 := xw O71 W75 f0
  refine go s75 ?_
  show Ends p e below _ T75 (mkF m 23 #[rv a, .val w] [])
  refine go (fun _ => XS.aloadN X75.here hx rfl (hb hby d7_23) rfl rfl) ?_
  show Ends p e below _ T75 (mkF m 24 #[rv a, .val w] [(.ref a)])
  have sz77 : h75.size = s.heap.size := by rw [hs0]; exact ((own_wsz W75).trans ((own_wsz W70).trans (own_wsz W65)))
  have K78 : Keep h0 h75 [a] := (Keep.wr (Keep.wr (Keep.wr (Keep.refl _ _) W65 (Or.inl (List.mem_of_getElem? (i := 0) rfl))) W70 (Or.inl (List.mem_of_getElem? (i := 0) rfl))) W75 (Or.inl (List.mem_of_getElem? (i := 0) rfl)))
  have F79 := (Exa.wr W75 F73)
  have F80 := (Unt.wr W75 (Unt.wr W70 (Unt.wr W65 U0)))
  have F81 := (Fld.other W75 (Fld.other W70 (Fld.other W65 F_backtrace (Or.inr (slot_ne (a0 := a0) (Or.inl (hwi hw 79 rfl)) (Or.inl (hwi hw 48 rfl)) (by decide) (t := (.object "java/lang/Object")) (t' := (.object "java/lang/Throwable")) (by decide) (by decide)))) (Or.inr (slot_ne (a0 := a0) (Or.inl (hwi hw 79 rfl)) (Or.inl (hwi hw 51 rfl)) (by decide) (t := (.object "java/lang/Object")) (t' := (.array (.object "java/lang/StackTraceElement"))) (by decide) (by decide)))) (Or.inr (slot_ne (a0 := a0) (Or.inl (hwi hw 79 rfl)) (Or.inl (hwi hw 54 rfl)) (by decide) (t := (.object "java/lang/Object")) (t' := (.object "java/util/List")) (by decide) (by decide))))
  have F82 := (Fld.other W75 (Fld.same W70 F69) (Or.inr (slot_ne (a0 := a0) (Or.inl (hwi hw 51 rfl)) (Or.inl (hwi hw 54 rfl)) (by decide) (t := (.array (.object "java/lang/StackTraceElement"))) (t' := (.object "java/util/List")) (by decide) (by decide))))
  obtain ⟨T77, h77, L77, X77, e77, b77, K77, G77, s77⟩ := own_fill X75 hx hlt hZ hown (rc := "com/example/durable_state/durablestate/model/RefusedException") (by decide) (own_W hw) (hwi hw 1 rfl) (by rw [hs0]; exact ThS.start.ext O0) hTK hBelow e75 sz77 (by rw [hs0]; exact K78) (by intro x hx; simp only [List.mem_append, List.mem_cons, List.not_mem_nil, or_false, false_or] at hx; rcases hx with (rfl | rfl) | rfl <;> rfl) F79 F80 F81 hU F82 (Sta.ext O76 SU) (g := (mkF m 24 #[rv a, .val w] [(.ref a)])) rfl (by rw [hml]; rfl) rfl (hb hby d7_24) (by decide) (Wd := 0) (by show 2 * 0 + _ ≤ _; exact Nat.le_of_eq rfl) (by decide) (by decide) (by decide)
  have N77 := Fr.app N75 (fun y hy => by rw [b77 y hy]; exact f0 : Fr Z.heap.size L77)
  have F83 := (Fld.other W75 (Fld.other W70 (Fld.same W65 F_cause) (Or.inr (slot_ne (a0 := a0) (Or.inl (hwi hw 48 rfl)) (Or.inl (hwi hw 51 rfl)) (by decide) (t := (.object "java/lang/Throwable")) (t' := (.array (.object "java/lang/StackTraceElement"))) (by decide) (by decide)))) (Or.inr (slot_ne (a0 := a0) (Or.inl (hwi hw 48 rfl)) (Or.inl (hwi hw 54 rfl)) (by decide) (t := (.object "java/lang/Throwable")) (t' := (.object "java/util/List")) (by decide) (by decide))))
  have F84 := G77 F83 (slot_ne (a0 := a0) (Or.inl (hwi hw 48 rfl)) (Or.inl (hwi hw 79 rfl)) (by decide) (t := (.object "java/lang/Throwable")) (t' := (.object "java/lang/Object")) (by decide) (by decide)) (slot_ne (a0 := a0) (Or.inl (hwi hw 48 rfl)) (Or.inl (hwi hw 80 rfl)) (by decide) (t := (.object "java/lang/Throwable")) (t' := .int) (by decide) (by decide)) (slot_ne (a0 := a0) (Or.inl (hwi hw 48 rfl)) (Or.inl (hwi hw 51 rfl)) (by decide) (t := (.object "java/lang/Throwable")) (t' := (.array (.object "java/lang/StackTraceElement"))) (by decide) (by decide))
  have F85 := (Fld.same W75 F74)
  have F86 := G77 F85 (slot_ne (a0 := a0) (Or.inl (hwi hw 54 rfl)) (Or.inl (hwi hw 79 rfl)) (by decide) (t := (.object "java/util/List")) (t' := (.object "java/lang/Object")) (by decide) (by decide)) (slot_ne (a0 := a0) (Or.inl (hwi hw 54 rfl)) (Or.inl (hwi hw 80 rfl)) (by decide) (t := (.object "java/util/List")) (t' := .int) (by decide) (by decide)) (slot_ne (a0 := a0) (Or.inl (hwi hw 54 rfl)) (Or.inl (hwi hw 51 rfl)) (by decide) (t := (.object "java/util/List")) (t' := (.array (.object "java/lang/StackTraceElement"))) (by decide) (by decide))
  have F87 := (Fld.other W75 (Fld.other W70 (Fld.other W65 F_detailMessage (Or.inr (slot_ne (a0 := a0) (Or.inl (hwi hw 78 rfl)) (Or.inl (hwi hw 48 rfl)) (by decide) (t := (.object "java/lang/String")) (t' := (.object "java/lang/Throwable")) (by decide) (by decide)))) (Or.inr (slot_ne (a0 := a0) (Or.inl (hwi hw 78 rfl)) (Or.inl (hwi hw 51 rfl)) (by decide) (t := (.object "java/lang/String")) (t' := (.array (.object "java/lang/StackTraceElement"))) (by decide) (by decide)))) (Or.inr (slot_ne (a0 := a0) (Or.inl (hwi hw 78 rfl)) (Or.inl (hwi hw 54 rfl)) (by decide) (t := (.object "java/lang/String")) (t' := (.object "java/util/List")) (by decide) (by decide))))
  have F88 := G77 F87 (slot_ne (a0 := a0) (Or.inl (hwi hw 78 rfl)) (Or.inl (hwi hw 79 rfl)) (by decide) (t := (.object "java/lang/String")) (t' := (.object "java/lang/Object")) (by decide) (by decide)) (slot_ne (a0 := a0) (Or.inl (hwi hw 78 rfl)) (Or.inl (hwi hw 80 rfl)) (by decide) (t := (.object "java/lang/String")) (t' := .int) (by decide) (by decide)) (slot_ne (a0 := a0) (Or.inl (hwi hw 78 rfl)) (Or.inl (hwi hw 51 rfl)) (by decide) (t := (.object "java/lang/String")) (t' := (.array (.object "java/lang/StackTraceElement"))) (by decide) (by decide))
  have F89 := (Fld.other W75 (Fld.other W70 (Fld.other W65 F_path (Or.inr (slot_ne (a0 := a0) (Or.inr (hwi hw 84 rfl)) (Or.inl (hwi hw 48 rfl)) (by decide) (t := (.object "com/example/durable_state/durablestate/model/StatePath")) (t' := (.object "java/lang/Throwable")) (by decide) (by decide)))) (Or.inr (slot_ne (a0 := a0) (Or.inr (hwi hw 84 rfl)) (Or.inl (hwi hw 51 rfl)) (by decide) (t := (.object "com/example/durable_state/durablestate/model/StatePath")) (t' := (.array (.object "java/lang/StackTraceElement"))) (by decide) (by decide)))) (Or.inr (slot_ne (a0 := a0) (Or.inr (hwi hw 84 rfl)) (Or.inl (hwi hw 54 rfl)) (by decide) (t := (.object "com/example/durable_state/durablestate/model/StatePath")) (t' := (.object "java/util/List")) (by decide) (by decide))))
  have F90 := G77 F89 (slot_ne (a0 := a0) (Or.inr (hwi hw 84 rfl)) (Or.inl (hwi hw 79 rfl)) (by decide) (t := (.object "com/example/durable_state/durablestate/model/StatePath")) (t' := (.object "java/lang/Object")) (by decide) (by decide)) (slot_ne (a0 := a0) (Or.inr (hwi hw 84 rfl)) (Or.inl (hwi hw 80 rfl)) (by decide) (t := (.object "com/example/durable_state/durablestate/model/StatePath")) (t' := .int) (by decide) (by decide)) (slot_ne (a0 := a0) (Or.inr (hwi hw 84 rfl)) (Or.inl (hwi hw 51 rfl)) (by decide) (t := (.object "com/example/durable_state/durablestate/model/StatePath")) (t' := (.array (.object "java/lang/StackTraceElement"))) (by decide) (by decide))
  have O91 : Ext Z.heap h77 := xk O76 K77 (allS f0 all0)
  refine go s77 ?_
  show Ends p e below _ T77 (mkF m 27 #[rv a, .val w] [(.ref a)])
  refine go (fun _ => XT.pop X77.here hx rfl (hb hby d7_27) rfl rfl) ?_
  refine go (fun _ => XS.aloadN X77.here hx rfl (hb hby d7_28) rfl rfl) ?_
  refine go (fun _ => XS.aloadN X77.here hx rfl (hb hby d7_29) rfl wr) ?_
  show Ends p e below _ T77 (mkF m 30 #[rv a, .val w] [w, (.ref a)])
  have F92 := (Exa.keep F79 K77)
  obtain ⟨T93, h93, X93, e93, W93, s93⟩ := putF X77 hx hZ hown (host := "") (Or.inl (hwi hw 82 rfl)) Via.refl e77 F88 F92 (Or.inl (hwi hw 78 rfl)) (hwi hw 1 rfl) (ty := (.object "java/lang/String")) (by decide) (by rcases ref_cases wr with h | ⟨b, h⟩ <;> rw [h] <;> rfl) (by rcases ref_cases wr with h | ⟨b, h⟩ <;> rw [h] <;> rfl) (g := (mkF m 30 #[rv a, .val w] [w, (.ref a)])) rfl rfl (hb hby d7_30)
  have N93 := Fr.snoc X93 N77 f0
  have O94 : Ext Z.heap h93 := xw O91 W93 f0
  refine go s93 ?_
  show Ends p e below _ T93 (mkF m 33 #[rv a, .val w] [])
  have K95 : Keep h0 h93 [a] := (Keep.wr (Keep.trans K78 K77 (allS (Or.inl (List.mem_of_getElem? (i := 0) rfl)) all0)) W93 (Or.inl (List.mem_of_getElem? (i := 0) rfl)))
  have F96 := (Fld.same W93 F88)
  have F97 := (Fld.other W93 F90 (Or.inr (slot_ne (a0 := a0) (Or.inr (hwi hw 84 rfl)) (Or.inl (hwi hw 78 rfl)) (by decide) (t := (.object "com/example/durable_state/durablestate/model/StatePath")) (t' := (.object "java/lang/String")) (by decide) (by decide))))
  exact endV X93 hx hret (hb hby d7_33) (lvN X93 hlk e93 (fun _ => rfl) ⟨rfl, N93, K95, F96, F97⟩ (by decide) (by decide))
set_option maxRecDepth 65536 in
set_option maxHeartbeats 40000000 in
theorem rm_Exception {l : Launch} {Z : State} {a0 : Array Value} (hw : ∀ d ∈ tables_1, d.before a0 Z = true) (a : Addr) (w : Value) (wU wN : Value) (h0 : Heap) (O0 : Ext Z.heap h0) (f0 : Z.heap.size ≤ a) (E0 : Exa Z h0 a "com/example/durable_state/durablestate/model/RefusedException") (U0 : Unt h0 a) (F_cause : Fld Z h0 a "java/lang/Throwable" "cause" "Ljava/lang/Throwable;" .null) (F_stackTrace : Fld Z h0 a "java/lang/Throwable" "stackTrace" "[Ljava/lang/StackTraceElement;" .null) (F_suppressedExceptions : Fld Z h0 a "java/lang/Throwable" "suppressedExceptions" "Ljava/util/List;" .null) (F_detailMessage : Fld Z h0 a "java/lang/Throwable" "detailMessage" "Ljava/lang/String;" .null) (F_backtrace : Fld Z h0 a "java/lang/Throwable" "backtrace" "Ljava/lang/Object;" .null) (F_path : Fld Z h0 a "com/example/durable_state/durablestate/model/RefusedException" "path" "Lcom/example/durable_state/durablestate/model/StatePath;" .null) (hlt : l.stackTraces = true) (hU : wU.isRef = true) (hN : wN.isRef = true) (SU : Sta Z Z.heap "java/lang/Throwable" "UNASSIGNED_STACK" "[Ljava/lang/StackTraceElement;" wU) (SN : Sta Z Z.heap "java/lang/Throwable" "SUPPRESSED_SENTINEL" "Ljava/util/List;" wN) (wr : w.isRef = true) :
    Con l (⟨"java/lang/Exception", "<init>", "(Ljava/lang/String;)V"⟩ : MethodName) jdk_59_method_2_code 2 none ({ frames := 4, cells := 1, slots := 2752, locals := 73 } : Room) Z #[(.ref a), w] h0 (fun v h L => v = none ∧ Fr Z.heap.size L ∧ Keep h0 h [a] ∧ Fld Z h a "java/lang/Throwable" "detailMessage" "Ljava/lang/String;" w ∧ Fld Z h a "com/example/durable_state/durablestate/model/RefusedException" "path" "Lcom/example/durable_state/durablestate/model/StatePath;" .null) := by
  refine Con.of (plainFor_of_name pn_10) (Ls := #[rv a, .val w]) (fun m => by rcases ref_cases wr with rfl | ⟨_, rfl⟩ <;> first | rfl | (simp [entryFrame, mkF, argsToLocals, Value.category]; done)) ?_
  intro p e s m below meth c T0 X0 hx hZ hby hml hown hnm hret hlk e0 hs0 hTK hBelow
  refine go (fun _ => XS.aloadN X0.here hx rfl (hb hby d8_0) rfl rfl) ?_
  refine go (fun _ => XS.aloadN X0.here hx rfl (hb hby d8_1) rfl wr) ?_
  show Ends p e below _ T0 (mkF m 2 #[rv a, .val w] [w, (.ref a)])
  have F98 := F_suppressedExceptions
  have F99 := F_detailMessage
  refine cInit X0 hx hZ hown (by rw [hml]; rfl) e0 hTK hBelow (hwi hw 40 rfl) (hwi hw 41 rfl) (hwi hw 44 rfl) (hwi hw 45 rfl) a [w] [] rfl (rm_thr hw a w wU wN _ O0 f0 E0 U0 F_cause F_stackTrace F98 F99 F_backtrace F_path hlt hU hN SU SN wr) (hb hby d8_2) rfl (lenOf pd_11 rfl) rfl (by decide) (by decide) (Nat.le_of_ble_eq_true rfl) (by decide) (by decide) ?_
  rintro v100 T100 h100 L100 X100 e100 ⟨rfl, N100, K100, Fm100, F100_0⟩
  have N100a := Fr.app (Fr.nil _) N100
  have O101 : Ext Z.heap h100 := xk O0 K100 (allS f0 all0)
  show Ends p e below _ T100 (mkF m 5 #[rv a, .val w] [])
  have K102 : Keep h0 h100 [a] := (Keep.trans (Keep.refl _ _) K100 (allS (Or.inl (List.mem_of_getElem? (i := 0) rfl)) all0))
  exact endV X100 hx hret (hb hby d8_5) (lvN X100 hlk e100 (fun _ => rfl) ⟨rfl, N100a, K102, Fm100, F100_0⟩ (by decide) (by decide))
set_option maxRecDepth 65536 in
set_option maxHeartbeats 40000000 in
theorem rm_re2 {l : Launch} {Z : State} {a0 : Array Value} (hw : ∀ d ∈ tables_1, d.before a0 Z = true) (a x : Addr) (wU wN : Value) (h0 : Heap) (O0 : Ext Z.heap h0) (f0 : Z.heap.size ≤ a) (E0 : Exa Z h0 a "com/example/durable_state/durablestate/model/RefusedException") (U0 : Unt h0 a) (F_cause : Fld Z h0 a "java/lang/Throwable" "cause" "Ljava/lang/Throwable;" .null) (F_stackTrace : Fld Z h0 a "java/lang/Throwable" "stackTrace" "[Ljava/lang/StackTraceElement;" .null) (F_suppressedExceptions : Fld Z h0 a "java/lang/Throwable" "suppressedExceptions" "Ljava/util/List;" .null) (F_detailMessage : Fld Z h0 a "java/lang/Throwable" "detailMessage" "Ljava/lang/String;" .null) (F_backtrace : Fld Z h0 a "java/lang/Throwable" "backtrace" "Ljava/lang/Object;" .null) (F_path : Fld Z h0 a "com/example/durable_state/durablestate/model/RefusedException" "path" "Lcom/example/durable_state/durablestate/model/StatePath;" .null) (hlt : l.stackTraces = true) (hU : wU.isRef = true) (hN : wN.isRef = true) (SU : Sta Z Z.heap "java/lang/Throwable" "UNASSIGNED_STACK" "[Ljava/lang/StackTraceElement;" wU) (SN : Sta Z Z.heap "java/lang/Throwable" "SUPPRESSED_SENTINEL" "Ljava/util/List;" wN) :
    Con l (⟨"com/example/durable_state/durablestate/model/RefusedException", "<init>", "(Ljava/lang/String;Lcom/example/durable_state/durablestate/model/StatePath;)V"⟩ : MethodName) prog_25_method_2_code 3 none ({ frames := 5, cells := 1, slots := 2752, locals := 86 } : Room) Z #[(.ref a), (.ref x), .null] h0 (fun v h L => v = none ∧ Fr Z.heap.size L ∧ Keep h0 h [a]) := by
  refine Con.of (plainFor_of_name pn_12) (Ls := #[rv a, rv x, .val .null]) (fun m => efOf rfl) ?_
  intro p e s m below meth c T0 X0 hx hZ hby hml hown hnm hret hlk e0 hs0 hTK hBelow
  refine go (fun _ => XS.aloadN X0.here hx rfl (hb hby d9_0) rfl rfl) ?_
  refine go (fun _ => XS.aloadN X0.here hx rfl (hb hby d9_1) rfl rfl) ?_
  show Ends p e below _ T0 (mkF m 2 #[rv a, rv x, .val .null] [(.ref x), (.ref a)])
  have F103 := F_suppressedExceptions
  have F104 := F_detailMessage
  refine cInit X0 hx hZ hown (by rw [hml]; rfl) e0 hTK hBelow (hwi hw 35 rfl) (hwi hw 36 rfl) (hwi hw 38 rfl) (hwi hw 39 rfl) a [(.ref x)] [] rfl (rm_Exception hw a (.ref x) wU wN _ O0 f0 E0 U0 F_cause F_stackTrace F103 F104 F_backtrace F_path hlt hU hN SU SN rfl) (hb hby d9_2) rfl (lenOf pd_11 rfl) rfl (by decide) (by decide) (Nat.le_of_ble_eq_true rfl) (by decide) (by decide) ?_
  rintro v105 T105 h105 L105 X105 e105 ⟨rfl, N105, K105, Fm105, F105_0⟩
  have N105a := Fr.app (Fr.nil _) N105
  have O106 : Ext Z.heap h105 := xk O0 K105 (allS f0 all0)
  show Ends p e below _ T105 (mkF m 5 #[rv a, rv x, .val .null] [])
  refine go (fun _ => XS.aloadN X105.here hx rfl (hb hby d9_5) rfl rfl) ?_
  refine go (fun _ => XS.aloadN X105.here hx rfl (hb hby d9_6) rfl rfl) ?_
  show Ends p e below _ T105 (mkF m 7 #[rv a, rv x, .val .null] [.null, (.ref a)])
  have F107 := (Exa.keep E0 K105)
  obtain ⟨T108, h108, X108, e108, W108, s108⟩ := putF X105 hx hZ hown (host := "") (Or.inl (hwi hw 83 rfl)) Via.refl e105 F105_0 F107 (Or.inr ⟨(hwi hw 84 rfl), rfl, hnm⟩) (hwi hw 1 rfl) (ty := (.object "com/example/durable_state/durablestate/model/StatePath")) (by decide) rfl rfl (g := (mkF m 7 #[rv a, rv x, .val .null] [.null, (.ref a)])) rfl rfl (hb hby d9_7)
  have N108 := Fr.snoc X108 N105a f0
  have O109 : Ext Z.heap h108 := xw O106 W108 f0
  refine go s108 ?_
  show Ends p e below _ T108 (mkF m 10 #[rv a, rv x, .val .null] [])
  have K110 : Keep h0 h108 [a] := (Keep.wr (Keep.trans (Keep.refl _ _) K105 (allS (Or.inl (List.mem_of_getElem? (i := 0) rfl)) all0)) W108 (Or.inl (List.mem_of_getElem? (i := 0) rfl)))
  exact endV X108 hx hret (hb hby d9_10) (lvN X108 hlk e108 (fun _ => rfl) ⟨rfl, N108, K110⟩ (by decide) (by decide))
set_option maxRecDepth 65536 in
set_option maxHeartbeats 40000000 in
theorem rm_re1 {l : Launch} {Z : State} {a0 : Array Value} (hw : ∀ d ∈ tables_1, d.before a0 Z = true) (a x : Addr) (wU wN : Value) (h0 : Heap) (O0 : Ext Z.heap h0) (f0 : Z.heap.size ≤ a) (E0 : Exa Z h0 a "com/example/durable_state/durablestate/model/RefusedException") (U0 : Unt h0 a) (F_cause : Fld Z h0 a "java/lang/Throwable" "cause" "Ljava/lang/Throwable;" .null) (F_stackTrace : Fld Z h0 a "java/lang/Throwable" "stackTrace" "[Ljava/lang/StackTraceElement;" .null) (F_suppressedExceptions : Fld Z h0 a "java/lang/Throwable" "suppressedExceptions" "Ljava/util/List;" .null) (F_detailMessage : Fld Z h0 a "java/lang/Throwable" "detailMessage" "Ljava/lang/String;" .null) (F_backtrace : Fld Z h0 a "java/lang/Throwable" "backtrace" "Ljava/lang/Object;" .null) (F_path : Fld Z h0 a "com/example/durable_state/durablestate/model/RefusedException" "path" "Lcom/example/durable_state/durablestate/model/StatePath;" .null) (hlt : l.stackTraces = true) (hU : wU.isRef = true) (hN : wN.isRef = true) (SU : Sta Z Z.heap "java/lang/Throwable" "UNASSIGNED_STACK" "[Ljava/lang/StackTraceElement;" wU) (SN : Sta Z Z.heap "java/lang/Throwable" "SUPPRESSED_SENTINEL" "Ljava/util/List;" wN) :
    Con l (⟨"com/example/durable_state/durablestate/model/RefusedException", "<init>", "(Ljava/lang/String;)V"⟩ : MethodName) prog_25_method_1_code 2 none ({ frames := 6, cells := 1, slots := 2752, locals := 100 } : Room) Z #[(.ref a), (.ref x)] h0 (fun v h L => v = none ∧ Fr Z.heap.size L ∧ Keep h0 h [a]) := by
  refine Con.of (plainFor_of_name pn_12) (Ls := #[rv a, rv x]) (fun m => efOf rfl) ?_
  intro p e s m below meth c T0 X0 hx hZ hby hml hown hnm hret hlk e0 hs0 hTK hBelow
  refine go (fun _ => XS.aloadN X0.here hx rfl (hb hby d10_0) rfl rfl) ?_
  refine go (fun _ => XS.aloadN X0.here hx rfl (hb hby d10_1) rfl rfl) ?_
  refine go (fun _ => XS.aconstNull X0.here hx rfl (hb hby d10_2)) ?_
  show Ends p e below _ T0 (mkF m 3 #[rv a, rv x] [.null, (.ref x), (.ref a)])
  have F111 := F_suppressedExceptions
  have F112 := F_detailMessage
  refine cInit X0 hx hZ hown (by rw [hml]; rfl) e0 hTK hBelow (hwi hw 32 rfl) (hwi hw 33 rfl) (hwi hw 2 rfl) (hwi hw 34 rfl) a [(.ref x), .null] [] rfl (rm_re2 hw a x wU wN _ O0 f0 E0 U0 F_cause F_stackTrace F111 F112 F_backtrace F_path hlt hU hN SU SN) (hb hby d10_3) rfl (lenOf pd_13 rfl) rfl (by decide) (by decide) (Nat.le_of_ble_eq_true rfl) (by decide) (by decide) ?_
  rintro v113 T113 h113 L113 X113 e113 ⟨rfl, N113, K113⟩
  have N113a := Fr.app (Fr.nil _) N113
  have O114 : Ext Z.heap h113 := xk O0 K113 (allS f0 all0)
  show Ends p e below _ T113 (mkF m 6 #[rv a, rv x] [])
  have K115 : Keep h0 h113 [a] := (Keep.trans (Keep.refl _ _) K113 (allS (Or.inl (List.mem_of_getElem? (i := 0) rfl)) all0))
  exact endV X113 hx hret (hb hby d10_6) (lvN X113 hlk e113 (fun _ => rfl) ⟨rfl, N113a, K115⟩ (by decide) (by decide))
set_option maxRecDepth 65536 in
set_option maxHeartbeats 40000000 in
theorem rm_um {l : Launch} {Z : State} {a0 : Array Value} (hw : ∀ d ∈ tables_1, d.before a0 Z = true) (a : Addr) (w : Value) (x : Addr) (h0 : Heap) (O0 : Ext Z.heap h0) (f0 : Z.heap.size ≤ a) (E0 : Exa Z h0 a "com/example/durable_state/durablestate/service/Unmigrated") (F_stored : Fld Z h0 a "com/example/durable_state/durablestate/service/Unmigrated" "stored" "Ljava/lang/Object;" .null) (F_refusal : Fld Z h0 a "com/example/durable_state/durablestate/service/Unmigrated" "refusal" "Lcom/example/durable_state/durablestate/model/RefusedException;" .null) (wr : w.isRef = true)  :
    Con l (⟨"com/example/durable_state/durablestate/service/Unmigrated", "<init>", "(Ljava/lang/Object;Lcom/example/durable_state/durablestate/model/RefusedException;)V"⟩ : MethodName) prog_43_method_1_code 3 none ({ frames := 1, cells := 0, slots := 0, locals := 12 } : Room) Z #[(.ref a), w, (.ref x)] h0 (fun v h L => v = none ∧ Fr Z.heap.size L ∧ Keep h0 h [a] ∧ Fld Z h a "com/example/durable_state/durablestate/service/Unmigrated" "stored" "Ljava/lang/Object;" w ∧ Fld Z h a "com/example/durable_state/durablestate/service/Unmigrated" "refusal" "Lcom/example/durable_state/durablestate/model/RefusedException;" (.ref x)) := by
  refine Con.of (plainFor_of_name pn_14) (Ls := #[rv a, .val w, rv x]) (fun m => by rcases ref_cases wr with rfl | ⟨_, rfl⟩ <;> first | rfl | (simp [entryFrame, mkF, argsToLocals, Value.category]; done)) ?_
  intro p e s m below meth c T0 X0 hx hZ hby hml hown hnm hret hlk e0 hs0 hTK hBelow
  refine go (fun _ => XS.aloadN X0.here hx rfl (hb hby d11_0) rfl rfl) ?_
  show Ends p e below _ T0 (mkF m 1 #[rv a, .val w, rv x] [(.ref a)])
  obtain ⟨T116, X116, e116, s116⟩ := initO X0 hx hZ hown (hwi hw 102 rfl) (hwi hw 23 rfl) (hwi hw 24 rfl) e0 (g := (mkF m 1 #[rv a, .val w, rv x] [(.ref a)])) rfl (by rw [hml]; rfl) rfl (hb hby d11_1) (by decide) (W := 0) (by show 2 * 0 + _ ≤ _; exact Nat.le_of_eq rfl) (by decide)
  refine go s116 ?_
  show Ends p e below _ T116 (mkF m 4 #[rv a, .val w, rv x] [])
  refine go (fun _ => XS.aloadN X116.here hx rfl (hb hby d11_4) rfl rfl) ?_
  refine go (fun _ => XS.aloadN X116.here hx rfl (hb hby d11_5) rfl wr) ?_
  show Ends p e below _ T116 (mkF m 6 #[rv a, .val w, rv x] [w, (.ref a)])
  obtain ⟨T117, h117, X117, e117, W117, s117⟩ := putF X116 hx hZ hown (host := "") (Or.inl (hwi hw 103 rfl)) Via.refl e116 F_stored E0 (Or.inr ⟨(hwi hw 104 rfl), rfl, hnm⟩) (hwi hw 98 rfl) (ty := (.object "java/lang/Object")) (by decide) (by rcases ref_cases wr with h | ⟨b, h⟩ <;> rw [h] <;> rfl) (by rcases ref_cases wr with h | ⟨b, h⟩ <;> rw [h] <;> rfl) (g := (mkF m 6 #[rv a, .val w, rv x] [w, (.ref a)])) rfl rfl (hb hby d11_6)
  have N117 := Fr.snoc X117 (Fr.nil _) f0
  have O118 : Ext Z.heap h117 := xw O0 W117 f0
  refine go s117 ?_
  show Ends p e below _ T117 (mkF m 9 #[rv a, .val w, rv x] [])
  refine go (fun _ => XS.aloadN X117.here hx rfl (hb hby d11_9) rfl rfl) ?_
  refine go (fun _ => XS.aloadN X117.here hx rfl (hb hby d11_10) rfl rfl) ?_
  show Ends p e below _ T117 (mkF m 11 #[rv a, .val w, rv x] [(.ref x), (.ref a)])
  have F119 := (Exa.wr W117 E0)
  have F120 := (Fld.other W117 F_refusal (Or.inr (slot_ne (a0 := a0) (Or.inr (hwi hw 106 rfl)) (Or.inr (hwi hw 104 rfl)) (by decide) (t := (.object "com/example/durable_state/durablestate/model/RefusedException")) (t' := (.object "java/lang/Object")) (by decide) (by decide))))
  obtain ⟨T121, h121, X121, e121, W121, s121⟩ := putF X117 hx hZ hown (host := "") (Or.inl (hwi hw 105 rfl)) Via.refl e117 F120 F119 (Or.inr ⟨(hwi hw 106 rfl), rfl, hnm⟩) (hwi hw 98 rfl) (ty := (.object "com/example/durable_state/durablestate/model/RefusedException")) (by decide) rfl rfl (g := (mkF m 11 #[rv a, .val w, rv x] [(.ref x), (.ref a)])) rfl rfl (hb hby d11_11)
  have N121 := Fr.snoc X121 N117 f0
  have O122 : Ext Z.heap h121 := xw O118 W121 f0
  refine go s121 ?_
  show Ends p e below _ T121 (mkF m 14 #[rv a, .val w, rv x] [])
  have K123 : Keep h0 h121 [a] := (Keep.wr (Keep.wr (Keep.refl _ _) W117 (Or.inl (List.mem_of_getElem? (i := 0) rfl))) W121 (Or.inl (List.mem_of_getElem? (i := 0) rfl)))
  have F124 := (Fld.other W121 (Fld.same W117 F_stored) (Or.inr (slot_ne (a0 := a0) (Or.inr (hwi hw 104 rfl)) (Or.inr (hwi hw 106 rfl)) (by decide) (t := (.object "java/lang/Object")) (t' := (.object "com/example/durable_state/durablestate/model/RefusedException")) (by decide) (by decide))))
  have F125 := (Fld.same W121 F120)
  exact endV X121 hx hret (hb hby d11_14) (lvN X121 hlk e121 (fun _ => rfl) ⟨rfl, N121, K123, F124, F125⟩ (by decide) (by decide))
set_option maxRecDepth 65536 in
set_option maxHeartbeats 40000000 in
theorem rm_stN {l : Launch} {Z : State} {a0 : Array Value} (hw : ∀ d ∈ tables_1, d.before a0 Z = true)  (h0 : Heap)  :
    Con l (⟨"com/example/durable_state/durablestate/service/Unmigrated", "stored", "(Ljava/lang/Object;)Ljava/lang/Object;"⟩ : MethodName) prog_43_method_3_code 1 (some (.object "java/lang/Object")) ({ frames := 0, cells := 0, slots := 0, locals := 0 } : Room) Z #[.null] h0 (fun v h L => v = some .null ∧ Fr Z.heap.size L ∧ h0 = h) := by
  refine Con.of (plainFor_of_name pn_14) (Ls := #[.val .null]) (fun m => efOf rfl) ?_
  intro p e s m below meth c T0 X0 hx hZ hby hml hown hnm hret hlk e0 hs0 hTK hBelow
  refine go (fun _ => XS.aloadN X0.here hx rfl (hb hby d12_0) rfl rfl) ?_
  show Ends p e below _ T0 (mkF m 1 #[.val .null] [.null])
  refine go (Jvm.Stand.instanceofNull X0 hx (g := (mkF m 1 #[.val .null] [.null])) rfl rfl (hb hby d12_1)) ?_
  show Ends p e below _ T0 (mkF m 4 #[.val .null] [(.int (0 : Int32))])
  refine go (fun _ => XS.ifYes X0.here hx rfl (pc0 := 4) (pc' := 17) rfl (hb hby d12_4) rfl (XT.i0_eq_t ((by decide) : (0 : Int32) = (0 : Int32))) (by decide) (by decide)) ?_
  show Ends p e below _ T0 (mkF m 17 #[.val .null] [])
  refine go (fun _ => XS.aloadN X0.here hx rfl (hb hby d12_17) rfl rfl) ?_
  show Ends p e below _ T0 (mkF m 18 #[.val .null] [.null])
  exact endA X0 hx hret rfl rfl (hb hby d12_18) (lvN X0 hlk e0 (fun h => by rw [hret] at h; cases h) ⟨rfl, (Fr.nil _), rfl⟩ (by decide) (by decide))
set_option maxRecDepth 65536 in
set_option maxHeartbeats 40000000 in
theorem rm_stM {l : Launch} {Z : State} {a0 : Array Value} (hw : ∀ d ∈ tables_1, d.before a0 Z = true) (a : Addr) (w : Value) (h0 : Heap) (wr : w.isRef = true) (E0 : Exa Z h0 a "com/example/durable_state/durablestate/service/Unmigrated") (F0 : Fld Z h0 a "com/example/durable_state/durablestate/service/Unmigrated" "stored" "Ljava/lang/Object;" w) :
    Con l (⟨"com/example/durable_state/durablestate/service/Unmigrated", "stored", "(Ljava/lang/Object;)Ljava/lang/Object;"⟩ : MethodName) prog_43_method_3_code 1 (some (.object "java/lang/Object")) ({ frames := 0, cells := 0, slots := 0, locals := 0 } : Room) Z #[(.ref a)] h0 (fun v h L => v = some w ∧ Fr Z.heap.size L ∧ h0 = h) := by
  refine Con.of (plainFor_of_name pn_14) (Ls := #[rv a]) (fun m => efOf rfl) ?_
  intro p e s m below meth c T0 X0 hx hZ hby hml hown hnm hret hlk e0 hs0 hTK hBelow
  refine go (fun _ => XS.aloadN X0.here hx rfl (hb hby d12_0) rfl rfl) ?_
  show Ends p e below _ T0 (mkF m 1 #[rv a] [(.ref a)])
  obtain ⟨T127, X127, e127, s127⟩ := instY X0 hx hZ hown (hwi hw 107 rfl) e0 (Ins.self E0) (g := (mkF m 1 #[rv a] [(.ref a)])) rfl rfl (hb hby d12_1)
  refine go s127 ?_
  show Ends p e below _ T127 (mkF m 4 #[rv a] [(.int (1 : Int32))])
  refine go (fun _ => XS.ifNo X127.here hx rfl (hb hby d12_4) rfl (XT.i0_eq_f ((by decide) : ¬ ((1 : Int32) = (0 : Int32))))) ?_
  show Ends p e below _ T127 (mkF m 7 #[rv a] [])
  refine go (fun _ => XS.aloadN X127.here hx rfl (hb hby d12_7) rfl rfl) ?_
  show Ends p e below _ T127 (mkF m 8 #[rv a] [(.ref a)])
  obtain ⟨T128, X128, e128, s128⟩ := castY X127 hx hZ hown (hwi hw 107 rfl) e127 (Ins.self E0) (g := (mkF m 8 #[rv a] [(.ref a)])) rfl rfl (hb hby d12_8)
  refine go s128 ?_
  show Ends p e below _ T128 (mkF m 11 #[rv a] [(.ref a)])
  obtain ⟨T129, X129, e129, s129⟩ := getF X128 hx hZ hown (host := "") (Or.inl (hwi hw 103 rfl)) Via.refl e128 F0 (g := (mkF m 11 #[rv a] [(.ref a)])) rfl rfl (hb hby d12_11)
  refine go s129 ?_
  show Ends p e below _ T129 (mkF m 14 #[rv a] [w])
  refine go (fun _ => XS.goto X129.here hx rfl (pc0 := 14) (pc' := 18) rfl (hb hby d12_14) (by decide) (by decide)) ?_
  show Ends p e below _ T129 (mkF m 18 #[rv a] [w])
  exact endA X129 hx hret rfl wr (hb hby d12_18) (lvN X129 hlk e129 (fun h => by rw [hret] at h; cases h) ⟨rfl, (Fr.nil _), rfl⟩ (by decide) (by decide))
set_option maxRecDepth 65536 in
set_option maxHeartbeats 40000000 in
theorem rm_stS {l : Launch} {Z : State} {a0 : Array Value} (hw : ∀ d ∈ tables_1, d.before a0 Z = true) (a : Addr) (h0 : Heap) (E0 : Exa Z h0 a "java/lang/String") :
    Con l (⟨"com/example/durable_state/durablestate/service/Unmigrated", "stored", "(Ljava/lang/Object;)Ljava/lang/Object;"⟩ : MethodName) prog_43_method_3_code 1 (some (.object "java/lang/Object")) ({ frames := 0, cells := 0, slots := 0, locals := 0 } : Room) Z #[(.ref a)] h0 (fun v h L => v = some (.ref a) ∧ Fr Z.heap.size L ∧ h0 = h) := by
  refine Con.of (plainFor_of_name pn_14) (Ls := #[rv a]) (fun m => efOf rfl) ?_
  intro p e s m below meth c T0 X0 hx hZ hby hml hown hnm hret hlk e0 hs0 hTK hBelow
  refine go (fun _ => XS.aloadN X0.here hx rfl (hb hby d12_0) rfl rfl) ?_
  show Ends p e below _ T0 (mkF m 1 #[rv a] [(.ref a)])
  obtain ⟨T130, X130, e130, s130⟩ := instNo X0 hx hZ hown (hwi hw 107 rfl) e0 E0 (own_nsno (hwi hw 124 rfl) (hwi hw 98 rfl) (NS.step (hwi hw 124 rfl) (own_nsroot (hwi hw 125 rfl) (hwi hw 98 rfl) (by decide)) (by decide)) (by decide)) (g := (mkF m 1 #[rv a] [(.ref a)])) rfl rfl (hb hby d12_1)
  refine go s130 ?_
  show Ends p e below _ T130 (mkF m 4 #[rv a] [(.int (0 : Int32))])
  refine go (fun _ => XS.ifYes X130.here hx rfl (pc0 := 4) (pc' := 17) rfl (hb hby d12_4) rfl (XT.i0_eq_t ((by decide) : (0 : Int32) = (0 : Int32))) (by decide) (by decide)) ?_
  show Ends p e below _ T130 (mkF m 17 #[rv a] [])
  refine go (fun _ => XS.aloadN X130.here hx rfl (hb hby d12_17) rfl rfl) ?_
  show Ends p e below _ T130 (mkF m 18 #[rv a] [(.ref a)])
  exact endA X130 hx hret rfl rfl (hb hby d12_18) (lvN X130 hlk e130 (fun h => by rw [hret] at h; cases h) ⟨rfl, (Fr.nil _), rfl⟩ (by decide) (by decide))
set_option maxRecDepth 65536 in
set_option maxHeartbeats 40000000 in
theorem rm_stL {l : Launch} {Z : State} {a0 : Array Value} (hw : ∀ d ∈ tables_1, d.before a0 Z = true) (a : Addr) (h0 : Heap) (E0 : Exa Z h0 a "java/lang/Long") :
    Con l (⟨"com/example/durable_state/durablestate/service/Unmigrated", "stored", "(Ljava/lang/Object;)Ljava/lang/Object;"⟩ : MethodName) prog_43_method_3_code 1 (some (.object "java/lang/Object")) ({ frames := 0, cells := 0, slots := 0, locals := 0 } : Room) Z #[(.ref a)] h0 (fun v h L => v = some (.ref a) ∧ Fr Z.heap.size L ∧ h0 = h) := by
  refine Con.of (plainFor_of_name pn_14) (Ls := #[rv a]) (fun m => efOf rfl) ?_
  intro p e s m below meth c T0 X0 hx hZ hby hml hown hnm hret hlk e0 hs0 hTK hBelow
  refine go (fun _ => XS.aloadN X0.here hx rfl (hb hby d12_0) rfl rfl) ?_
  show Ends p e below _ T0 (mkF m 1 #[rv a] [(.ref a)])
  obtain ⟨T131, X131, e131, s131⟩ := instNo X0 hx hZ hown (hwi hw 107 rfl) e0 E0 (own_nsno (hwi hw 126 rfl) (hwi hw 98 rfl) (NS.step (hwi hw 126 rfl) (NS.step (hwi hw 127 rfl) (own_nsroot (hwi hw 125 rfl) (hwi hw 98 rfl) (by decide)) (by decide)) (by decide)) (by decide)) (g := (mkF m 1 #[rv a] [(.ref a)])) rfl rfl (hb hby d12_1)
  refine go s131 ?_
  show Ends p e below _ T131 (mkF m 4 #[rv a] [(.int (0 : Int32))])
  refine go (fun _ => XS.ifYes X131.here hx rfl (pc0 := 4) (pc' := 17) rfl (hb hby d12_4) rfl (XT.i0_eq_t ((by decide) : (0 : Int32) = (0 : Int32))) (by decide) (by decide)) ?_
  show Ends p e below _ T131 (mkF m 17 #[rv a] [])
  refine go (fun _ => XS.aloadN X131.here hx rfl (hb hby d12_17) rfl rfl) ?_
  show Ends p e below _ T131 (mkF m 18 #[rv a] [(.ref a)])
  exact endA X131 hx hret rfl rfl (hb hby d12_18) (lvN X131 hlk e131 (fun h => by rw [hret] at h; cases h) ⟨rfl, (Fr.nil _), rfl⟩ (by decide) (by decide))
set_option maxRecDepth 65536 in
set_option maxHeartbeats 40000000 in
theorem rm_law {l : Launch} {Z : State} {a0 : Array Value} (hw : ∀ d ∈ tables_1, d.before a0 Z = true) (i0 : Int32) (i1 : Int64) (i2 : Int32) (aJ : Addr) (cJ : Cell) (wU wN : Value) (h0 : Heap) (O0 : Ext Z.heap h0) (cz : Int32) (SCS : Sta Z Z.heap "java/lang/String" "COMPACT_STRINGS" "Z" (.int cz)) (hcz : ¬ cz = (0 : Int32)) (SJ : Sta Z Z.heap "java/lang/Long$LongCache" "cache" "[Ljava/lang/Long;" (.ref aJ)) (BJ : Bxs Z aJ cJ "java/lang/Long" "J" (256 : Int32) (fun j => .long (j - 128).toInt64)) (hlt : l.stackTraces = true) (hU : wU.isRef = true) (hN : wN.isRef = true) (SU : Sta Z Z.heap "java/lang/Throwable" "UNASSIGNED_STACK" "[Ljava/lang/StackTraceElement;" wU) (SN : Sta Z Z.heap "java/lang/Throwable" "SUPPRESSED_SENTINEL" "Ljava/util/List;" wN) :
    Con l x code maxLocals ret room_1 Z #[(.int i0), (.long i1), (.int i2)] h0 (fun v h L => v = some (.int 1) ∧ Fr Z.heap.size L) := by
  refine Con.of (plainFor_of_name pn_15) (Ls := #[iv i0, .val (.long i1), .second, iv i2, .unset, .unset, .unset, .unset, .unset, .unset, .unset, .unset, .unset, .unset, .unset]) (fun m => efOf rfl) ?_
  intro p e s m below meth c T0 X0 hx hZ hby hml hown hnm hret hlk e0 hs0 hTK hBelow
  have hml : c.maxLocals = 15 := hml
  refine go (fun _ => XS.iloadN X0.here hx rfl (hb hby at_0) rfl) ?_
  refine go (fun _ => XT.iconstV X0.here hx rfl (3 : Int32) (hb hby at_1) (by decide)) ?_
  refine go (fun _ => XS.iand X0.here hx rfl (hb hby at_2) rfl) ?_
  show Ends p e below _ T0 (mkF m 3 #[iv i0, .val (.long i1), .second, iv i2, .unset, .unset, .unset, .unset, .unset, .unset, .unset, .unset, .unset, .unset, .unset] [(.int (i0 &&& (3 : Int32)))])
  obtain ⟨kk, hkk⟩ : ∃ z : Int32, z = (i0 &&& (3 : Int32)) := ⟨_, rfl⟩
  rw [← hkk]
  show Ends p e below _ T0 (mkF m 3 #[iv i0, .val (.long i1), .second, iv i2, .unset, .unset, .unset, .unset, .unset, .unset, .unset, .unset, .unset, .unset, .unset] [(.int kk)])
  refine go (fun _ => XS.istore X0.here hx rfl (hb hby at_3) rfl (l' := #[iv i0, .val (.long i1), .second, iv i2, iv kk, .unset, .unset, .unset, .unset, .unset, .unset, .unset, .unset, .unset, .unset]) rfl) ?_
  refine go (fun _ => XS.iloadN X0.here hx rfl (hb hby at_5) rfl) ?_
  refine go (fun _ => XT.iconstV X0.here hx rfl (4 : Int32) (hb hby at_6) (by decide)) ?_
  refine go (fun _ => XS.iand X0.here hx rfl (hb hby at_7) rfl) ?_
  show Ends p e below _ T0 (mkF m 8 #[iv i0, .val (.long i1), .second, iv i2, iv kk, .unset, .unset, .unset, .unset, .unset, .unset, .unset, .unset, .unset, .unset] [(.int (i0 &&& (4 : Int32)))])
  have J16 : ∀ (z132_0 : Int32), Ends p e below (NP s (fun v h L => v = some (.int 1) ∧ Fr Z.heap.size L) room_1.cells room_1.slots) T0 (mkF m 16 #[iv i0, .val (.long i1), .second, iv i2, iv kk, .unset, .unset, .unset, .unset, .unset, .unset, .unset, .unset, .unset, .unset] [(.int z132_0)]) := by
    intro z132_0
    refine go (fun _ => XS.istore X0.here hx rfl (hb hby at_16) rfl (l' := #[iv i0, .val (.long i1), .second, iv i2, iv kk, iv z132_0, .unset, .unset, .unset, .unset, .unset, .unset, .unset, .unset, .unset]) rfl) ?_
    refine go (fun _ => XS.iloadN X0.here hx rfl (hb hby at_18) rfl) ?_
    refine go (fun _ => XT.bipushV X0.here hx rfl (8 : Int32) (hb hby at_19) (by decide)) ?_
    refine go (fun _ => XS.iand X0.here hx rfl (hb hby at_21) rfl) ?_
    show Ends p e below _ T0 (mkF m 22 #[iv i0, .val (.long i1), .second, iv i2, iv kk, iv z132_0, .unset, .unset, .unset, .unset, .unset, .unset, .unset, .unset, .unset] [(.int (i0 &&& (8 : Int32)))])
    have J30 : ∀ (z133_0 : Int32), Ends p e below (NP s (fun v h L => v = some (.int 1) ∧ Fr Z.heap.size L) room_1.cells room_1.slots) T0 (mkF m 30 #[iv i0, .val (.long i1), .second, iv i2, iv kk, iv z132_0, .unset, .unset, .unset, .unset, .unset, .unset, .unset, .unset, .unset] [(.int z133_0)]) := by
      intro z133_0
      refine go (fun _ => XS.istore X0.here hx rfl (hb hby at_30) rfl (l' := #[iv i0, .val (.long i1), .second, iv i2, iv kk, iv z132_0, iv z133_0, .unset, .unset, .unset, .unset, .unset, .unset, .unset, .unset]) rfl) ?_
      refine go (fun _ => XS.iloadN X0.here hx rfl (hb hby at_32) rfl) ?_
      refine go (fun _ => XT.sipushV X0.here hx rfl (255 : Int32) (hb hby at_33) (by decide)) ?_
      refine go (fun _ => XS.iand X0.here hx rfl (hb hby at_36) rfl) ?_
      refine go (fun _ => XT.i2c X0.here hx rfl (hb hby at_37) rfl) ?_
      show Ends p e below _ T0 (mkF m 38 #[iv i0, .val (.long i1), .second, iv i2, iv kk, iv z132_0, iv z133_0, .unset, .unset, .unset, .unset, .unset, .unset, .unset, .unset] [(.int (i2 &&& (255 : Int32)).toUInt32.toUInt16.toUInt32.toInt32)])
      obtain ⟨ch134, hch134⟩ : ∃ z : Int32, z = (i2 &&& (255 : Int32)).toUInt32.toUInt16.toUInt32.toInt32 := ⟨_, rfl⟩
      have lc134 : ¬ (255 : Int32) < ch134 := by rw [hch134]; exact (own_ch _).1
      have nc134 : nar .char ch134 = ch134 := by rw [hch134]; exact own_nc _
      rw [← hch134]
      show Ends p e below _ T0 (mkF m 38 #[iv i0, .val (.long i1), .second, iv i2, iv kk, iv z132_0, iv z133_0, .unset, .unset, .unset, .unset, .unset, .unset, .unset, .unset] [(.int ch134)])
      refine go (fun _ => XS.istore X0.here hx rfl (hb hby at_38) rfl (l' := #[iv i0, .val (.long i1), .second, iv i2, iv kk, iv z132_0, iv z133_0, iv ch134, .unset, .unset, .unset, .unset, .unset, .unset, .unset]) rfl) ?_
      show Ends p e below _ T0 (mkF m 40 #[iv i0, .val (.long i1), .second, iv i2, iv kk, iv z132_0, iv z133_0, iv ch134, .unset, .unset, .unset, .unset, .unset, .unset, .unset] [])
      obtain ⟨T135, h135, X135, e135, E135, A135, D135, U135, s135⟩ := newO X0 hx hZ hown (hwi hw 0 rfl) (hwi hw 1 rfl) (hwi hw 2 rfl) e0 (g := (mkF m 40 #[iv i0, .val (.long i1), .second, iv i2, iv kk, iv z132_0, iv z133_0, iv ch134, .unset, .unset, .unset, .unset, .unset, .unset, .unset] [])) rfl (hb hby at_40) (by decide) (by decide)
      obtain ⟨a135, g135⟩ : ∃ z : Addr, z = h0.size := ⟨_, rfl⟩
      have f135 : Z.heap.size ≤ a135 := by rw [g135]; exact (O0).1
      rw [← g135] at A135 D135 U135 s135
      have O136 : Ext Z.heap h135 := xx O0 E135
      refine go s135 ?_
      show Ends p e below _ T135 (mkF m 43 #[iv i0, .val (.long i1), .second, iv i2, iv kk, iv z132_0, iv z133_0, iv ch134, .unset, .unset, .unset, .unset, .unset, .unset, .unset] [(.ref a135)])
      refine go (fun _ => XS.dup X135.here hx rfl (hb hby at_43) rfl rfl) ?_
      refine go (fun _ => XS.iload X135.here hx rfl (hb hby at_44) rfl) ?_
      show Ends p e below _ T135 (mkF m 46 #[iv i0, .val (.long i1), .second, iv i2, iv kk, iv z132_0, iv z133_0, iv ch134, .unset, .unset, .unset, .unset, .unset, .unset, .unset] [(.int ch134), (.ref a135), (.ref a135)])
      refine cStat X135 hx hZ hown (by rw [hml]; rfl) e135 hTK hBelow (hwi hw 3 rfl) (hwi hw 4 rfl) (hwi hw 5 rfl) (hwi hw 6 rfl) [(.int ch134)] [(.ref a135), (.ref a135)] rfl (rm_cvalueOf hw ch134 _ O136 lc134 cz SCS hcz) (hb hby at_46) rfl (lenOf pd_16 rfl) (by decide) (by decide) (Nat.le_of_ble_eq_true rfl) (by decide) (by decide) ?_
      rintro v137 T137 h137 L137 X137 e137 ⟨a137, b137, k137, rfl, N137, K137, ga137, gb137, nn137, E137, Fv137, Fc137, V137⟩
      have N137a := Fr.app (Fr.nil _) N137
      have n138 : a135 ≠ a137 := Nat.ne_of_lt (Nat.lt_of_lt_of_le (A135.lt) ga137)
      have f139 : Z.heap.size ≤ a137 := Nat.le_trans (O136).1 ga137
      have n140 : a135 ≠ b137 := Nat.ne_of_lt (Nat.lt_of_lt_of_le (A135.lt) gb137)
      have f141 : Z.heap.size ≤ b137 := Nat.le_trans (O136).1 gb137
      have O142 : Ext Z.heap h137 := xk O136 K137 all0
      show Ends p e below _ T137 (mkF m 49 #[iv i0, .val (.long i1), .second, iv i2, iv kk, iv z132_0, iv z133_0, iv ch134, .unset, .unset, .unset, .unset, .unset, .unset, .unset] [(.ref a137), (.ref a135), (.ref a135)])
      have F143 := (Exa.keep A135 K137)
      have F144 := (Unt.keep K137 nin0 U135)
      have F145 := (Fld.keep (D135 (Or.inl (hwi hw 48 rfl)) (ty := (.object "java/lang/Throwable")) (by decide)) K137 nin0)
      have F146 := (Fld.keep (D135 (Or.inl (hwi hw 51 rfl)) (ty := (.array (.object "java/lang/StackTraceElement"))) (by decide)) K137 nin0)
      have F147 := (Fld.keep (D135 (Or.inl (hwi hw 54 rfl)) (ty := (.object "java/util/List")) (by decide)) K137 nin0)
      have F148 := (Fld.keep (D135 (Or.inl (hwi hw 78 rfl)) (ty := (.object "java/lang/String")) (by decide)) K137 nin0)
      have F149 := (Fld.keep (D135 (Or.inl (hwi hw 79 rfl)) (ty := (.object "java/lang/Object")) (by decide)) K137 nin0)
      have F150 := (Fld.keep (D135 (Or.inr (hwi hw 84 rfl)) (ty := (.object "com/example/durable_state/durablestate/model/StatePath")) (by decide)) K137 nin0)
      refine cInit X137 hx hZ hown (by rw [hml]; rfl) e137 hTK hBelow (hwi hw 29 rfl) (hwi hw 30 rfl) (hwi hw 2 rfl) (hwi hw 31 rfl) a135 [(.ref a137)] [(.ref a135)] rfl (rm_re1 hw a135 a137 wU wN _ O142 f135 F143 F144 F145 F146 F147 F148 F149 F150 hlt hU hN SU SN) (hb hby at_49) rfl (lenOf pd_11 rfl) rfl (by decide) (by decide) (Nat.le_of_ble_eq_true rfl) (by decide) (by decide) ?_
      rintro v151 T151 h151 L151 X151 e151 ⟨rfl, N151, K151⟩
      have N151a := Fr.app N137a N151
      have O152 : Ext Z.heap h151 := xk O142 K151 (allS f135 all0)
      show Ends p e below _ T151 (mkF m 52 #[iv i0, .val (.long i1), .second, iv i2, iv kk, iv z132_0, iv z133_0, iv ch134, .unset, .unset, .unset, .unset, .unset, .unset, .unset] [(.ref a135)])
      refine go (fun _ => XS.astore X151.here hx rfl (hb hby at_52) rfl rfl (l' := #[iv i0, .val (.long i1), .second, iv i2, iv kk, iv z132_0, iv z133_0, iv ch134, rv a135, .unset, .unset, .unset, .unset, .unset, .unset]) rfl) ?_
      refine go (fun _ => XT.lloadN X151.here hx rfl (hb hby at_54) rfl) ?_
      show Ends p e below _ T151 (mkF m 55 #[iv i0, .val (.long i1), .second, iv i2, iv kk, iv z132_0, iv z133_0, iv ch134, rv a135, .unset, .unset, .unset, .unset, .unset, .unset] [(.long i1)])
      refine cStat X151 hx hZ hown (by rw [hml]; rfl) e151 hTK hBelow (hwi hw 85 rfl) (hwi hw 86 rfl) (hwi hw 87 rfl) (hwi hw 88 rfl) [(.long i1)] [] rfl (rm_lvalueOf hw i1 aJ cJ _ O152 SJ BJ) (hb hby at_55) rfl (lenOf pd_17 rfl) (by decide) (by decide) (Nat.le_of_ble_eq_true rfl) (by decide) (by decide) ?_
      rintro v153 T153 h153 L153 X153 e153 ⟨b153, rfl, N153, K153, E153, F153_0⟩
      have N153a := Fr.app N151a N153
      have O154 : Ext Z.heap h153 := xk O152 K153 all0
      show Ends p e below _ T153 (mkF m 58 #[iv i0, .val (.long i1), .second, iv i2, iv kk, iv z132_0, iv z133_0, iv ch134, rv a135, .unset, .unset, .unset, .unset, .unset, .unset] [(.ref b153)])
      refine go (fun _ => XS.astore X153.here hx rfl (hb hby at_58) rfl rfl (l' := #[iv i0, .val (.long i1), .second, iv i2, iv kk, iv z132_0, iv z133_0, iv ch134, rv a135, rv b153, .unset, .unset, .unset, .unset, .unset]) rfl) ?_
      refine go (fun _ => XS.iload X153.here hx rfl (hb hby at_60) rfl) ?_
      show Ends p e below _ T153 (mkF m 62 #[iv i0, .val (.long i1), .second, iv i2, iv kk, iv z132_0, iv z133_0, iv ch134, rv a135, rv b153, .unset, .unset, .unset, .unset, .unset] [(.int ch134)])
      refine cStat X153 hx hZ hown (by rw [hml]; rfl) e153 hTK hBelow (hwi hw 3 rfl) (hwi hw 4 rfl) (hwi hw 5 rfl) (hwi hw 6 rfl) [(.int ch134)] [] rfl (rm_cvalueOf hw ch134 _ O154 lc134 cz SCS hcz) (hb hby at_62) rfl (lenOf pd_16 rfl) (by decide) (by decide) (Nat.le_of_ble_eq_true rfl) (by decide) (by decide) ?_
      rintro v155 T155 h155 L155 X155 e155 ⟨a155, b155, k155, rfl, N155, K155, ga155, gb155, nn155, E155, Fv155, Fc155, V155⟩
      have N155a := Fr.app N153a N155
      have F156 := (Exa.keep (Exa.keep F143 K151) K153)
      have n157 : a135 ≠ a155 := Nat.ne_of_lt (Nat.lt_of_lt_of_le (F156.lt) ga155)
      have F158 := (Exa.keep (Exa.keep E137 K151) K153)
      have n159 : a137 ≠ a155 := Nat.ne_of_lt (Nat.lt_of_lt_of_le (F158.lt) ga155)
      have F160 := (Arv.keep (Arv.keep V137 K151 (ninS (Ne.symm n140) nin0)) K153 nin0)
      have n161 : b137 ≠ a155 := Nat.ne_of_lt (Nat.lt_of_lt_of_le (F160.lt) ga155)
      have n162 : b153 ≠ a155 := Nat.ne_of_lt (Nat.lt_of_lt_of_le (E153.lt) ga155)
      have f163 : Z.heap.size ≤ a155 := Nat.le_trans (O154).1 ga155
      have n164 : a135 ≠ b155 := Nat.ne_of_lt (Nat.lt_of_lt_of_le (F156.lt) gb155)
      have n165 : a137 ≠ b155 := Nat.ne_of_lt (Nat.lt_of_lt_of_le (F158.lt) gb155)
      have n166 : b137 ≠ b155 := Nat.ne_of_lt (Nat.lt_of_lt_of_le (F160.lt) gb155)
      have n167 : b153 ≠ b155 := Nat.ne_of_lt (Nat.lt_of_lt_of_le (E153.lt) gb155)
      have f168 : Z.heap.size ≤ b155 := Nat.le_trans (O154).1 gb155
      have O169 : Ext Z.heap h155 := xk O154 K155 all0
      show Ends p e below _ T155 (mkF m 65 #[iv i0, .val (.long i1), .second, iv i2, iv kk, iv z132_0, iv z133_0, iv ch134, rv a135, rv b153, .unset, .unset, .unset, .unset, .unset] [(.ref a155)])
      refine go (fun _ => XS.astore X155.here hx rfl (hb hby at_65) rfl rfl (l' := #[iv i0, .val (.long i1), .second, iv i2, iv kk, iv z132_0, iv z133_0, iv ch134, rv a135, rv b153, rv a155, .unset, .unset, .unset, .unset]) rfl) ?_
      refine go (fun _ => XS.aconstNull X155.here hx rfl (hb hby at_67)) ?_
      refine go (fun _ => XS.astore X155.here hx rfl (hb hby at_68) rfl rfl (l' := #[iv i0, .val (.long i1), .second, iv i2, iv kk, iv z132_0, iv z133_0, iv ch134, rv a135, rv b153, rv a155, .unset, .val .null, .unset, .unset]) rfl) ?_
      refine go (fun _ => XS.iload X155.here hx rfl (hb hby at_70) rfl) ?_
      show Ends p e below _ T155 (mkF m 72 #[iv i0, .val (.long i1), .second, iv i2, iv kk, iv z132_0, iv z133_0, iv ch134, rv a135, rv b153, rv a155, .unset, .val .null, .unset, .unset] [(.int kk)])
      by_cases c72_170 : kk = (0 : Int32)
      · refine go (fun _ => XS.ifNo X155.here hx rfl (hb hby at_72) rfl (XT.i0_ne_f c72_170)) ?_
        show Ends p e below _ T155 (mkF m 75 #[iv i0, .val (.long i1), .second, iv i2, iv kk, iv z132_0, iv z133_0, iv ch134, rv a135, rv b153, rv a155, .unset, .val .null, .unset, .unset] [])
        refine go (fun _ => XS.aconstNull X155.here hx rfl (hb hby at_75)) ?_
        refine go (fun _ => XS.astore X155.here hx rfl (hb hby at_76) rfl rfl (l' := #[iv i0, .val (.long i1), .second, iv i2, iv kk, iv z132_0, iv z133_0, iv ch134, rv a135, rv b153, rv a155, .val .null, .val .null, .unset, .unset]) rfl) ?_
        refine go (fun _ => XS.goto X155.here hx rfl (pc0 := 78) (pc' := 134) rfl (hb hby at_78) (by decide) (by decide)) ?_
        refine go (fun _ => XS.iload X155.here hx rfl (hb hby at_134) rfl) ?_
        show Ends p e below _ T155 (mkF m 136 #[iv i0, .val (.long i1), .second, iv i2, iv kk, iv z132_0, iv z133_0, iv ch134, rv a135, rv b153, rv a155, .val .null, .val .null, .unset, .unset] [(.int z132_0)])
        by_cases c136_171 : z132_0 = (0 : Int32)
        · refine go (fun _ => XS.ifYes X155.here hx rfl (pc0 := 136) (pc' := 153) rfl (hb hby at_136) rfl (XT.i0_eq_t c136_171) (by decide) (by decide)) ?_
          show Ends p e below _ T155 (mkF m 153 #[iv i0, .val (.long i1), .second, iv i2, iv kk, iv z132_0, iv z133_0, iv ch134, rv a135, rv b153, rv a155, .val .null, .val .null, .unset, .unset] [])
          refine go (fun _ => XS.aload X155.here hx rfl (hb hby at_153) rfl rfl) ?_
          refine go (fun _ => XS.astore X155.here hx rfl (hb hby at_155) rfl rfl (l' := #[iv i0, .val (.long i1), .second, iv i2, iv kk, iv z132_0, iv z133_0, iv ch134, rv a135, rv b153, rv a155, .val .null, .val .null, .val .null, .unset]) rfl) ?_
          refine go (fun _ => XS.iload X155.here hx rfl (hb hby at_157) rfl) ?_
          show Ends p e below _ T155 (mkF m 159 #[iv i0, .val (.long i1), .second, iv i2, iv kk, iv z132_0, iv z133_0, iv ch134, rv a135, rv b153, rv a155, .val .null, .val .null, .val .null, .unset] [(.int z132_0)])
          refine go (fun _ => XS.ifYes X155.here hx rfl (pc0 := 159) (pc' := 169) rfl (hb hby at_159) rfl (XT.i0_eq_t c136_171) (by decide) (by decide)) ?_
          show Ends p e below _ T155 (mkF m 169 #[iv i0, .val (.long i1), .second, iv i2, iv kk, iv z132_0, iv z133_0, iv ch134, rv a135, rv b153, rv a155, .val .null, .val .null, .val .null, .unset] [])
          refine go (fun _ => XS.iload X155.here hx rfl (hb hby at_169) rfl) ?_
          refine go (fun _ => XT.iconstV X155.here hx rfl (3 : Int32) (hb hby at_171) (by decide)) ?_
          show Ends p e below _ T155 (mkF m 172 #[iv i0, .val (.long i1), .second, iv i2, iv kk, iv z132_0, iv z133_0, iv ch134, rv a135, rv b153, rv a155, .val .null, .val .null, .val .null, .unset] [(.int (3 : Int32)), (.int kk)])
          refine go (fun _ => XS.icmpYes X155.here hx rfl (pc0 := 172) (pc' := 182) rfl (hb hby at_172) rfl (XT.ii_ne_t ((by rw [c72_170]; decide) : ¬ (kk = (3 : Int32)))) (by decide) (by decide)) ?_
          show Ends p e below _ T155 (mkF m 182 #[iv i0, .val (.long i1), .second, iv i2, iv kk, iv z132_0, iv z133_0, iv ch134, rv a135, rv b153, rv a155, .val .null, .val .null, .val .null, .unset] [])
          refine go (fun _ => XS.aload X155.here hx rfl (hb hby at_182) rfl rfl) ?_
          refine go (fun _ => XS.astore X155.here hx rfl (hb hby at_184) rfl rfl (l' := #[iv i0, .val (.long i1), .second, iv i2, iv kk, iv z132_0, iv z133_0, iv ch134, rv a135, rv b153, rv a155, .val .null, .val .null, .val .null, .val .null]) rfl) ?_
          refine go (fun _ => XS.aload X155.here hx rfl (hb hby at_186) rfl rfl) ?_
          show Ends p e below _ T155 (mkF m 188 #[iv i0, .val (.long i1), .second, iv i2, iv kk, iv z132_0, iv z133_0, iv ch134, rv a135, rv b153, rv a155, .val .null, .val .null, .val .null, .val .null] [.null])
          refine cStat X155 hx hZ hown (by rw [hml]; rfl) e155 hTK hBelow (hwi hw 93 rfl) (hwi hw 94 rfl) (hwi hw 95 rfl) (hwi hw 96 rfl) [.null] [] rfl (rm_stN hw _) (hb hby at_188) rfl (lenOf pd_18 rfl) (by decide) (by decide) (Nat.le_of_ble_eq_true rfl) (by decide) (by decide) ?_
          rintro v172 T172 h172 L172 X172 e172 ⟨rfl, N172, rfl⟩
          have N172a := Fr.app N155a N172
          show Ends p e below _ T172 (mkF m 191 #[iv i0, .val (.long i1), .second, iv i2, iv kk, iv z132_0, iv z133_0, iv ch134, rv a135, rv b153, rv a155, .val .null, .val .null, .val .null, .val .null] [.null])
          refine go (fun _ => XS.aload X172.here hx rfl (hb hby at_191) rfl rfl) ?_
          show Ends p e below _ T172 (mkF m 193 #[iv i0, .val (.long i1), .second, iv i2, iv kk, iv z132_0, iv z133_0, iv ch134, rv a135, rv b153, rv a155, .val .null, .val .null, .val .null, .val .null] [.null, .null])
          refine go (fun _ => XT.acmpNo X172.here hx rfl (hb hby at_193) rfl rfl rfl (XT.aa_ne_f (rfl : (.null : Value) = .null))) ?_
          show Ends p e below _ T172 (mkF m 196 #[iv i0, .val (.long i1), .second, iv i2, iv kk, iv z132_0, iv z133_0, iv ch134, rv a135, rv b153, rv a155, .val .null, .val .null, .val .null, .val .null] [])
          refine go (fun _ => XT.iconstV X172.here hx rfl (1 : Int32) (hb hby at_196) (by decide)) ?_
          refine go (fun _ => XS.goto X172.here hx rfl (pc0 := 197) (pc' := 201) rfl (hb hby at_197) (by decide) (by decide)) ?_
          show Ends p e below _ T172 (mkF m 201 #[iv i0, .val (.long i1), .second, iv i2, iv kk, iv z132_0, iv z133_0, iv ch134, rv a135, rv b153, rv a155, .val .null, .val .null, .val .null, .val .null] [(.int (1 : Int32))])
          exact endN X172 hx hret (by simp) (hb hby at_201) (lvN X172 hlk e172 (fun h => by rw [hret] at h; cases h) ⟨rfl, N172a⟩ (by decide) (by decide))
        · refine go (fun _ => XS.ifNo X155.here hx rfl (hb hby at_136) rfl (XT.i0_eq_f c136_171)) ?_
          show Ends p e below _ T155 (mkF m 139 #[iv i0, .val (.long i1), .second, iv i2, iv kk, iv z132_0, iv z133_0, iv ch134, rv a135, rv b153, rv a155, .val .null, .val .null, .unset, .unset] [])
          obtain ⟨T173, h173, X173, e173, E173, A173, D173, U173, s173⟩ := newO X155 hx hZ hown (hwi hw 97 rfl) (hwi hw 98 rfl) (hwi hw 95 rfl) e155 (g := (mkF m 139 #[iv i0, .val (.long i1), .second, iv i2, iv kk, iv z132_0, iv z133_0, iv ch134, rv a135, rv b153, rv a155, .val .null, .val .null, .unset, .unset] [])) rfl (hb hby at_139) (by decide) (by decide)
          have F174 := (Exa.keep F156 K155)
          have F175 := (Exa.keep F158 K155)
          have F176 := (Arv.keep F160 K155 nin0)
          have F177 := (Exa.keep E153 K155)
          obtain ⟨a173, g173⟩ : ∃ z : Addr, z = h155.size := ⟨_, rfl⟩
          have n178 : a135 ≠ a173 := fun q => absurd (F174.lt) (by rw [q, g173]; exact Nat.lt_irrefl _)
          have n179 : a137 ≠ a173 := fun q => absurd (F175.lt) (by rw [q, g173]; exact Nat.lt_irrefl _)
          have n180 : a155 ≠ a173 := fun q => absurd (E155.lt) (by rw [q, g173]; exact Nat.lt_irrefl _)
          have n181 : b137 ≠ a173 := fun q => absurd (F176.lt) (by rw [q, g173]; exact Nat.lt_irrefl _)
          have n182 : b153 ≠ a173 := fun q => absurd (F177.lt) (by rw [q, g173]; exact Nat.lt_irrefl _)
          have n183 : b155 ≠ a173 := fun q => absurd (V155.lt) (by rw [q, g173]; exact Nat.lt_irrefl _)
          have f173 : Z.heap.size ≤ a173 := by rw [g173]; exact (O169).1
          rw [← g173] at A173 D173 U173 s173
          have O184 : Ext Z.heap h173 := xx O169 E173
          refine go s173 ?_
          show Ends p e below _ T173 (mkF m 142 #[iv i0, .val (.long i1), .second, iv i2, iv kk, iv z132_0, iv z133_0, iv ch134, rv a135, rv b153, rv a155, .val .null, .val .null, .unset, .unset] [(.ref a173)])
          refine go (fun _ => XS.dup X173.here hx rfl (hb hby at_142) rfl rfl) ?_
          refine go (fun _ => XS.aload X173.here hx rfl (hb hby at_143) rfl rfl) ?_
          refine go (fun _ => XS.aload X173.here hx rfl (hb hby at_145) rfl rfl) ?_
          show Ends p e below _ T173 (mkF m 147 #[iv i0, .val (.long i1), .second, iv i2, iv kk, iv z132_0, iv z133_0, iv ch134, rv a135, rv b153, rv a155, .val .null, .val .null, .unset, .unset] [(.ref a135), .null, (.ref a173), (.ref a173)])
          have F185 := (D173 (Or.inr (hwi hw 104 rfl)) (ty := (.object "java/lang/Object")) (by decide))
          have F186 := (D173 (Or.inr (hwi hw 106 rfl)) (ty := (.object "com/example/durable_state/durablestate/model/RefusedException")) (by decide))
          refine cInit X173 hx hZ hown (by rw [hml]; rfl) e173 hTK hBelow (hwi hw 99 rfl) (hwi hw 100 rfl) (hwi hw 95 rfl) (hwi hw 101 rfl) a173 [.null, (.ref a135)] [(.ref a173)] rfl (rm_um hw a173 .null a135 _ O184 f173 A173 F185 F186 rfl ) (hb hby at_147) rfl (lenOf pd_19 rfl) rfl (by decide) (by decide) (Nat.le_of_ble_eq_true rfl) (by decide) (by decide) ?_
          rintro v187 T187 h187 L187 X187 e187 ⟨rfl, N187, K187, F187_0, F187_1⟩
          have N187a := Fr.app N155a N187
          have O188 : Ext Z.heap h187 := xk O184 K187 (allS f173 all0)
          show Ends p e below _ T187 (mkF m 150 #[iv i0, .val (.long i1), .second, iv i2, iv kk, iv z132_0, iv z133_0, iv ch134, rv a135, rv b153, rv a155, .val .null, .val .null, .unset, .unset] [(.ref a173)])
          refine go (fun _ => XS.goto X187.here hx rfl (pc0 := 150) (pc' := 155) rfl (hb hby at_150) (by decide) (by decide)) ?_
          refine go (fun _ => XS.astore X187.here hx rfl (hb hby at_155) rfl rfl (l' := #[iv i0, .val (.long i1), .second, iv i2, iv kk, iv z132_0, iv z133_0, iv ch134, rv a135, rv b153, rv a155, .val .null, .val .null, rv a173, .unset]) rfl) ?_
          refine go (fun _ => XS.iload X187.here hx rfl (hb hby at_157) rfl) ?_
          show Ends p e below _ T187 (mkF m 159 #[iv i0, .val (.long i1), .second, iv i2, iv kk, iv z132_0, iv z133_0, iv ch134, rv a135, rv b153, rv a155, .val .null, .val .null, rv a173, .unset] [(.int z132_0)])
          refine go (fun _ => XS.ifNo X187.here hx rfl (hb hby at_159) rfl (XT.i0_eq_f c136_171)) ?_
          show Ends p e below _ T187 (mkF m 162 #[iv i0, .val (.long i1), .second, iv i2, iv kk, iv z132_0, iv z133_0, iv ch134, rv a135, rv b153, rv a155, .val .null, .val .null, rv a173, .unset] [])
          refine go (fun _ => XS.aload X187.here hx rfl (hb hby at_162) rfl rfl) ?_
          refine go (fun _ => XS.astore X187.here hx rfl (hb hby at_164) rfl rfl (l' := #[iv i0, .val (.long i1), .second, iv i2, iv kk, iv z132_0, iv z133_0, iv ch134, rv a135, rv b153, rv a155, .val .null, .val .null, rv a173, .val .null]) rfl) ?_
          refine go (fun _ => XS.goto X187.here hx rfl (pc0 := 166) (pc' := 186) rfl (hb hby at_166) (by decide) (by decide)) ?_
          refine go (fun _ => XS.aload X187.here hx rfl (hb hby at_186) rfl rfl) ?_
          show Ends p e below _ T187 (mkF m 188 #[iv i0, .val (.long i1), .second, iv i2, iv kk, iv z132_0, iv z133_0, iv ch134, rv a135, rv b153, rv a155, .val .null, .val .null, rv a173, .val .null] [(.ref a173)])
          have F189 := (Exa.keep A173 K187)
          refine cStat X187 hx hZ hown (by rw [hml]; rfl) e187 hTK hBelow (hwi hw 93 rfl) (hwi hw 94 rfl) (hwi hw 95 rfl) (hwi hw 96 rfl) [(.ref a173)] [] rfl (rm_stM hw a173 .null _ rfl F189 F187_0) (hb hby at_188) rfl (lenOf pd_18 rfl) (by decide) (by decide) (Nat.le_of_ble_eq_true rfl) (by decide) (by decide) ?_
          rintro v190 T190 h190 L190 X190 e190 ⟨rfl, N190, rfl⟩
          have N190a := Fr.app N187a N190
          show Ends p e below _ T190 (mkF m 191 #[iv i0, .val (.long i1), .second, iv i2, iv kk, iv z132_0, iv z133_0, iv ch134, rv a135, rv b153, rv a155, .val .null, .val .null, rv a173, .val .null] [.null])
          refine go (fun _ => XS.aload X190.here hx rfl (hb hby at_191) rfl rfl) ?_
          show Ends p e below _ T190 (mkF m 193 #[iv i0, .val (.long i1), .second, iv i2, iv kk, iv z132_0, iv z133_0, iv ch134, rv a135, rv b153, rv a155, .val .null, .val .null, rv a173, .val .null] [.null, .null])
          refine go (fun _ => XT.acmpNo X190.here hx rfl (hb hby at_193) rfl rfl rfl (XT.aa_ne_f (rfl : (.null : Value) = .null))) ?_
          show Ends p e below _ T190 (mkF m 196 #[iv i0, .val (.long i1), .second, iv i2, iv kk, iv z132_0, iv z133_0, iv ch134, rv a135, rv b153, rv a155, .val .null, .val .null, rv a173, .val .null] [])
          refine go (fun _ => XT.iconstV X190.here hx rfl (1 : Int32) (hb hby at_196) (by decide)) ?_
          refine go (fun _ => XS.goto X190.here hx rfl (pc0 := 197) (pc' := 201) rfl (hb hby at_197) (by decide) (by decide)) ?_
          show Ends p e below _ T190 (mkF m 201 #[iv i0, .val (.long i1), .second, iv i2, iv kk, iv z132_0, iv z133_0, iv ch134, rv a135, rv b153, rv a155, .val .null, .val .null, rv a173, .val .null] [(.int (1 : Int32))])
          exact endN X190 hx hret (by simp) (hb hby at_201) (lvN X190 hlk e190 (fun h => by rw [hret] at h; cases h) ⟨rfl, N190a⟩ (by decide) (by decide))
      · refine go (fun _ => XS.ifYes X155.here hx rfl (pc0 := 72) (pc' := 81) rfl (hb hby at_72) rfl (XT.i0_ne_t c72_170) (by decide) (by decide)) ?_
        show Ends p e below _ T155 (mkF m 81 #[iv i0, .val (.long i1), .second, iv i2, iv kk, iv z132_0, iv z133_0, iv ch134, rv a135, rv b153, rv a155, .unset, .val .null, .unset, .unset] [])
        refine go (fun _ => XS.iload X155.here hx rfl (hb hby at_81) rfl) ?_
        refine go (fun _ => XT.iconstV X155.here hx rfl (1 : Int32) (hb hby at_83) (by decide)) ?_
        show Ends p e below _ T155 (mkF m 84 #[iv i0, .val (.long i1), .second, iv i2, iv kk, iv z132_0, iv z133_0, iv ch134, rv a135, rv b153, rv a155, .unset, .val .null, .unset, .unset] [(.int (1 : Int32)), (.int kk)])
        by_cases c84_191 : kk = (1 : Int32)
        · refine go (fun _ => XS.icmpNo X155.here hx rfl (hb hby at_84) rfl (XT.ii_ne_f c84_191)) ?_
          show Ends p e below _ T155 (mkF m 87 #[iv i0, .val (.long i1), .second, iv i2, iv kk, iv z132_0, iv z133_0, iv ch134, rv a135, rv b153, rv a155, .unset, .val .null, .unset, .unset] [])
          refine go (fun _ => XS.aload X155.here hx rfl (hb hby at_87) rfl rfl) ?_
          refine go (fun _ => XS.astore X155.here hx rfl (hb hby at_89) rfl rfl (l' := #[iv i0, .val (.long i1), .second, iv i2, iv kk, iv z132_0, iv z133_0, iv ch134, rv a135, rv b153, rv a155, rv b153, .val .null, .unset, .unset]) rfl) ?_
          refine go (fun _ => XS.goto X155.here hx rfl (pc0 := 91) (pc' := 134) rfl (hb hby at_91) (by decide) (by decide)) ?_
          refine go (fun _ => XS.iload X155.here hx rfl (hb hby at_134) rfl) ?_
          show Ends p e below _ T155 (mkF m 136 #[iv i0, .val (.long i1), .second, iv i2, iv kk, iv z132_0, iv z133_0, iv ch134, rv a135, rv b153, rv a155, rv b153, .val .null, .unset, .unset] [(.int z132_0)])
          by_cases c136_192 : z132_0 = (0 : Int32)
          · refine go (fun _ => XS.ifYes X155.here hx rfl (pc0 := 136) (pc' := 153) rfl (hb hby at_136) rfl (XT.i0_eq_t c136_192) (by decide) (by decide)) ?_
            show Ends p e below _ T155 (mkF m 153 #[iv i0, .val (.long i1), .second, iv i2, iv kk, iv z132_0, iv z133_0, iv ch134, rv a135, rv b153, rv a155, rv b153, .val .null, .unset, .unset] [])
            refine go (fun _ => XS.aload X155.here hx rfl (hb hby at_153) rfl rfl) ?_
            refine go (fun _ => XS.astore X155.here hx rfl (hb hby at_155) rfl rfl (l' := #[iv i0, .val (.long i1), .second, iv i2, iv kk, iv z132_0, iv z133_0, iv ch134, rv a135, rv b153, rv a155, rv b153, .val .null, rv b153, .unset]) rfl) ?_
            refine go (fun _ => XS.iload X155.here hx rfl (hb hby at_157) rfl) ?_
            show Ends p e below _ T155 (mkF m 159 #[iv i0, .val (.long i1), .second, iv i2, iv kk, iv z132_0, iv z133_0, iv ch134, rv a135, rv b153, rv a155, rv b153, .val .null, rv b153, .unset] [(.int z132_0)])
            refine go (fun _ => XS.ifYes X155.here hx rfl (pc0 := 159) (pc' := 169) rfl (hb hby at_159) rfl (XT.i0_eq_t c136_192) (by decide) (by decide)) ?_
            show Ends p e below _ T155 (mkF m 169 #[iv i0, .val (.long i1), .second, iv i2, iv kk, iv z132_0, iv z133_0, iv ch134, rv a135, rv b153, rv a155, rv b153, .val .null, rv b153, .unset] [])
            refine go (fun _ => XS.iload X155.here hx rfl (hb hby at_169) rfl) ?_
            refine go (fun _ => XT.iconstV X155.here hx rfl (3 : Int32) (hb hby at_171) (by decide)) ?_
            show Ends p e below _ T155 (mkF m 172 #[iv i0, .val (.long i1), .second, iv i2, iv kk, iv z132_0, iv z133_0, iv ch134, rv a135, rv b153, rv a155, rv b153, .val .null, rv b153, .unset] [(.int (3 : Int32)), (.int kk)])
            refine go (fun _ => XS.icmpYes X155.here hx rfl (pc0 := 172) (pc' := 182) rfl (hb hby at_172) rfl (XT.ii_ne_t ((by rw [c84_191]; decide) : ¬ (kk = (3 : Int32)))) (by decide) (by decide)) ?_
            show Ends p e below _ T155 (mkF m 182 #[iv i0, .val (.long i1), .second, iv i2, iv kk, iv z132_0, iv z133_0, iv ch134, rv a135, rv b153, rv a155, rv b153, .val .null, rv b153, .unset] [])
            refine go (fun _ => XS.aload X155.here hx rfl (hb hby at_182) rfl rfl) ?_
            refine go (fun _ => XS.astore X155.here hx rfl (hb hby at_184) rfl rfl (l' := #[iv i0, .val (.long i1), .second, iv i2, iv kk, iv z132_0, iv z133_0, iv ch134, rv a135, rv b153, rv a155, rv b153, .val .null, rv b153, rv b153]) rfl) ?_
            refine go (fun _ => XS.aload X155.here hx rfl (hb hby at_186) rfl rfl) ?_
            show Ends p e below _ T155 (mkF m 188 #[iv i0, .val (.long i1), .second, iv i2, iv kk, iv z132_0, iv z133_0, iv ch134, rv a135, rv b153, rv a155, rv b153, .val .null, rv b153, rv b153] [(.ref b153)])
            have F193 := (Exa.keep E153 K155)
            refine cStat X155 hx hZ hown (by rw [hml]; rfl) e155 hTK hBelow (hwi hw 93 rfl) (hwi hw 94 rfl) (hwi hw 95 rfl) (hwi hw 96 rfl) [(.ref b153)] [] rfl (rm_stL hw b153 _ F193) (hb hby at_188) rfl (lenOf pd_18 rfl) (by decide) (by decide) (Nat.le_of_ble_eq_true rfl) (by decide) (by decide) ?_
            rintro v194 T194 h194 L194 X194 e194 ⟨rfl, N194, rfl⟩
            have N194a := Fr.app N155a N194
            show Ends p e below _ T194 (mkF m 191 #[iv i0, .val (.long i1), .second, iv i2, iv kk, iv z132_0, iv z133_0, iv ch134, rv a135, rv b153, rv a155, rv b153, .val .null, rv b153, rv b153] [(.ref b153)])
            refine go (fun _ => XS.aload X194.here hx rfl (hb hby at_191) rfl rfl) ?_
            show Ends p e below _ T194 (mkF m 193 #[iv i0, .val (.long i1), .second, iv i2, iv kk, iv z132_0, iv z133_0, iv ch134, rv a135, rv b153, rv a155, rv b153, .val .null, rv b153, rv b153] [(.ref b153), (.ref b153)])
            refine go (fun _ => XT.acmpNo X194.here hx rfl (hb hby at_193) rfl rfl rfl (XT.aa_ne_f (rfl : ((.ref b153) : Value) = (.ref b153)))) ?_
            show Ends p e below _ T194 (mkF m 196 #[iv i0, .val (.long i1), .second, iv i2, iv kk, iv z132_0, iv z133_0, iv ch134, rv a135, rv b153, rv a155, rv b153, .val .null, rv b153, rv b153] [])
            refine go (fun _ => XT.iconstV X194.here hx rfl (1 : Int32) (hb hby at_196) (by decide)) ?_
            refine go (fun _ => XS.goto X194.here hx rfl (pc0 := 197) (pc' := 201) rfl (hb hby at_197) (by decide) (by decide)) ?_
            show Ends p e below _ T194 (mkF m 201 #[iv i0, .val (.long i1), .second, iv i2, iv kk, iv z132_0, iv z133_0, iv ch134, rv a135, rv b153, rv a155, rv b153, .val .null, rv b153, rv b153] [(.int (1 : Int32))])
            exact endN X194 hx hret (by simp) (hb hby at_201) (lvN X194 hlk e194 (fun h => by rw [hret] at h; cases h) ⟨rfl, N194a⟩ (by decide) (by decide))
          · refine go (fun _ => XS.ifNo X155.here hx rfl (hb hby at_136) rfl (XT.i0_eq_f c136_192)) ?_
            show Ends p e below _ T155 (mkF m 139 #[iv i0, .val (.long i1), .second, iv i2, iv kk, iv z132_0, iv z133_0, iv ch134, rv a135, rv b153, rv a155, rv b153, .val .null, .unset, .unset] [])
            obtain ⟨T195, h195, X195, e195, E195, A195, D195, U195, s195⟩ := newO X155 hx hZ hown (hwi hw 97 rfl) (hwi hw 98 rfl) (hwi hw 95 rfl) e155 (g := (mkF m 139 #[iv i0, .val (.long i1), .second, iv i2, iv kk, iv z132_0, iv z133_0, iv ch134, rv a135, rv b153, rv a155, rv b153, .val .null, .unset, .unset] [])) rfl (hb hby at_139) (by decide) (by decide)
            have F196 := (Exa.keep F156 K155)
            have F197 := (Exa.keep F158 K155)
            have F198 := (Arv.keep F160 K155 nin0)
            have F199 := (Exa.keep E153 K155)
            obtain ⟨a195, g195⟩ : ∃ z : Addr, z = h155.size := ⟨_, rfl⟩
            have n200 : a135 ≠ a195 := fun q => absurd (F196.lt) (by rw [q, g195]; exact Nat.lt_irrefl _)
            have n201 : a137 ≠ a195 := fun q => absurd (F197.lt) (by rw [q, g195]; exact Nat.lt_irrefl _)
            have n202 : a155 ≠ a195 := fun q => absurd (E155.lt) (by rw [q, g195]; exact Nat.lt_irrefl _)
            have n203 : b137 ≠ a195 := fun q => absurd (F198.lt) (by rw [q, g195]; exact Nat.lt_irrefl _)
            have n204 : b153 ≠ a195 := fun q => absurd (F199.lt) (by rw [q, g195]; exact Nat.lt_irrefl _)
            have n205 : b155 ≠ a195 := fun q => absurd (V155.lt) (by rw [q, g195]; exact Nat.lt_irrefl _)
            have f195 : Z.heap.size ≤ a195 := by rw [g195]; exact (O169).1
            rw [← g195] at A195 D195 U195 s195
            have O206 : Ext Z.heap h195 := xx O169 E195
            refine go s195 ?_
            show Ends p e below _ T195 (mkF m 142 #[iv i0, .val (.long i1), .second, iv i2, iv kk, iv z132_0, iv z133_0, iv ch134, rv a135, rv b153, rv a155, rv b153, .val .null, .unset, .unset] [(.ref a195)])
            refine go (fun _ => XS.dup X195.here hx rfl (hb hby at_142) rfl rfl) ?_
            refine go (fun _ => XS.aload X195.here hx rfl (hb hby at_143) rfl rfl) ?_
            refine go (fun _ => XS.aload X195.here hx rfl (hb hby at_145) rfl rfl) ?_
            show Ends p e below _ T195 (mkF m 147 #[iv i0, .val (.long i1), .second, iv i2, iv kk, iv z132_0, iv z133_0, iv ch134, rv a135, rv b153, rv a155, rv b153, .val .null, .unset, .unset] [(.ref a135), (.ref b153), (.ref a195), (.ref a195)])
            have F207 := (D195 (Or.inr (hwi hw 104 rfl)) (ty := (.object "java/lang/Object")) (by decide))
            have F208 := (D195 (Or.inr (hwi hw 106 rfl)) (ty := (.object "com/example/durable_state/durablestate/model/RefusedException")) (by decide))
            refine cInit X195 hx hZ hown (by rw [hml]; rfl) e195 hTK hBelow (hwi hw 99 rfl) (hwi hw 100 rfl) (hwi hw 95 rfl) (hwi hw 101 rfl) a195 [(.ref b153), (.ref a135)] [(.ref a195)] rfl (rm_um hw a195 (.ref b153) a135 _ O206 f195 A195 F207 F208 rfl ) (hb hby at_147) rfl (lenOf pd_19 rfl) rfl (by decide) (by decide) (Nat.le_of_ble_eq_true rfl) (by decide) (by decide) ?_
            rintro v209 T209 h209 L209 X209 e209 ⟨rfl, N209, K209, F209_0, F209_1⟩
            have N209a := Fr.app N155a N209
            have O210 : Ext Z.heap h209 := xk O206 K209 (allS f195 all0)
            show Ends p e below _ T209 (mkF m 150 #[iv i0, .val (.long i1), .second, iv i2, iv kk, iv z132_0, iv z133_0, iv ch134, rv a135, rv b153, rv a155, rv b153, .val .null, .unset, .unset] [(.ref a195)])
            refine go (fun _ => XS.goto X209.here hx rfl (pc0 := 150) (pc' := 155) rfl (hb hby at_150) (by decide) (by decide)) ?_
            refine go (fun _ => XS.astore X209.here hx rfl (hb hby at_155) rfl rfl (l' := #[iv i0, .val (.long i1), .second, iv i2, iv kk, iv z132_0, iv z133_0, iv ch134, rv a135, rv b153, rv a155, rv b153, .val .null, rv a195, .unset]) rfl) ?_
            refine go (fun _ => XS.iload X209.here hx rfl (hb hby at_157) rfl) ?_
            show Ends p e below _ T209 (mkF m 159 #[iv i0, .val (.long i1), .second, iv i2, iv kk, iv z132_0, iv z133_0, iv ch134, rv a135, rv b153, rv a155, rv b153, .val .null, rv a195, .unset] [(.int z132_0)])
            refine go (fun _ => XS.ifNo X209.here hx rfl (hb hby at_159) rfl (XT.i0_eq_f c136_192)) ?_
            show Ends p e below _ T209 (mkF m 162 #[iv i0, .val (.long i1), .second, iv i2, iv kk, iv z132_0, iv z133_0, iv ch134, rv a135, rv b153, rv a155, rv b153, .val .null, rv a195, .unset] [])
            refine go (fun _ => XS.aload X209.here hx rfl (hb hby at_162) rfl rfl) ?_
            refine go (fun _ => XS.astore X209.here hx rfl (hb hby at_164) rfl rfl (l' := #[iv i0, .val (.long i1), .second, iv i2, iv kk, iv z132_0, iv z133_0, iv ch134, rv a135, rv b153, rv a155, rv b153, .val .null, rv a195, rv b153]) rfl) ?_
            refine go (fun _ => XS.goto X209.here hx rfl (pc0 := 166) (pc' := 186) rfl (hb hby at_166) (by decide) (by decide)) ?_
            refine go (fun _ => XS.aload X209.here hx rfl (hb hby at_186) rfl rfl) ?_
            show Ends p e below _ T209 (mkF m 188 #[iv i0, .val (.long i1), .second, iv i2, iv kk, iv z132_0, iv z133_0, iv ch134, rv a135, rv b153, rv a155, rv b153, .val .null, rv a195, rv b153] [(.ref a195)])
            have F211 := (Exa.keep A195 K209)
            refine cStat X209 hx hZ hown (by rw [hml]; rfl) e209 hTK hBelow (hwi hw 93 rfl) (hwi hw 94 rfl) (hwi hw 95 rfl) (hwi hw 96 rfl) [(.ref a195)] [] rfl (rm_stM hw a195 (.ref b153) _ rfl F211 F209_0) (hb hby at_188) rfl (lenOf pd_18 rfl) (by decide) (by decide) (Nat.le_of_ble_eq_true rfl) (by decide) (by decide) ?_
            rintro v212 T212 h212 L212 X212 e212 ⟨rfl, N212, rfl⟩
            have N212a := Fr.app N209a N212
            show Ends p e below _ T212 (mkF m 191 #[iv i0, .val (.long i1), .second, iv i2, iv kk, iv z132_0, iv z133_0, iv ch134, rv a135, rv b153, rv a155, rv b153, .val .null, rv a195, rv b153] [(.ref b153)])
            refine go (fun _ => XS.aload X212.here hx rfl (hb hby at_191) rfl rfl) ?_
            show Ends p e below _ T212 (mkF m 193 #[iv i0, .val (.long i1), .second, iv i2, iv kk, iv z132_0, iv z133_0, iv ch134, rv a135, rv b153, rv a155, rv b153, .val .null, rv a195, rv b153] [(.ref b153), (.ref b153)])
            refine go (fun _ => XT.acmpNo X212.here hx rfl (hb hby at_193) rfl rfl rfl (XT.aa_ne_f (rfl : ((.ref b153) : Value) = (.ref b153)))) ?_
            show Ends p e below _ T212 (mkF m 196 #[iv i0, .val (.long i1), .second, iv i2, iv kk, iv z132_0, iv z133_0, iv ch134, rv a135, rv b153, rv a155, rv b153, .val .null, rv a195, rv b153] [])
            refine go (fun _ => XT.iconstV X212.here hx rfl (1 : Int32) (hb hby at_196) (by decide)) ?_
            refine go (fun _ => XS.goto X212.here hx rfl (pc0 := 197) (pc' := 201) rfl (hb hby at_197) (by decide) (by decide)) ?_
            show Ends p e below _ T212 (mkF m 201 #[iv i0, .val (.long i1), .second, iv i2, iv kk, iv z132_0, iv z133_0, iv ch134, rv a135, rv b153, rv a155, rv b153, .val .null, rv a195, rv b153] [(.int (1 : Int32))])
            exact endN X212 hx hret (by simp) (hb hby at_201) (lvN X212 hlk e212 (fun h => by rw [hret] at h; cases h) ⟨rfl, N212a⟩ (by decide) (by decide))
        · refine go (fun _ => XS.icmpYes X155.here hx rfl (pc0 := 84) (pc' := 94) rfl (hb hby at_84) rfl (XT.ii_ne_t c84_191) (by decide) (by decide)) ?_
          show Ends p e below _ T155 (mkF m 94 #[iv i0, .val (.long i1), .second, iv i2, iv kk, iv z132_0, iv z133_0, iv ch134, rv a135, rv b153, rv a155, .unset, .val .null, .unset, .unset] [])
          refine go (fun _ => XS.iload X155.here hx rfl (hb hby at_94) rfl) ?_
          refine go (fun _ => XT.iconstV X155.here hx rfl (2 : Int32) (hb hby at_96) (by decide)) ?_
          show Ends p e below _ T155 (mkF m 97 #[iv i0, .val (.long i1), .second, iv i2, iv kk, iv z132_0, iv z133_0, iv ch134, rv a135, rv b153, rv a155, .unset, .val .null, .unset, .unset] [(.int (2 : Int32)), (.int kk)])
          by_cases c97_213 : kk = (2 : Int32)
          · refine go (fun _ => XS.icmpNo X155.here hx rfl (hb hby at_97) rfl (XT.ii_ne_f c97_213)) ?_
            show Ends p e below _ T155 (mkF m 100 #[iv i0, .val (.long i1), .second, iv i2, iv kk, iv z132_0, iv z133_0, iv ch134, rv a135, rv b153, rv a155, .unset, .val .null, .unset, .unset] [])
            refine go (fun _ => XS.aload X155.here hx rfl (hb hby at_100) rfl rfl) ?_
            refine go (fun _ => XS.astore X155.here hx rfl (hb hby at_102) rfl rfl (l' := #[iv i0, .val (.long i1), .second, iv i2, iv kk, iv z132_0, iv z133_0, iv ch134, rv a135, rv b153, rv a155, rv a155, .val .null, .unset, .unset]) rfl) ?_
            refine go (fun _ => XS.goto X155.here hx rfl (pc0 := 104) (pc' := 134) rfl (hb hby at_104) (by decide) (by decide)) ?_
            refine go (fun _ => XS.iload X155.here hx rfl (hb hby at_134) rfl) ?_
            show Ends p e below _ T155 (mkF m 136 #[iv i0, .val (.long i1), .second, iv i2, iv kk, iv z132_0, iv z133_0, iv ch134, rv a135, rv b153, rv a155, rv a155, .val .null, .unset, .unset] [(.int z132_0)])
            by_cases c136_214 : z132_0 = (0 : Int32)
            · refine go (fun _ => XS.ifYes X155.here hx rfl (pc0 := 136) (pc' := 153) rfl (hb hby at_136) rfl (XT.i0_eq_t c136_214) (by decide) (by decide)) ?_
              show Ends p e below _ T155 (mkF m 153 #[iv i0, .val (.long i1), .second, iv i2, iv kk, iv z132_0, iv z133_0, iv ch134, rv a135, rv b153, rv a155, rv a155, .val .null, .unset, .unset] [])
              refine go (fun _ => XS.aload X155.here hx rfl (hb hby at_153) rfl rfl) ?_
              refine go (fun _ => XS.astore X155.here hx rfl (hb hby at_155) rfl rfl (l' := #[iv i0, .val (.long i1), .second, iv i2, iv kk, iv z132_0, iv z133_0, iv ch134, rv a135, rv b153, rv a155, rv a155, .val .null, rv a155, .unset]) rfl) ?_
              refine go (fun _ => XS.iload X155.here hx rfl (hb hby at_157) rfl) ?_
              show Ends p e below _ T155 (mkF m 159 #[iv i0, .val (.long i1), .second, iv i2, iv kk, iv z132_0, iv z133_0, iv ch134, rv a135, rv b153, rv a155, rv a155, .val .null, rv a155, .unset] [(.int z132_0)])
              refine go (fun _ => XS.ifYes X155.here hx rfl (pc0 := 159) (pc' := 169) rfl (hb hby at_159) rfl (XT.i0_eq_t c136_214) (by decide) (by decide)) ?_
              show Ends p e below _ T155 (mkF m 169 #[iv i0, .val (.long i1), .second, iv i2, iv kk, iv z132_0, iv z133_0, iv ch134, rv a135, rv b153, rv a155, rv a155, .val .null, rv a155, .unset] [])
              refine go (fun _ => XS.iload X155.here hx rfl (hb hby at_169) rfl) ?_
              refine go (fun _ => XT.iconstV X155.here hx rfl (3 : Int32) (hb hby at_171) (by decide)) ?_
              show Ends p e below _ T155 (mkF m 172 #[iv i0, .val (.long i1), .second, iv i2, iv kk, iv z132_0, iv z133_0, iv ch134, rv a135, rv b153, rv a155, rv a155, .val .null, rv a155, .unset] [(.int (3 : Int32)), (.int kk)])
              refine go (fun _ => XS.icmpYes X155.here hx rfl (pc0 := 172) (pc' := 182) rfl (hb hby at_172) rfl (XT.ii_ne_t ((by rw [c97_213]; decide) : ¬ (kk = (3 : Int32)))) (by decide) (by decide)) ?_
              show Ends p e below _ T155 (mkF m 182 #[iv i0, .val (.long i1), .second, iv i2, iv kk, iv z132_0, iv z133_0, iv ch134, rv a135, rv b153, rv a155, rv a155, .val .null, rv a155, .unset] [])
              refine go (fun _ => XS.aload X155.here hx rfl (hb hby at_182) rfl rfl) ?_
              refine go (fun _ => XS.astore X155.here hx rfl (hb hby at_184) rfl rfl (l' := #[iv i0, .val (.long i1), .second, iv i2, iv kk, iv z132_0, iv z133_0, iv ch134, rv a135, rv b153, rv a155, rv a155, .val .null, rv a155, rv a155]) rfl) ?_
              refine go (fun _ => XS.aload X155.here hx rfl (hb hby at_186) rfl rfl) ?_
              show Ends p e below _ T155 (mkF m 188 #[iv i0, .val (.long i1), .second, iv i2, iv kk, iv z132_0, iv z133_0, iv ch134, rv a135, rv b153, rv a155, rv a155, .val .null, rv a155, rv a155] [(.ref a155)])
              refine cStat X155 hx hZ hown (by rw [hml]; rfl) e155 hTK hBelow (hwi hw 93 rfl) (hwi hw 94 rfl) (hwi hw 95 rfl) (hwi hw 96 rfl) [(.ref a155)] [] rfl (rm_stS hw a155 _ E155) (hb hby at_188) rfl (lenOf pd_18 rfl) (by decide) (by decide) (Nat.le_of_ble_eq_true rfl) (by decide) (by decide) ?_
              rintro v215 T215 h215 L215 X215 e215 ⟨rfl, N215, rfl⟩
              have N215a := Fr.app N155a N215
              show Ends p e below _ T215 (mkF m 191 #[iv i0, .val (.long i1), .second, iv i2, iv kk, iv z132_0, iv z133_0, iv ch134, rv a135, rv b153, rv a155, rv a155, .val .null, rv a155, rv a155] [(.ref a155)])
              refine go (fun _ => XS.aload X215.here hx rfl (hb hby at_191) rfl rfl) ?_
              show Ends p e below _ T215 (mkF m 193 #[iv i0, .val (.long i1), .second, iv i2, iv kk, iv z132_0, iv z133_0, iv ch134, rv a135, rv b153, rv a155, rv a155, .val .null, rv a155, rv a155] [(.ref a155), (.ref a155)])
              refine go (fun _ => XT.acmpNo X215.here hx rfl (hb hby at_193) rfl rfl rfl (XT.aa_ne_f (rfl : ((.ref a155) : Value) = (.ref a155)))) ?_
              show Ends p e below _ T215 (mkF m 196 #[iv i0, .val (.long i1), .second, iv i2, iv kk, iv z132_0, iv z133_0, iv ch134, rv a135, rv b153, rv a155, rv a155, .val .null, rv a155, rv a155] [])
              refine go (fun _ => XT.iconstV X215.here hx rfl (1 : Int32) (hb hby at_196) (by decide)) ?_
              refine go (fun _ => XS.goto X215.here hx rfl (pc0 := 197) (pc' := 201) rfl (hb hby at_197) (by decide) (by decide)) ?_
              show Ends p e below _ T215 (mkF m 201 #[iv i0, .val (.long i1), .second, iv i2, iv kk, iv z132_0, iv z133_0, iv ch134, rv a135, rv b153, rv a155, rv a155, .val .null, rv a155, rv a155] [(.int (1 : Int32))])
              exact endN X215 hx hret (by simp) (hb hby at_201) (lvN X215 hlk e215 (fun h => by rw [hret] at h; cases h) ⟨rfl, N215a⟩ (by decide) (by decide))
            · refine go (fun _ => XS.ifNo X155.here hx rfl (hb hby at_136) rfl (XT.i0_eq_f c136_214)) ?_
              show Ends p e below _ T155 (mkF m 139 #[iv i0, .val (.long i1), .second, iv i2, iv kk, iv z132_0, iv z133_0, iv ch134, rv a135, rv b153, rv a155, rv a155, .val .null, .unset, .unset] [])
              obtain ⟨T216, h216, X216, e216, E216, A216, D216, U216, s216⟩ := newO X155 hx hZ hown (hwi hw 97 rfl) (hwi hw 98 rfl) (hwi hw 95 rfl) e155 (g := (mkF m 139 #[iv i0, .val (.long i1), .second, iv i2, iv kk, iv z132_0, iv z133_0, iv ch134, rv a135, rv b153, rv a155, rv a155, .val .null, .unset, .unset] [])) rfl (hb hby at_139) (by decide) (by decide)
              have F217 := (Exa.keep F156 K155)
              have F218 := (Exa.keep F158 K155)
              have F219 := (Arv.keep F160 K155 nin0)
              have F220 := (Exa.keep E153 K155)
              obtain ⟨a216, g216⟩ : ∃ z : Addr, z = h155.size := ⟨_, rfl⟩
              have n221 : a135 ≠ a216 := fun q => absurd (F217.lt) (by rw [q, g216]; exact Nat.lt_irrefl _)
              have n222 : a137 ≠ a216 := fun q => absurd (F218.lt) (by rw [q, g216]; exact Nat.lt_irrefl _)
              have n223 : a155 ≠ a216 := fun q => absurd (E155.lt) (by rw [q, g216]; exact Nat.lt_irrefl _)
              have n224 : b137 ≠ a216 := fun q => absurd (F219.lt) (by rw [q, g216]; exact Nat.lt_irrefl _)
              have n225 : b153 ≠ a216 := fun q => absurd (F220.lt) (by rw [q, g216]; exact Nat.lt_irrefl _)
              have n226 : b155 ≠ a216 := fun q => absurd (V155.lt) (by rw [q, g216]; exact Nat.lt_irrefl _)
              have f216 : Z.heap.size ≤ a216 := by rw [g216]; exact (O169).1
              rw [← g216] at A216 D216 U216 s216
              have O227 : Ext Z.heap h216 := xx O169 E216
              refine go s216 ?_
              show Ends p e below _ T216 (mkF m 142 #[iv i0, .val (.long i1), .second, iv i2, iv kk, iv z132_0, iv z133_0, iv ch134, rv a135, rv b153, rv a155, rv a155, .val .null, .unset, .unset] [(.ref a216)])
              refine go (fun _ => XS.dup X216.here hx rfl (hb hby at_142) rfl rfl) ?_
              refine go (fun _ => XS.aload X216.here hx rfl (hb hby at_143) rfl rfl) ?_
              refine go (fun _ => XS.aload X216.here hx rfl (hb hby at_145) rfl rfl) ?_
              show Ends p e below _ T216 (mkF m 147 #[iv i0, .val (.long i1), .second, iv i2, iv kk, iv z132_0, iv z133_0, iv ch134, rv a135, rv b153, rv a155, rv a155, .val .null, .unset, .unset] [(.ref a135), (.ref a155), (.ref a216), (.ref a216)])
              have F228 := (D216 (Or.inr (hwi hw 104 rfl)) (ty := (.object "java/lang/Object")) (by decide))
              have F229 := (D216 (Or.inr (hwi hw 106 rfl)) (ty := (.object "com/example/durable_state/durablestate/model/RefusedException")) (by decide))
              refine cInit X216 hx hZ hown (by rw [hml]; rfl) e216 hTK hBelow (hwi hw 99 rfl) (hwi hw 100 rfl) (hwi hw 95 rfl) (hwi hw 101 rfl) a216 [(.ref a155), (.ref a135)] [(.ref a216)] rfl (rm_um hw a216 (.ref a155) a135 _ O227 f216 A216 F228 F229 rfl ) (hb hby at_147) rfl (lenOf pd_19 rfl) rfl (by decide) (by decide) (Nat.le_of_ble_eq_true rfl) (by decide) (by decide) ?_
              rintro v230 T230 h230 L230 X230 e230 ⟨rfl, N230, K230, F230_0, F230_1⟩
              have N230a := Fr.app N155a N230
              have O231 : Ext Z.heap h230 := xk O227 K230 (allS f216 all0)
              show Ends p e below _ T230 (mkF m 150 #[iv i0, .val (.long i1), .second, iv i2, iv kk, iv z132_0, iv z133_0, iv ch134, rv a135, rv b153, rv a155, rv a155, .val .null, .unset, .unset] [(.ref a216)])
              refine go (fun _ => XS.goto X230.here hx rfl (pc0 := 150) (pc' := 155) rfl (hb hby at_150) (by decide) (by decide)) ?_
              refine go (fun _ => XS.astore X230.here hx rfl (hb hby at_155) rfl rfl (l' := #[iv i0, .val (.long i1), .second, iv i2, iv kk, iv z132_0, iv z133_0, iv ch134, rv a135, rv b153, rv a155, rv a155, .val .null, rv a216, .unset]) rfl) ?_
              refine go (fun _ => XS.iload X230.here hx rfl (hb hby at_157) rfl) ?_
              show Ends p e below _ T230 (mkF m 159 #[iv i0, .val (.long i1), .second, iv i2, iv kk, iv z132_0, iv z133_0, iv ch134, rv a135, rv b153, rv a155, rv a155, .val .null, rv a216, .unset] [(.int z132_0)])
              refine go (fun _ => XS.ifNo X230.here hx rfl (hb hby at_159) rfl (XT.i0_eq_f c136_214)) ?_
              show Ends p e below _ T230 (mkF m 162 #[iv i0, .val (.long i1), .second, iv i2, iv kk, iv z132_0, iv z133_0, iv ch134, rv a135, rv b153, rv a155, rv a155, .val .null, rv a216, .unset] [])
              refine go (fun _ => XS.aload X230.here hx rfl (hb hby at_162) rfl rfl) ?_
              refine go (fun _ => XS.astore X230.here hx rfl (hb hby at_164) rfl rfl (l' := #[iv i0, .val (.long i1), .second, iv i2, iv kk, iv z132_0, iv z133_0, iv ch134, rv a135, rv b153, rv a155, rv a155, .val .null, rv a216, rv a155]) rfl) ?_
              refine go (fun _ => XS.goto X230.here hx rfl (pc0 := 166) (pc' := 186) rfl (hb hby at_166) (by decide) (by decide)) ?_
              refine go (fun _ => XS.aload X230.here hx rfl (hb hby at_186) rfl rfl) ?_
              show Ends p e below _ T230 (mkF m 188 #[iv i0, .val (.long i1), .second, iv i2, iv kk, iv z132_0, iv z133_0, iv ch134, rv a135, rv b153, rv a155, rv a155, .val .null, rv a216, rv a155] [(.ref a216)])
              have F232 := (Exa.keep A216 K230)
              refine cStat X230 hx hZ hown (by rw [hml]; rfl) e230 hTK hBelow (hwi hw 93 rfl) (hwi hw 94 rfl) (hwi hw 95 rfl) (hwi hw 96 rfl) [(.ref a216)] [] rfl (rm_stM hw a216 (.ref a155) _ rfl F232 F230_0) (hb hby at_188) rfl (lenOf pd_18 rfl) (by decide) (by decide) (Nat.le_of_ble_eq_true rfl) (by decide) (by decide) ?_
              rintro v233 T233 h233 L233 X233 e233 ⟨rfl, N233, rfl⟩
              have N233a := Fr.app N230a N233
              show Ends p e below _ T233 (mkF m 191 #[iv i0, .val (.long i1), .second, iv i2, iv kk, iv z132_0, iv z133_0, iv ch134, rv a135, rv b153, rv a155, rv a155, .val .null, rv a216, rv a155] [(.ref a155)])
              refine go (fun _ => XS.aload X233.here hx rfl (hb hby at_191) rfl rfl) ?_
              show Ends p e below _ T233 (mkF m 193 #[iv i0, .val (.long i1), .second, iv i2, iv kk, iv z132_0, iv z133_0, iv ch134, rv a135, rv b153, rv a155, rv a155, .val .null, rv a216, rv a155] [(.ref a155), (.ref a155)])
              refine go (fun _ => XT.acmpNo X233.here hx rfl (hb hby at_193) rfl rfl rfl (XT.aa_ne_f (rfl : ((.ref a155) : Value) = (.ref a155)))) ?_
              show Ends p e below _ T233 (mkF m 196 #[iv i0, .val (.long i1), .second, iv i2, iv kk, iv z132_0, iv z133_0, iv ch134, rv a135, rv b153, rv a155, rv a155, .val .null, rv a216, rv a155] [])
              refine go (fun _ => XT.iconstV X233.here hx rfl (1 : Int32) (hb hby at_196) (by decide)) ?_
              refine go (fun _ => XS.goto X233.here hx rfl (pc0 := 197) (pc' := 201) rfl (hb hby at_197) (by decide) (by decide)) ?_
              show Ends p e below _ T233 (mkF m 201 #[iv i0, .val (.long i1), .second, iv i2, iv kk, iv z132_0, iv z133_0, iv ch134, rv a135, rv b153, rv a155, rv a155, .val .null, rv a216, rv a155] [(.int (1 : Int32))])
              exact endN X233 hx hret (by simp) (hb hby at_201) (lvN X233 hlk e233 (fun h => by rw [hret] at h; cases h) ⟨rfl, N233a⟩ (by decide) (by decide))
          · refine go (fun _ => XS.icmpYes X155.here hx rfl (pc0 := 97) (pc' := 107) rfl (hb hby at_97) rfl (XT.ii_ne_t c97_213) (by decide) (by decide)) ?_
            show Ends p e below _ T155 (mkF m 107 #[iv i0, .val (.long i1), .second, iv i2, iv kk, iv z132_0, iv z133_0, iv ch134, rv a135, rv b153, rv a155, .unset, .val .null, .unset, .unset] [])
            have t234 := own_and3 hkk c72_170 c84_191 c97_213
            refine go (fun _ => XS.iload X155.here hx rfl (hb hby at_107) rfl) ?_
            show Ends p e below _ T155 (mkF m 109 #[iv i0, .val (.long i1), .second, iv i2, iv kk, iv z132_0, iv z133_0, iv ch134, rv a135, rv b153, rv a155, .unset, .val .null, .unset, .unset] [(.int z133_0)])
            by_cases c109_235 : z133_0 = (0 : Int32)
            · refine go (fun _ => XS.ifYes X155.here hx rfl (pc0 := 109) (pc' := 117) rfl (hb hby at_109) rfl (XT.i0_eq_t c109_235) (by decide) (by decide)) ?_
              show Ends p e below _ T155 (mkF m 117 #[iv i0, .val (.long i1), .second, iv i2, iv kk, iv z132_0, iv z133_0, iv ch134, rv a135, rv b153, rv a155, .unset, .val .null, .unset, .unset] [])
              refine go (fun _ => XS.aload X155.here hx rfl (hb hby at_117) rfl rfl) ?_
              refine go (fun _ => XS.astore X155.here hx rfl (hb hby at_119) rfl rfl (l' := #[iv i0, .val (.long i1), .second, iv i2, iv kk, iv z132_0, iv z133_0, iv ch134, rv a135, rv b153, rv a155, .unset, rv a155, .unset, .unset]) rfl) ?_
              show Ends p e below _ T155 (mkF m 121 #[iv i0, .val (.long i1), .second, iv i2, iv kk, iv z132_0, iv z133_0, iv ch134, rv a135, rv b153, rv a155, .unset, rv a155, .unset, .unset] [])
              obtain ⟨T236, h236, X236, e236, E236, A236, D236, U236, s236⟩ := newO X155 hx hZ hown (hwi hw 97 rfl) (hwi hw 98 rfl) (hwi hw 95 rfl) e155 (g := (mkF m 121 #[iv i0, .val (.long i1), .second, iv i2, iv kk, iv z132_0, iv z133_0, iv ch134, rv a135, rv b153, rv a155, .unset, rv a155, .unset, .unset] [])) rfl (hb hby at_121) (by decide) (by decide)
              have F237 := (Exa.keep F156 K155)
              have F238 := (Exa.keep F158 K155)
              have F239 := (Arv.keep F160 K155 nin0)
              have F240 := (Exa.keep E153 K155)
              obtain ⟨a236, g236⟩ : ∃ z : Addr, z = h155.size := ⟨_, rfl⟩
              have n241 : a135 ≠ a236 := fun q => absurd (F237.lt) (by rw [q, g236]; exact Nat.lt_irrefl _)
              have n242 : a137 ≠ a236 := fun q => absurd (F238.lt) (by rw [q, g236]; exact Nat.lt_irrefl _)
              have n243 : a155 ≠ a236 := fun q => absurd (E155.lt) (by rw [q, g236]; exact Nat.lt_irrefl _)
              have n244 : b137 ≠ a236 := fun q => absurd (F239.lt) (by rw [q, g236]; exact Nat.lt_irrefl _)
              have n245 : b153 ≠ a236 := fun q => absurd (F240.lt) (by rw [q, g236]; exact Nat.lt_irrefl _)
              have n246 : b155 ≠ a236 := fun q => absurd (V155.lt) (by rw [q, g236]; exact Nat.lt_irrefl _)
              have f236 : Z.heap.size ≤ a236 := by rw [g236]; exact (O169).1
              rw [← g236] at A236 D236 U236 s236
              have O247 : Ext Z.heap h236 := xx O169 E236
              refine go s236 ?_
              show Ends p e below _ T236 (mkF m 124 #[iv i0, .val (.long i1), .second, iv i2, iv kk, iv z132_0, iv z133_0, iv ch134, rv a135, rv b153, rv a155, .unset, rv a155, .unset, .unset] [(.ref a236)])
              refine go (fun _ => XS.dup X236.here hx rfl (hb hby at_124) rfl rfl) ?_
              refine go (fun _ => XS.aload X236.here hx rfl (hb hby at_125) rfl rfl) ?_
              refine go (fun _ => XS.aload X236.here hx rfl (hb hby at_127) rfl rfl) ?_
              show Ends p e below _ T236 (mkF m 129 #[iv i0, .val (.long i1), .second, iv i2, iv kk, iv z132_0, iv z133_0, iv ch134, rv a135, rv b153, rv a155, .unset, rv a155, .unset, .unset] [(.ref a135), (.ref a155), (.ref a236), (.ref a236)])
              have F248 := (D236 (Or.inr (hwi hw 104 rfl)) (ty := (.object "java/lang/Object")) (by decide))
              have F249 := (D236 (Or.inr (hwi hw 106 rfl)) (ty := (.object "com/example/durable_state/durablestate/model/RefusedException")) (by decide))
              refine cInit X236 hx hZ hown (by rw [hml]; rfl) e236 hTK hBelow (hwi hw 99 rfl) (hwi hw 100 rfl) (hwi hw 95 rfl) (hwi hw 101 rfl) a236 [(.ref a155), (.ref a135)] [(.ref a236)] rfl (rm_um hw a236 (.ref a155) a135 _ O247 f236 A236 F248 F249 rfl ) (hb hby at_129) rfl (lenOf pd_19 rfl) rfl (by decide) (by decide) (Nat.le_of_ble_eq_true rfl) (by decide) (by decide) ?_
              rintro v250 T250 h250 L250 X250 e250 ⟨rfl, N250, K250, F250_0, F250_1⟩
              have N250a := Fr.app N155a N250
              have O251 : Ext Z.heap h250 := xk O247 K250 (allS f236 all0)
              show Ends p e below _ T250 (mkF m 132 #[iv i0, .val (.long i1), .second, iv i2, iv kk, iv z132_0, iv z133_0, iv ch134, rv a135, rv b153, rv a155, .unset, rv a155, .unset, .unset] [(.ref a236)])
              refine go (fun _ => XS.astore X250.here hx rfl (hb hby at_132) rfl rfl (l' := #[iv i0, .val (.long i1), .second, iv i2, iv kk, iv z132_0, iv z133_0, iv ch134, rv a135, rv b153, rv a155, rv a236, rv a155, .unset, .unset]) rfl) ?_
              refine go (fun _ => XS.iload X250.here hx rfl (hb hby at_134) rfl) ?_
              show Ends p e below _ T250 (mkF m 136 #[iv i0, .val (.long i1), .second, iv i2, iv kk, iv z132_0, iv z133_0, iv ch134, rv a135, rv b153, rv a155, rv a236, rv a155, .unset, .unset] [(.int z132_0)])
              by_cases c136_252 : z132_0 = (0 : Int32)
              · refine go (fun _ => XS.ifYes X250.here hx rfl (pc0 := 136) (pc' := 153) rfl (hb hby at_136) rfl (XT.i0_eq_t c136_252) (by decide) (by decide)) ?_
                show Ends p e below _ T250 (mkF m 153 #[iv i0, .val (.long i1), .second, iv i2, iv kk, iv z132_0, iv z133_0, iv ch134, rv a135, rv b153, rv a155, rv a236, rv a155, .unset, .unset] [])
                refine go (fun _ => XS.aload X250.here hx rfl (hb hby at_153) rfl rfl) ?_
                refine go (fun _ => XS.astore X250.here hx rfl (hb hby at_155) rfl rfl (l' := #[iv i0, .val (.long i1), .second, iv i2, iv kk, iv z132_0, iv z133_0, iv ch134, rv a135, rv b153, rv a155, rv a236, rv a155, rv a236, .unset]) rfl) ?_
                refine go (fun _ => XS.iload X250.here hx rfl (hb hby at_157) rfl) ?_
                show Ends p e below _ T250 (mkF m 159 #[iv i0, .val (.long i1), .second, iv i2, iv kk, iv z132_0, iv z133_0, iv ch134, rv a135, rv b153, rv a155, rv a236, rv a155, rv a236, .unset] [(.int z132_0)])
                refine go (fun _ => XS.ifYes X250.here hx rfl (pc0 := 159) (pc' := 169) rfl (hb hby at_159) rfl (XT.i0_eq_t c136_252) (by decide) (by decide)) ?_
                show Ends p e below _ T250 (mkF m 169 #[iv i0, .val (.long i1), .second, iv i2, iv kk, iv z132_0, iv z133_0, iv ch134, rv a135, rv b153, rv a155, rv a236, rv a155, rv a236, .unset] [])
                refine go (fun _ => XS.iload X250.here hx rfl (hb hby at_169) rfl) ?_
                refine go (fun _ => XT.iconstV X250.here hx rfl (3 : Int32) (hb hby at_171) (by decide)) ?_
                show Ends p e below _ T250 (mkF m 172 #[iv i0, .val (.long i1), .second, iv i2, iv kk, iv z132_0, iv z133_0, iv ch134, rv a135, rv b153, rv a155, rv a236, rv a155, rv a236, .unset] [(.int (3 : Int32)), (.int kk)])
                refine go (fun _ => XS.icmpNo X250.here hx rfl (hb hby at_172) rfl (XT.ii_ne_f t234)) ?_
                show Ends p e below _ T250 (mkF m 175 #[iv i0, .val (.long i1), .second, iv i2, iv kk, iv z132_0, iv z133_0, iv ch134, rv a135, rv b153, rv a155, rv a236, rv a155, rv a236, .unset] [])
                refine go (fun _ => XS.aload X250.here hx rfl (hb hby at_175) rfl rfl) ?_
                refine go (fun _ => XS.astore X250.here hx rfl (hb hby at_177) rfl rfl (l' := #[iv i0, .val (.long i1), .second, iv i2, iv kk, iv z132_0, iv z133_0, iv ch134, rv a135, rv b153, rv a155, rv a236, rv a155, rv a236, rv a155]) rfl) ?_
                refine go (fun _ => XS.goto X250.here hx rfl (pc0 := 179) (pc' := 186) rfl (hb hby at_179) (by decide) (by decide)) ?_
                refine go (fun _ => XS.aload X250.here hx rfl (hb hby at_186) rfl rfl) ?_
                show Ends p e below _ T250 (mkF m 188 #[iv i0, .val (.long i1), .second, iv i2, iv kk, iv z132_0, iv z133_0, iv ch134, rv a135, rv b153, rv a155, rv a236, rv a155, rv a236, rv a155] [(.ref a236)])
                have F253 := (Exa.keep A236 K250)
                refine cStat X250 hx hZ hown (by rw [hml]; rfl) e250 hTK hBelow (hwi hw 93 rfl) (hwi hw 94 rfl) (hwi hw 95 rfl) (hwi hw 96 rfl) [(.ref a236)] [] rfl (rm_stM hw a236 (.ref a155) _ rfl F253 F250_0) (hb hby at_188) rfl (lenOf pd_18 rfl) (by decide) (by decide) (Nat.le_of_ble_eq_true rfl) (by decide) (by decide) ?_
                rintro v254 T254 h254 L254 X254 e254 ⟨rfl, N254, rfl⟩
                have N254a := Fr.app N250a N254
                show Ends p e below _ T254 (mkF m 191 #[iv i0, .val (.long i1), .second, iv i2, iv kk, iv z132_0, iv z133_0, iv ch134, rv a135, rv b153, rv a155, rv a236, rv a155, rv a236, rv a155] [(.ref a155)])
                refine go (fun _ => XS.aload X254.here hx rfl (hb hby at_191) rfl rfl) ?_
                show Ends p e below _ T254 (mkF m 193 #[iv i0, .val (.long i1), .second, iv i2, iv kk, iv z132_0, iv z133_0, iv ch134, rv a135, rv b153, rv a155, rv a236, rv a155, rv a236, rv a155] [(.ref a155), (.ref a155)])
                refine go (fun _ => XT.acmpNo X254.here hx rfl (hb hby at_193) rfl rfl rfl (XT.aa_ne_f (rfl : ((.ref a155) : Value) = (.ref a155)))) ?_
                show Ends p e below _ T254 (mkF m 196 #[iv i0, .val (.long i1), .second, iv i2, iv kk, iv z132_0, iv z133_0, iv ch134, rv a135, rv b153, rv a155, rv a236, rv a155, rv a236, rv a155] [])
                refine go (fun _ => XT.iconstV X254.here hx rfl (1 : Int32) (hb hby at_196) (by decide)) ?_
                refine go (fun _ => XS.goto X254.here hx rfl (pc0 := 197) (pc' := 201) rfl (hb hby at_197) (by decide) (by decide)) ?_
                show Ends p e below _ T254 (mkF m 201 #[iv i0, .val (.long i1), .second, iv i2, iv kk, iv z132_0, iv z133_0, iv ch134, rv a135, rv b153, rv a155, rv a236, rv a155, rv a236, rv a155] [(.int (1 : Int32))])
                exact endN X254 hx hret (by simp) (hb hby at_201) (lvN X254 hlk e254 (fun h => by rw [hret] at h; cases h) ⟨rfl, N254a⟩ (by decide) (by decide))
              · refine go (fun _ => XS.ifNo X250.here hx rfl (hb hby at_136) rfl (XT.i0_eq_f c136_252)) ?_
                show Ends p e below _ T250 (mkF m 139 #[iv i0, .val (.long i1), .second, iv i2, iv kk, iv z132_0, iv z133_0, iv ch134, rv a135, rv b153, rv a155, rv a236, rv a155, .unset, .unset] [])
                obtain ⟨T255, h255, X255, e255, E255, A255, D255, U255, s255⟩ := newO X250 hx hZ hown (hwi hw 97 rfl) (hwi hw 98 rfl) (hwi hw 95 rfl) e250 (g := (mkF m 139 #[iv i0, .val (.long i1), .second, iv i2, iv kk, iv z132_0, iv z133_0, iv ch134, rv a135, rv b153, rv a155, rv a236, rv a155, .unset, .unset] [])) rfl (hb hby at_139) (by decide) (by decide)
                have F256 := (Exa.keep (Exa.ext E236 F237) K250)
                have F257 := (Exa.keep (Exa.ext E236 F238) K250)
                have F258 := (Exa.keep (Exa.ext E236 E155) K250)
                have F259 := (Exa.keep A236 K250)
                have F260 := (Arv.keep (Arv.ext F239 E236) K250 (ninS n244 nin0))
                have F261 := (Exa.keep (Exa.ext E236 F240) K250)
                have F262 := (Arv.keep (Arv.ext V155 E236) K250 (ninS n246 nin0))
                obtain ⟨a255, g255⟩ : ∃ z : Addr, z = h250.size := ⟨_, rfl⟩
                have n263 : a135 ≠ a255 := fun q => absurd (F256.lt) (by rw [q, g255]; exact Nat.lt_irrefl _)
                have n264 : a137 ≠ a255 := fun q => absurd (F257.lt) (by rw [q, g255]; exact Nat.lt_irrefl _)
                have n265 : a155 ≠ a255 := fun q => absurd (F258.lt) (by rw [q, g255]; exact Nat.lt_irrefl _)
                have n266 : a236 ≠ a255 := fun q => absurd (F259.lt) (by rw [q, g255]; exact Nat.lt_irrefl _)
                have n267 : b137 ≠ a255 := fun q => absurd (F260.lt) (by rw [q, g255]; exact Nat.lt_irrefl _)
                have n268 : b153 ≠ a255 := fun q => absurd (F261.lt) (by rw [q, g255]; exact Nat.lt_irrefl _)
                have n269 : b155 ≠ a255 := fun q => absurd (F262.lt) (by rw [q, g255]; exact Nat.lt_irrefl _)
                have f255 : Z.heap.size ≤ a255 := by rw [g255]; exact (O251).1
                rw [← g255] at A255 D255 U255 s255
                have O270 : Ext Z.heap h255 := xx O251 E255
                refine go s255 ?_
                show Ends p e below _ T255 (mkF m 142 #[iv i0, .val (.long i1), .second, iv i2, iv kk, iv z132_0, iv z133_0, iv ch134, rv a135, rv b153, rv a155, rv a236, rv a155, .unset, .unset] [(.ref a255)])
                refine go (fun _ => XS.dup X255.here hx rfl (hb hby at_142) rfl rfl) ?_
                refine go (fun _ => XS.aload X255.here hx rfl (hb hby at_143) rfl rfl) ?_
                refine go (fun _ => XS.aload X255.here hx rfl (hb hby at_145) rfl rfl) ?_
                show Ends p e below _ T255 (mkF m 147 #[iv i0, .val (.long i1), .second, iv i2, iv kk, iv z132_0, iv z133_0, iv ch134, rv a135, rv b153, rv a155, rv a236, rv a155, .unset, .unset] [(.ref a135), (.ref a236), (.ref a255), (.ref a255)])
                have F271 := (D255 (Or.inr (hwi hw 104 rfl)) (ty := (.object "java/lang/Object")) (by decide))
                have F272 := (D255 (Or.inr (hwi hw 106 rfl)) (ty := (.object "com/example/durable_state/durablestate/model/RefusedException")) (by decide))
                refine cInit X255 hx hZ hown (by rw [hml]; rfl) e255 hTK hBelow (hwi hw 99 rfl) (hwi hw 100 rfl) (hwi hw 95 rfl) (hwi hw 101 rfl) a255 [(.ref a236), (.ref a135)] [(.ref a255)] rfl (rm_um hw a255 (.ref a236) a135 _ O270 f255 A255 F271 F272 rfl ) (hb hby at_147) rfl (lenOf pd_19 rfl) rfl (by decide) (by decide) (Nat.le_of_ble_eq_true rfl) (by decide) (by decide) ?_
                rintro v273 T273 h273 L273 X273 e273 ⟨rfl, N273, K273, F273_0, F273_1⟩
                have N273a := Fr.app N250a N273
                have O274 : Ext Z.heap h273 := xk O270 K273 (allS f255 all0)
                show Ends p e below _ T273 (mkF m 150 #[iv i0, .val (.long i1), .second, iv i2, iv kk, iv z132_0, iv z133_0, iv ch134, rv a135, rv b153, rv a155, rv a236, rv a155, .unset, .unset] [(.ref a255)])
                refine go (fun _ => XS.goto X273.here hx rfl (pc0 := 150) (pc' := 155) rfl (hb hby at_150) (by decide) (by decide)) ?_
                refine go (fun _ => XS.astore X273.here hx rfl (hb hby at_155) rfl rfl (l' := #[iv i0, .val (.long i1), .second, iv i2, iv kk, iv z132_0, iv z133_0, iv ch134, rv a135, rv b153, rv a155, rv a236, rv a155, rv a255, .unset]) rfl) ?_
                refine go (fun _ => XS.iload X273.here hx rfl (hb hby at_157) rfl) ?_
                show Ends p e below _ T273 (mkF m 159 #[iv i0, .val (.long i1), .second, iv i2, iv kk, iv z132_0, iv z133_0, iv ch134, rv a135, rv b153, rv a155, rv a236, rv a155, rv a255, .unset] [(.int z132_0)])
                refine go (fun _ => XS.ifNo X273.here hx rfl (hb hby at_159) rfl (XT.i0_eq_f c136_252)) ?_
                show Ends p e below _ T273 (mkF m 162 #[iv i0, .val (.long i1), .second, iv i2, iv kk, iv z132_0, iv z133_0, iv ch134, rv a135, rv b153, rv a155, rv a236, rv a155, rv a255, .unset] [])
                refine go (fun _ => XS.aload X273.here hx rfl (hb hby at_162) rfl rfl) ?_
                refine go (fun _ => XS.astore X273.here hx rfl (hb hby at_164) rfl rfl (l' := #[iv i0, .val (.long i1), .second, iv i2, iv kk, iv z132_0, iv z133_0, iv ch134, rv a135, rv b153, rv a155, rv a236, rv a155, rv a255, rv a236]) rfl) ?_
                refine go (fun _ => XS.goto X273.here hx rfl (pc0 := 166) (pc' := 186) rfl (hb hby at_166) (by decide) (by decide)) ?_
                refine go (fun _ => XS.aload X273.here hx rfl (hb hby at_186) rfl rfl) ?_
                show Ends p e below _ T273 (mkF m 188 #[iv i0, .val (.long i1), .second, iv i2, iv kk, iv z132_0, iv z133_0, iv ch134, rv a135, rv b153, rv a155, rv a236, rv a155, rv a255, rv a236] [(.ref a255)])
                have F275 := (Exa.keep A255 K273)
                refine cStat X273 hx hZ hown (by rw [hml]; rfl) e273 hTK hBelow (hwi hw 93 rfl) (hwi hw 94 rfl) (hwi hw 95 rfl) (hwi hw 96 rfl) [(.ref a255)] [] rfl (rm_stM hw a255 (.ref a236) _ rfl F275 F273_0) (hb hby at_188) rfl (lenOf pd_18 rfl) (by decide) (by decide) (Nat.le_of_ble_eq_true rfl) (by decide) (by decide) ?_
                rintro v276 T276 h276 L276 X276 e276 ⟨rfl, N276, rfl⟩
                have N276a := Fr.app N273a N276
                show Ends p e below _ T276 (mkF m 191 #[iv i0, .val (.long i1), .second, iv i2, iv kk, iv z132_0, iv z133_0, iv ch134, rv a135, rv b153, rv a155, rv a236, rv a155, rv a255, rv a236] [(.ref a236)])
                refine go (fun _ => XS.aload X276.here hx rfl (hb hby at_191) rfl rfl) ?_
                show Ends p e below _ T276 (mkF m 193 #[iv i0, .val (.long i1), .second, iv i2, iv kk, iv z132_0, iv z133_0, iv ch134, rv a135, rv b153, rv a155, rv a236, rv a155, rv a255, rv a236] [(.ref a236), (.ref a236)])
                refine go (fun _ => XT.acmpNo X276.here hx rfl (hb hby at_193) rfl rfl rfl (XT.aa_ne_f (rfl : ((.ref a236) : Value) = (.ref a236)))) ?_
                show Ends p e below _ T276 (mkF m 196 #[iv i0, .val (.long i1), .second, iv i2, iv kk, iv z132_0, iv z133_0, iv ch134, rv a135, rv b153, rv a155, rv a236, rv a155, rv a255, rv a236] [])
                refine go (fun _ => XT.iconstV X276.here hx rfl (1 : Int32) (hb hby at_196) (by decide)) ?_
                refine go (fun _ => XS.goto X276.here hx rfl (pc0 := 197) (pc' := 201) rfl (hb hby at_197) (by decide) (by decide)) ?_
                show Ends p e below _ T276 (mkF m 201 #[iv i0, .val (.long i1), .second, iv i2, iv kk, iv z132_0, iv z133_0, iv ch134, rv a135, rv b153, rv a155, rv a236, rv a155, rv a255, rv a236] [(.int (1 : Int32))])
                exact endN X276 hx hret (by simp) (hb hby at_201) (lvN X276 hlk e276 (fun h => by rw [hret] at h; cases h) ⟨rfl, N276a⟩ (by decide) (by decide))
            · refine go (fun _ => XS.ifNo X155.here hx rfl (hb hby at_109) rfl (XT.i0_eq_f c109_235)) ?_
              show Ends p e below _ T155 (mkF m 112 #[iv i0, .val (.long i1), .second, iv i2, iv kk, iv z132_0, iv z133_0, iv ch134, rv a135, rv b153, rv a155, .unset, .val .null, .unset, .unset] [])
              refine go (fun _ => XS.aload X155.here hx rfl (hb hby at_112) rfl rfl) ?_
              refine go (fun _ => XS.goto X155.here hx rfl (pc0 := 114) (pc' := 119) rfl (hb hby at_114) (by decide) (by decide)) ?_
              refine go (fun _ => XS.astore X155.here hx rfl (hb hby at_119) rfl rfl (l' := #[iv i0, .val (.long i1), .second, iv i2, iv kk, iv z132_0, iv z133_0, iv ch134, rv a135, rv b153, rv a155, .unset, rv b153, .unset, .unset]) rfl) ?_
              show Ends p e below _ T155 (mkF m 121 #[iv i0, .val (.long i1), .second, iv i2, iv kk, iv z132_0, iv z133_0, iv ch134, rv a135, rv b153, rv a155, .unset, rv b153, .unset, .unset] [])
              obtain ⟨T277, h277, X277, e277, E277, A277, D277, U277, s277⟩ := newO X155 hx hZ hown (hwi hw 97 rfl) (hwi hw 98 rfl) (hwi hw 95 rfl) e155 (g := (mkF m 121 #[iv i0, .val (.long i1), .second, iv i2, iv kk, iv z132_0, iv z133_0, iv ch134, rv a135, rv b153, rv a155, .unset, rv b153, .unset, .unset] [])) rfl (hb hby at_121) (by decide) (by decide)
              have F278 := (Exa.keep F156 K155)
              have F279 := (Exa.keep F158 K155)
              have F280 := (Arv.keep F160 K155 nin0)
              have F281 := (Exa.keep E153 K155)
              obtain ⟨a277, g277⟩ : ∃ z : Addr, z = h155.size := ⟨_, rfl⟩
              have n282 : a135 ≠ a277 := fun q => absurd (F278.lt) (by rw [q, g277]; exact Nat.lt_irrefl _)
              have n283 : a137 ≠ a277 := fun q => absurd (F279.lt) (by rw [q, g277]; exact Nat.lt_irrefl _)
              have n284 : a155 ≠ a277 := fun q => absurd (E155.lt) (by rw [q, g277]; exact Nat.lt_irrefl _)
              have n285 : b137 ≠ a277 := fun q => absurd (F280.lt) (by rw [q, g277]; exact Nat.lt_irrefl _)
              have n286 : b153 ≠ a277 := fun q => absurd (F281.lt) (by rw [q, g277]; exact Nat.lt_irrefl _)
              have n287 : b155 ≠ a277 := fun q => absurd (V155.lt) (by rw [q, g277]; exact Nat.lt_irrefl _)
              have f277 : Z.heap.size ≤ a277 := by rw [g277]; exact (O169).1
              rw [← g277] at A277 D277 U277 s277
              have O288 : Ext Z.heap h277 := xx O169 E277
              refine go s277 ?_
              show Ends p e below _ T277 (mkF m 124 #[iv i0, .val (.long i1), .second, iv i2, iv kk, iv z132_0, iv z133_0, iv ch134, rv a135, rv b153, rv a155, .unset, rv b153, .unset, .unset] [(.ref a277)])
              refine go (fun _ => XS.dup X277.here hx rfl (hb hby at_124) rfl rfl) ?_
              refine go (fun _ => XS.aload X277.here hx rfl (hb hby at_125) rfl rfl) ?_
              refine go (fun _ => XS.aload X277.here hx rfl (hb hby at_127) rfl rfl) ?_
              show Ends p e below _ T277 (mkF m 129 #[iv i0, .val (.long i1), .second, iv i2, iv kk, iv z132_0, iv z133_0, iv ch134, rv a135, rv b153, rv a155, .unset, rv b153, .unset, .unset] [(.ref a135), (.ref b153), (.ref a277), (.ref a277)])
              have F289 := (D277 (Or.inr (hwi hw 104 rfl)) (ty := (.object "java/lang/Object")) (by decide))
              have F290 := (D277 (Or.inr (hwi hw 106 rfl)) (ty := (.object "com/example/durable_state/durablestate/model/RefusedException")) (by decide))
              refine cInit X277 hx hZ hown (by rw [hml]; rfl) e277 hTK hBelow (hwi hw 99 rfl) (hwi hw 100 rfl) (hwi hw 95 rfl) (hwi hw 101 rfl) a277 [(.ref b153), (.ref a135)] [(.ref a277)] rfl (rm_um hw a277 (.ref b153) a135 _ O288 f277 A277 F289 F290 rfl ) (hb hby at_129) rfl (lenOf pd_19 rfl) rfl (by decide) (by decide) (Nat.le_of_ble_eq_true rfl) (by decide) (by decide) ?_
              rintro v291 T291 h291 L291 X291 e291 ⟨rfl, N291, K291, F291_0, F291_1⟩
              have N291a := Fr.app N155a N291
              have O292 : Ext Z.heap h291 := xk O288 K291 (allS f277 all0)
              show Ends p e below _ T291 (mkF m 132 #[iv i0, .val (.long i1), .second, iv i2, iv kk, iv z132_0, iv z133_0, iv ch134, rv a135, rv b153, rv a155, .unset, rv b153, .unset, .unset] [(.ref a277)])
              refine go (fun _ => XS.astore X291.here hx rfl (hb hby at_132) rfl rfl (l' := #[iv i0, .val (.long i1), .second, iv i2, iv kk, iv z132_0, iv z133_0, iv ch134, rv a135, rv b153, rv a155, rv a277, rv b153, .unset, .unset]) rfl) ?_
              refine go (fun _ => XS.iload X291.here hx rfl (hb hby at_134) rfl) ?_
              show Ends p e below _ T291 (mkF m 136 #[iv i0, .val (.long i1), .second, iv i2, iv kk, iv z132_0, iv z133_0, iv ch134, rv a135, rv b153, rv a155, rv a277, rv b153, .unset, .unset] [(.int z132_0)])
              by_cases c136_293 : z132_0 = (0 : Int32)
              · refine go (fun _ => XS.ifYes X291.here hx rfl (pc0 := 136) (pc' := 153) rfl (hb hby at_136) rfl (XT.i0_eq_t c136_293) (by decide) (by decide)) ?_
                show Ends p e below _ T291 (mkF m 153 #[iv i0, .val (.long i1), .second, iv i2, iv kk, iv z132_0, iv z133_0, iv ch134, rv a135, rv b153, rv a155, rv a277, rv b153, .unset, .unset] [])
                refine go (fun _ => XS.aload X291.here hx rfl (hb hby at_153) rfl rfl) ?_
                refine go (fun _ => XS.astore X291.here hx rfl (hb hby at_155) rfl rfl (l' := #[iv i0, .val (.long i1), .second, iv i2, iv kk, iv z132_0, iv z133_0, iv ch134, rv a135, rv b153, rv a155, rv a277, rv b153, rv a277, .unset]) rfl) ?_
                refine go (fun _ => XS.iload X291.here hx rfl (hb hby at_157) rfl) ?_
                show Ends p e below _ T291 (mkF m 159 #[iv i0, .val (.long i1), .second, iv i2, iv kk, iv z132_0, iv z133_0, iv ch134, rv a135, rv b153, rv a155, rv a277, rv b153, rv a277, .unset] [(.int z132_0)])
                refine go (fun _ => XS.ifYes X291.here hx rfl (pc0 := 159) (pc' := 169) rfl (hb hby at_159) rfl (XT.i0_eq_t c136_293) (by decide) (by decide)) ?_
                show Ends p e below _ T291 (mkF m 169 #[iv i0, .val (.long i1), .second, iv i2, iv kk, iv z132_0, iv z133_0, iv ch134, rv a135, rv b153, rv a155, rv a277, rv b153, rv a277, .unset] [])
                refine go (fun _ => XS.iload X291.here hx rfl (hb hby at_169) rfl) ?_
                refine go (fun _ => XT.iconstV X291.here hx rfl (3 : Int32) (hb hby at_171) (by decide)) ?_
                show Ends p e below _ T291 (mkF m 172 #[iv i0, .val (.long i1), .second, iv i2, iv kk, iv z132_0, iv z133_0, iv ch134, rv a135, rv b153, rv a155, rv a277, rv b153, rv a277, .unset] [(.int (3 : Int32)), (.int kk)])
                refine go (fun _ => XS.icmpNo X291.here hx rfl (hb hby at_172) rfl (XT.ii_ne_f t234)) ?_
                show Ends p e below _ T291 (mkF m 175 #[iv i0, .val (.long i1), .second, iv i2, iv kk, iv z132_0, iv z133_0, iv ch134, rv a135, rv b153, rv a155, rv a277, rv b153, rv a277, .unset] [])
                refine go (fun _ => XS.aload X291.here hx rfl (hb hby at_175) rfl rfl) ?_
                refine go (fun _ => XS.astore X291.here hx rfl (hb hby at_177) rfl rfl (l' := #[iv i0, .val (.long i1), .second, iv i2, iv kk, iv z132_0, iv z133_0, iv ch134, rv a135, rv b153, rv a155, rv a277, rv b153, rv a277, rv b153]) rfl) ?_
                refine go (fun _ => XS.goto X291.here hx rfl (pc0 := 179) (pc' := 186) rfl (hb hby at_179) (by decide) (by decide)) ?_
                refine go (fun _ => XS.aload X291.here hx rfl (hb hby at_186) rfl rfl) ?_
                show Ends p e below _ T291 (mkF m 188 #[iv i0, .val (.long i1), .second, iv i2, iv kk, iv z132_0, iv z133_0, iv ch134, rv a135, rv b153, rv a155, rv a277, rv b153, rv a277, rv b153] [(.ref a277)])
                have F294 := (Exa.keep A277 K291)
                refine cStat X291 hx hZ hown (by rw [hml]; rfl) e291 hTK hBelow (hwi hw 93 rfl) (hwi hw 94 rfl) (hwi hw 95 rfl) (hwi hw 96 rfl) [(.ref a277)] [] rfl (rm_stM hw a277 (.ref b153) _ rfl F294 F291_0) (hb hby at_188) rfl (lenOf pd_18 rfl) (by decide) (by decide) (Nat.le_of_ble_eq_true rfl) (by decide) (by decide) ?_
                rintro v295 T295 h295 L295 X295 e295 ⟨rfl, N295, rfl⟩
                have N295a := Fr.app N291a N295
                show Ends p e below _ T295 (mkF m 191 #[iv i0, .val (.long i1), .second, iv i2, iv kk, iv z132_0, iv z133_0, iv ch134, rv a135, rv b153, rv a155, rv a277, rv b153, rv a277, rv b153] [(.ref b153)])
                refine go (fun _ => XS.aload X295.here hx rfl (hb hby at_191) rfl rfl) ?_
                show Ends p e below _ T295 (mkF m 193 #[iv i0, .val (.long i1), .second, iv i2, iv kk, iv z132_0, iv z133_0, iv ch134, rv a135, rv b153, rv a155, rv a277, rv b153, rv a277, rv b153] [(.ref b153), (.ref b153)])
                refine go (fun _ => XT.acmpNo X295.here hx rfl (hb hby at_193) rfl rfl rfl (XT.aa_ne_f (rfl : ((.ref b153) : Value) = (.ref b153)))) ?_
                show Ends p e below _ T295 (mkF m 196 #[iv i0, .val (.long i1), .second, iv i2, iv kk, iv z132_0, iv z133_0, iv ch134, rv a135, rv b153, rv a155, rv a277, rv b153, rv a277, rv b153] [])
                refine go (fun _ => XT.iconstV X295.here hx rfl (1 : Int32) (hb hby at_196) (by decide)) ?_
                refine go (fun _ => XS.goto X295.here hx rfl (pc0 := 197) (pc' := 201) rfl (hb hby at_197) (by decide) (by decide)) ?_
                show Ends p e below _ T295 (mkF m 201 #[iv i0, .val (.long i1), .second, iv i2, iv kk, iv z132_0, iv z133_0, iv ch134, rv a135, rv b153, rv a155, rv a277, rv b153, rv a277, rv b153] [(.int (1 : Int32))])
                exact endN X295 hx hret (by simp) (hb hby at_201) (lvN X295 hlk e295 (fun h => by rw [hret] at h; cases h) ⟨rfl, N295a⟩ (by decide) (by decide))
              · refine go (fun _ => XS.ifNo X291.here hx rfl (hb hby at_136) rfl (XT.i0_eq_f c136_293)) ?_
                show Ends p e below _ T291 (mkF m 139 #[iv i0, .val (.long i1), .second, iv i2, iv kk, iv z132_0, iv z133_0, iv ch134, rv a135, rv b153, rv a155, rv a277, rv b153, .unset, .unset] [])
                obtain ⟨T296, h296, X296, e296, E296, A296, D296, U296, s296⟩ := newO X291 hx hZ hown (hwi hw 97 rfl) (hwi hw 98 rfl) (hwi hw 95 rfl) e291 (g := (mkF m 139 #[iv i0, .val (.long i1), .second, iv i2, iv kk, iv z132_0, iv z133_0, iv ch134, rv a135, rv b153, rv a155, rv a277, rv b153, .unset, .unset] [])) rfl (hb hby at_139) (by decide) (by decide)
                have F297 := (Exa.keep (Exa.ext E277 F278) K291)
                have F298 := (Exa.keep (Exa.ext E277 F279) K291)
                have F299 := (Exa.keep (Exa.ext E277 E155) K291)
                have F300 := (Exa.keep A277 K291)
                have F301 := (Arv.keep (Arv.ext F280 E277) K291 (ninS n285 nin0))
                have F302 := (Exa.keep (Exa.ext E277 F281) K291)
                have F303 := (Arv.keep (Arv.ext V155 E277) K291 (ninS n287 nin0))
                obtain ⟨a296, g296⟩ : ∃ z : Addr, z = h291.size := ⟨_, rfl⟩
                have n304 : a135 ≠ a296 := fun q => absurd (F297.lt) (by rw [q, g296]; exact Nat.lt_irrefl _)
                have n305 : a137 ≠ a296 := fun q => absurd (F298.lt) (by rw [q, g296]; exact Nat.lt_irrefl _)
                have n306 : a155 ≠ a296 := fun q => absurd (F299.lt) (by rw [q, g296]; exact Nat.lt_irrefl _)
                have n307 : a277 ≠ a296 := fun q => absurd (F300.lt) (by rw [q, g296]; exact Nat.lt_irrefl _)
                have n308 : b137 ≠ a296 := fun q => absurd (F301.lt) (by rw [q, g296]; exact Nat.lt_irrefl _)
                have n309 : b153 ≠ a296 := fun q => absurd (F302.lt) (by rw [q, g296]; exact Nat.lt_irrefl _)
                have n310 : b155 ≠ a296 := fun q => absurd (F303.lt) (by rw [q, g296]; exact Nat.lt_irrefl _)
                have f296 : Z.heap.size ≤ a296 := by rw [g296]; exact (O292).1
                rw [← g296] at A296 D296 U296 s296
                have O311 : Ext Z.heap h296 := xx O292 E296
                refine go s296 ?_
                show Ends p e below _ T296 (mkF m 142 #[iv i0, .val (.long i1), .second, iv i2, iv kk, iv z132_0, iv z133_0, iv ch134, rv a135, rv b153, rv a155, rv a277, rv b153, .unset, .unset] [(.ref a296)])
                refine go (fun _ => XS.dup X296.here hx rfl (hb hby at_142) rfl rfl) ?_
                refine go (fun _ => XS.aload X296.here hx rfl (hb hby at_143) rfl rfl) ?_
                refine go (fun _ => XS.aload X296.here hx rfl (hb hby at_145) rfl rfl) ?_
                show Ends p e below _ T296 (mkF m 147 #[iv i0, .val (.long i1), .second, iv i2, iv kk, iv z132_0, iv z133_0, iv ch134, rv a135, rv b153, rv a155, rv a277, rv b153, .unset, .unset] [(.ref a135), (.ref a277), (.ref a296), (.ref a296)])
                have F312 := (D296 (Or.inr (hwi hw 104 rfl)) (ty := (.object "java/lang/Object")) (by decide))
                have F313 := (D296 (Or.inr (hwi hw 106 rfl)) (ty := (.object "com/example/durable_state/durablestate/model/RefusedException")) (by decide))
                refine cInit X296 hx hZ hown (by rw [hml]; rfl) e296 hTK hBelow (hwi hw 99 rfl) (hwi hw 100 rfl) (hwi hw 95 rfl) (hwi hw 101 rfl) a296 [(.ref a277), (.ref a135)] [(.ref a296)] rfl (rm_um hw a296 (.ref a277) a135 _ O311 f296 A296 F312 F313 rfl ) (hb hby at_147) rfl (lenOf pd_19 rfl) rfl (by decide) (by decide) (Nat.le_of_ble_eq_true rfl) (by decide) (by decide) ?_
                rintro v314 T314 h314 L314 X314 e314 ⟨rfl, N314, K314, F314_0, F314_1⟩
                have N314a := Fr.app N291a N314
                have O315 : Ext Z.heap h314 := xk O311 K314 (allS f296 all0)
                show Ends p e below _ T314 (mkF m 150 #[iv i0, .val (.long i1), .second, iv i2, iv kk, iv z132_0, iv z133_0, iv ch134, rv a135, rv b153, rv a155, rv a277, rv b153, .unset, .unset] [(.ref a296)])
                refine go (fun _ => XS.goto X314.here hx rfl (pc0 := 150) (pc' := 155) rfl (hb hby at_150) (by decide) (by decide)) ?_
                refine go (fun _ => XS.astore X314.here hx rfl (hb hby at_155) rfl rfl (l' := #[iv i0, .val (.long i1), .second, iv i2, iv kk, iv z132_0, iv z133_0, iv ch134, rv a135, rv b153, rv a155, rv a277, rv b153, rv a296, .unset]) rfl) ?_
                refine go (fun _ => XS.iload X314.here hx rfl (hb hby at_157) rfl) ?_
                show Ends p e below _ T314 (mkF m 159 #[iv i0, .val (.long i1), .second, iv i2, iv kk, iv z132_0, iv z133_0, iv ch134, rv a135, rv b153, rv a155, rv a277, rv b153, rv a296, .unset] [(.int z132_0)])
                refine go (fun _ => XS.ifNo X314.here hx rfl (hb hby at_159) rfl (XT.i0_eq_f c136_293)) ?_
                show Ends p e below _ T314 (mkF m 162 #[iv i0, .val (.long i1), .second, iv i2, iv kk, iv z132_0, iv z133_0, iv ch134, rv a135, rv b153, rv a155, rv a277, rv b153, rv a296, .unset] [])
                refine go (fun _ => XS.aload X314.here hx rfl (hb hby at_162) rfl rfl) ?_
                refine go (fun _ => XS.astore X314.here hx rfl (hb hby at_164) rfl rfl (l' := #[iv i0, .val (.long i1), .second, iv i2, iv kk, iv z132_0, iv z133_0, iv ch134, rv a135, rv b153, rv a155, rv a277, rv b153, rv a296, rv a277]) rfl) ?_
                refine go (fun _ => XS.goto X314.here hx rfl (pc0 := 166) (pc' := 186) rfl (hb hby at_166) (by decide) (by decide)) ?_
                refine go (fun _ => XS.aload X314.here hx rfl (hb hby at_186) rfl rfl) ?_
                show Ends p e below _ T314 (mkF m 188 #[iv i0, .val (.long i1), .second, iv i2, iv kk, iv z132_0, iv z133_0, iv ch134, rv a135, rv b153, rv a155, rv a277, rv b153, rv a296, rv a277] [(.ref a296)])
                have F316 := (Exa.keep A296 K314)
                refine cStat X314 hx hZ hown (by rw [hml]; rfl) e314 hTK hBelow (hwi hw 93 rfl) (hwi hw 94 rfl) (hwi hw 95 rfl) (hwi hw 96 rfl) [(.ref a296)] [] rfl (rm_stM hw a296 (.ref a277) _ rfl F316 F314_0) (hb hby at_188) rfl (lenOf pd_18 rfl) (by decide) (by decide) (Nat.le_of_ble_eq_true rfl) (by decide) (by decide) ?_
                rintro v317 T317 h317 L317 X317 e317 ⟨rfl, N317, rfl⟩
                have N317a := Fr.app N314a N317
                show Ends p e below _ T317 (mkF m 191 #[iv i0, .val (.long i1), .second, iv i2, iv kk, iv z132_0, iv z133_0, iv ch134, rv a135, rv b153, rv a155, rv a277, rv b153, rv a296, rv a277] [(.ref a277)])
                refine go (fun _ => XS.aload X317.here hx rfl (hb hby at_191) rfl rfl) ?_
                show Ends p e below _ T317 (mkF m 193 #[iv i0, .val (.long i1), .second, iv i2, iv kk, iv z132_0, iv z133_0, iv ch134, rv a135, rv b153, rv a155, rv a277, rv b153, rv a296, rv a277] [(.ref a277), (.ref a277)])
                refine go (fun _ => XT.acmpNo X317.here hx rfl (hb hby at_193) rfl rfl rfl (XT.aa_ne_f (rfl : ((.ref a277) : Value) = (.ref a277)))) ?_
                show Ends p e below _ T317 (mkF m 196 #[iv i0, .val (.long i1), .second, iv i2, iv kk, iv z132_0, iv z133_0, iv ch134, rv a135, rv b153, rv a155, rv a277, rv b153, rv a296, rv a277] [])
                refine go (fun _ => XT.iconstV X317.here hx rfl (1 : Int32) (hb hby at_196) (by decide)) ?_
                refine go (fun _ => XS.goto X317.here hx rfl (pc0 := 197) (pc' := 201) rfl (hb hby at_197) (by decide) (by decide)) ?_
                show Ends p e below _ T317 (mkF m 201 #[iv i0, .val (.long i1), .second, iv i2, iv kk, iv z132_0, iv z133_0, iv ch134, rv a135, rv b153, rv a155, rv a277, rv b153, rv a296, rv a277] [(.int (1 : Int32))])
                exact endN X317 hx hret (by simp) (hb hby at_201) (lvN X317 hlk e317 (fun h => by rw [hret] at h; cases h) ⟨rfl, N317a⟩ (by decide) (by decide))
    by_cases c22_318 : (i0 &&& (8 : Int32)) = (0 : Int32)
    · refine go (fun _ => XS.ifYes X0.here hx rfl (pc0 := 22) (pc' := 29) rfl (hb hby at_22) rfl (XT.i0_eq_t c22_318) (by decide) (by decide)) ?_
      show Ends p e below _ T0 (mkF m 29 #[iv i0, .val (.long i1), .second, iv i2, iv kk, iv z132_0, .unset, .unset, .unset, .unset, .unset, .unset, .unset, .unset, .unset] [])
      refine go (fun _ => XT.iconstV X0.here hx rfl (0 : Int32) (hb hby at_29) (by decide)) ?_
      show Ends p e below _ T0 (mkF m 30 #[iv i0, .val (.long i1), .second, iv i2, iv kk, iv z132_0, .unset, .unset, .unset, .unset, .unset, .unset, .unset, .unset, .unset] [(.int (0 : Int32))])
      exact J30 _
    · refine go (fun _ => XS.ifNo X0.here hx rfl (hb hby at_22) rfl (XT.i0_eq_f c22_318)) ?_
      show Ends p e below _ T0 (mkF m 25 #[iv i0, .val (.long i1), .second, iv i2, iv kk, iv z132_0, .unset, .unset, .unset, .unset, .unset, .unset, .unset, .unset, .unset] [])
      refine go (fun _ => XT.iconstV X0.here hx rfl (1 : Int32) (hb hby at_25) (by decide)) ?_
      refine go (fun _ => XS.goto X0.here hx rfl (pc0 := 26) (pc' := 30) rfl (hb hby at_26) (by decide) (by decide)) ?_
      show Ends p e below _ T0 (mkF m 30 #[iv i0, .val (.long i1), .second, iv i2, iv kk, iv z132_0, .unset, .unset, .unset, .unset, .unset, .unset, .unset, .unset, .unset] [(.int (1 : Int32))])
      exact J30 _
  by_cases c8_319 : (i0 &&& (4 : Int32)) = (0 : Int32)
  · refine go (fun _ => XS.ifYes X0.here hx rfl (pc0 := 8) (pc' := 15) rfl (hb hby at_8) rfl (XT.i0_eq_t c8_319) (by decide) (by decide)) ?_
    show Ends p e below _ T0 (mkF m 15 #[iv i0, .val (.long i1), .second, iv i2, iv kk, .unset, .unset, .unset, .unset, .unset, .unset, .unset, .unset, .unset, .unset] [])
    refine go (fun _ => XT.iconstV X0.here hx rfl (0 : Int32) (hb hby at_15) (by decide)) ?_
    show Ends p e below _ T0 (mkF m 16 #[iv i0, .val (.long i1), .second, iv i2, iv kk, .unset, .unset, .unset, .unset, .unset, .unset, .unset, .unset, .unset, .unset] [(.int (0 : Int32))])
    exact J16 _
  · refine go (fun _ => XS.ifNo X0.here hx rfl (hb hby at_8) rfl (XT.i0_eq_f c8_319)) ?_
    show Ends p e below _ T0 (mkF m 11 #[iv i0, .val (.long i1), .second, iv i2, iv kk, .unset, .unset, .unset, .unset, .unset, .unset, .unset, .unset, .unset, .unset] [])
    refine go (fun _ => XT.iconstV X0.here hx rfl (1 : Int32) (hb hby at_11) (by decide)) ?_
    refine go (fun _ => XS.goto X0.here hx rfl (pc0 := 12) (pc' := 16) rfl (hb hby at_12) (by decide) (by decide)) ?_
    show Ends p e below _ T0 (mkF m 16 #[iv i0, .val (.long i1), .second, iv i2, iv kk, .unset, .unset, .unset, .unset, .unset, .unset, .unset, .unset, .unset, .unset] [(.int (1 : Int32))])
    exact J16 _
set_option maxRecDepth 65536 in
set_option maxHeartbeats 40000000 in
theorem comes_1 {Post : Tables → Env → Array Value → State → Outcome → State → Prop} (hpost : ∀ tb e args s v u, (limb_1_1.after args s (.returned v) u = true ∧ limb_1_2.after args s (.returned v) u = true ∧ True) → FrameEnd s (.returned v) u (Jvm.fieldLocs frame_1_writes args s ++ Jvm.arrayLocs frame_1_arrays args s ++ Jvm.staticLocs frame_1_statics s) 32 5632 → Post tb e args s (.returned v) u) :
    ArmFor flags0 classFile x code maxLocals ret World_1 tables_1 room_1 Calls_1 rest_1 Pre_1 Post := by
  intro l hfl _ _ p e ha hc hk s m args below hf hA hF happ hP
  obtain ⟨hcalls, hrest, hpre⟩ := hP
  obtain ⟨-, -, -, hnamed, -, -, -, hat⟩ := (Spec.applies_iff hf).mp happ
  obtain ⟨hg, hn⟩ := and_e (Cond.before_iff.mp (show (Jvm.Cond.and given_1 narrow_1).before args s = true from hpre))
  obtain ⟨gv0, gvtr⟩ := and_e hg
  obtain ⟨gv1, gvtrr⟩ := and_e gvtr
  obtain ⟨gv2, gv3⟩ := and_e gvtrr
  obtain ⟨w0, w1, w2, rfl⟩ : ∃ w0 w1 w2 : Value, args = #[w0, w1, w2] := by
    have hs : args.size = 3 := by simpa [Cond.value, given_1] using gv0
    obtain ⟨L⟩ := args
    match L, hs with
    | [w0, w1, w2], _ => exact ⟨w0, w1, w2, rfl⟩
  have hw := fun d (hd : d ∈ tables_1) => atoms_spec (ws := Jvm.Cond.code x code maxLocals ret :: tables_1) hat d (List.mem_cons_of_mem _ hd)
  have hfit : Fit s := fun {y c} hc i hi => by
    obtain ⟨ha, rfl⟩ := Array.getElem?_eq_some_iff.mp hc
    have q := List.all_eq_true.mp ((Array.all_eq_true_iff_forall_mem.mp hF) _ (Array.getElem_mem ha)) i (List.mem_range.mpr hi)
    simpa [Array.getElem?_eq_getElem hi] using q
  obtain ⟨hsets, hown0⟩ := atoms_of _ (rest_1_c_eq ▸ (show rest_1_c.before _ s = true from hrest))
  obtain ⟨i0, ei0⟩ := is_v gv1
  obtain rfl : w0 = (.int i0) := Option.some.inj ei0
  obtain ⟨i1, ei1⟩ := isL_v gv2
  obtain rfl : w1 = (.long i1) := Option.some.inj ei1
  obtain ⟨i2, ei2⟩ := is_v gv3
  obtain rfl : w2 = (.int i2) := Option.some.inj ei2
  obtain ⟨cz, evz⟩ := is_v (Cond.before_iff.mp (hsets _ (List.mem_of_getElem? (i := 1) rfl)))
  have SCS := Sta.start evz (Or.inl (hsets _ (List.mem_of_getElem? (i := 0) rfl)))
  have hcz : ¬ cz = (0 : Int32) := gotF (Cond.eq_ints evz (Term.int_eval (0 : Int32))) (not_v (Cond.before_iff.mp (hsets _ (List.mem_of_getElem? (i := 2) rfl))))
  have wJ2 := Cond.before_iff.mp (hsets _ (List.mem_of_getElem? (i := 31) rfl))
  obtain ⟨aJ, evJ⟩ := arr_v wJ2
  have SJ := Sta.start evJ (Or.inl (hsets _ (List.mem_of_getElem? (i := 30) rfl)))
  obtain ⟨cJ, AJ⟩ := Arr.start evJ wJ2
  have wJ3 := Cond.before_iff.mp (hsets _ (List.mem_of_getElem? (i := 33) rfl))
  have lJ := own_len evJ AJ (eqv_i (Term.int_eval (256 : Int32)) wJ3)
  have wJ4 := Cond.before_iff.mp (hsets _ (List.mem_of_getElem? (i := 34) rfl))
  have BJ : Bxs s aJ cJ "java/lang/Long" "J" (256 : Int32) (fun j => .long (j - 128).toInt64) := Bxs.start (fun _ => evJ) AJ lJ.1 lJ.2 (by decide) wJ4 (fun X j hj hq => eqv_l (i2l_at (own_idx hj)) hq)
  have hlt : l.stackTraces = true := by unfold Launch.stackTraces; rw [hfl]; decide
  have r2 := two_refs hfit (hwi hw 75 rfl) (hwi hw 76 rfl)
  obtain ⟨wU, evU, hU⟩ := isR_v (Cond.before_iff.mp (r2 _ (List.mem_cons_self ..)))
  obtain ⟨wN, evN_, hN⟩ := isR_v (Cond.before_iff.mp (r2 _ (List.mem_of_getElem? (i := 1) rfl)))
  have SU := Sta.start evU (Or.inr ⟨(hwi hw 44 rfl), (hwi hw 75 rfl)⟩)
  have SN := Sta.start evN_ (Or.inr ⟨(hwi hw 44 rfl), (hwi hw 76 rfl)⟩)
  obtain ⟨n, o, h1, h2, h3, _, L, rfl, ⟨rfl, N⟩, hq⟩ := (rm_law (l := l) hw i0 i1 i2 aJ cJ wU wN s.heap ⟨Nat.le_refl _, fun _ _ q => q⟩ cz SCS hcz SJ BJ hlt hU hN SU SN) tables_1 p e ha hc hk s m _ below hf ((Spec.applies_iff_loose hf).mp happ).1 ⟨rfl, State.Warmed39.refl s, rfl⟩ ⟨MethodsKnown_of_tablesKnown hcalls.2.1, FramesKnown_of_framesKnown hcalls.1 hf⟩
  refine ⟨n, _, h1, h2, h3, hpost _ _ _ _ _ _ ⟨Cond.after_iff.mpr rfl, Cond.after_iff.mpr (eq_i res_at (Term.int_eval (1)) rfl), trivial⟩ ⟨hq.1, hq.2.1, (hq.2.2.sift fun y hy => Or.inr (N y hy)).mono (by decide) (by decide)⟩⟩
theorem main_1_1 : Claimed_1_1 := comes_1 fun _ _ _ _ _ _ h hF => ⟨h.1, hF⟩
theorem main_1_2 : Claimed_1_2 := comes_1 fun _ _ _ _ _ _ h hF => ⟨h.2.1, hF⟩
end Jvm.Pilot.@@N@@
namespace Jvm.Pilot.@@N@@
open Jvm Jvm.ClassFile Sem Op Lib Jvm.Free Jvm.Stand Jvm.Pilot.@@N@@.Jvm.D
/-! MADE BY PROGRAM (witnessworld.py) out of the Statement's table words and the real class files: 37 classes; the members and pool entries that the words name. The judged class is class 1, her method 1. -/
namespace start1
open Jvm.ClassFile
def u (s : String) : CpInfo := .utf8 (stringToUtf16 s)
/-- a pool by its gaps: so many unusable entries, then the entry; so many at the end -/
def gap : Nat → List CpInfo → List CpInfo
  | 0, r => r
  | n + 1, r => .unusable :: gap n r
def poolList (es : List (Nat × CpInfo)) (last : Nat) : List CpInfo := es.foldr (fun e r => gap e.1 (e.2 :: r)) (gap last [])
def pool (es : List (Nat × CpInfo)) (last : Nat) : Array CpInfo := ⟨poolList es last⟩
def fileOf (pool : Array CpInfo) (this : Nat) (attrs : Array Attribute := #[]) (ms : Array MethodInfo := #[]) (fl : Nat := 33) (sup : Nat := 0) (ifs : Array Nat := #[]) (fds : Array FieldInfo := #[]) : ClassFile where
  minorVersion := 0
  majorVersion := 65
  constantPool := pool
  accessFlags := fl
  thisClass := this
  superClass := sup
  interfaces := ifs
  fields := fds
  methods := ms
  attributes := attrs
def plain (name : String) (sup : Option ClassId) : Class where
  name := name
  kind := .ordinary
  loader := none
  accessFlags := 33
  super := sup
  interfaces := #[]
  cf := none
  fields := #[]
  methods := #[]
  instanceTypes := #[]
  staticTypes := #[]
  resolved := #[]
  callSites := []
  init := .initialized
  statics := none
  mirror := none

def pool0 : Array CpInfo := pool [(5, u "<init>"), (0, u "()V"), (1, .class_ 10), (1, u "java/lang/Object")] 113

def k0c0 : Code := { maxStack := 0, maxLocals := 1, code := object_method_1_code, exceptionTable := #[], attributes := #[] }
def k0m0 : Method := { name := "<init>", desc := "()V", sig := { parameters := [], returnType := none }, accessFlags := 1, code := some k0c0 }
/-- java/lang/Object -/
def k0 : Class := { plain "java/lang/Object" none with
  accessFlags := 33
  interfaces := #[]
  cf := some (fileOf pool0 8 #[] #[{ accessFlags := 1, nameIndex := 5, descriptorIndex := 6, attributes := #[] }] 33 0 #[] #[])
  fields := #[]
  methods := #[k0m0]
  instanceTypes := #[]
  staticTypes := #[]
  resolved := Array.replicate 124 none
  statics := none }

def pool1 : Array CpInfo := pool [(2, .class_ 4), (1, u "java/lang/Object"), (0, u "<init>"), (0, u "()V"), (0, .class_ 8), (0, u "com/example/durable_state/durablestate/model/RefusedException"), (0, .methodref 10 11), (0, .class_ 12), (0, .nameAndType 13 14), (0, u "java/lang/String"), (0, u "valueOf"), (0, u "(C)Ljava/lang/String;"), (0, .methodref 7 16), (0, .nameAndType 5 17), (0, u "(Ljava/lang/String;)V"), (0, .methodref 19 20), (0, .class_ 21), (0, .nameAndType 13 22), (0, u "java/lang/Long"), (0, u "(J)Ljava/lang/Long;"), (0, .class_ 24), (0, u "com/example/durable_state/durablestate/service/Unmigrated"), (0, .methodref 23 26), (0, .nameAndType 5 27), (0, u "(Ljava/lang/Object;Lcom/example/durable_state/durablestate/model/RefusedException;)V"), (0, .methodref 23 29), (0, .nameAndType 30 31), (0, u "stored"), (0, u "(Ljava/lang/Object;)Ljava/lang/Object;"), (0, .class_ 33), (0, u "com/example/durable_state/durablestate/service/UnmigratedStoredPinLaw"), (2, u "law"), (0, u "(IJI)Z")] 3

def k1m0 : Method := { name := "<init>", desc := "()V", sig := { parameters := [], returnType := none }, accessFlags := 1, code := none }
def k1c1 : Code := { maxStack := 4, maxLocals := 15, code := code, exceptionTable := #[], attributes := #[] }
def k1m1 : Method := { name := "law", desc := "(IJI)Z", sig := { parameters := [.int, .long, .int], returnType := some .boolean }, accessFlags := 9, code := some k1c1 }
/-- com/example/durable_state/durablestate/service/UnmigratedStoredPinLaw -/
def k1 : Class := { plain "com/example/durable_state/durablestate/service/UnmigratedStoredPinLaw" (some 0) with
  accessFlags := 49
  interfaces := #[]
  cf := some (fileOf pool1 32 #[] #[{ accessFlags := 1, nameIndex := 5, descriptorIndex := 6, attributes := #[] }, { accessFlags := 9, nameIndex := 36, descriptorIndex := 37, attributes := #[] }] 49 2 #[] #[])
  fields := #[]
  methods := #[k1m0, k1m1]
  instanceTypes := #[]
  staticTypes := #[]
  resolved := Array.replicate 41 none
  statics := none }

def pool2 : Array CpInfo := pool [(1, .class_ 2), (0, u "java/io/Serializable"), (0, .class_ 4), (0, u "java/lang/Object")] 2

/-- java/io/Serializable -/
def k2 : Class := { plain "java/io/Serializable" (some 0) with
  accessFlags := 1537
  interfaces := #[]
  cf := some (fileOf pool2 1 #[] #[] 1537 3 #[] #[])
  fields := #[]
  methods := #[]
  instanceTypes := #[]
  staticTypes := #[]
  resolved := Array.replicate 7 none
  statics := none }

def pool3 : Array CpInfo := pool [(1, .methodref 2 3), (0, .class_ 4), (0, .nameAndType 5 6), (0, u "java/lang/Object"), (0, u "<init>"), (0, u "()V"), (0, .fieldref 8 9), (0, .class_ 10), (0, .nameAndType 11 12), (0, u "java/lang/Throwable"), (0, u "cause"), (0, u "Ljava/lang/Throwable;"), (0, .fieldref 8 14), (0, .nameAndType 15 16), (0, u "UNASSIGNED_STACK"), (0, u "[Ljava/lang/StackTraceElement;"), (0, .fieldref 8 18), (0, .nameAndType 19 16), (0, u "stackTrace"), (0, .fieldref 8 21), (0, .nameAndType 22 23), (0, u "SUPPRESSED_SENTINEL"), (0, u "Ljava/util/List;"), (0, .fieldref 8 25), (0, .nameAndType 26 23), (0, u "suppressedExceptions"), (0, .methodref 8 28), (0, .nameAndType 29 30), (0, u "fillInStackTrace"), (0, u "()Ljava/lang/Throwable;"), (0, .fieldref 8 32), (0, .nameAndType 33 34), (0, u "detailMessage"), (0, u "Ljava/lang/String;"), (58, .class_ 94), (0, u "java/lang/Throwable$WrappedPrintStream"), (6, .class_ 103), (1, u "java/lang/Throwable$PrintStreamOrWriter"), (61, u "$assertionsDisabled"), (0, u "Z"), (26, .class_ 194), (0, u "java/lang/Throwable$WrappedPrintWriter"), (3, .fieldref 8 199), (0, .nameAndType 200 201), (0, u "backtrace"), (0, u "Ljava/lang/Object;"), (0, .methodref 8 203), (0, .nameAndType 29 204), (0, u "(I)Ljava/lang/Throwable;"), (6, u "depth"), (0, u "I"), (10, u "(Ljava/lang/String;)V"), (45, .class_ 271), (1, u "java/lang/Throwable$SentinelHolder"), (32, u "EMPTY_THROWABLE_ARRAY"), (0, u "[Ljava/lang/Throwable;"), (12, .class_ 319), (0, u "java/io/Serializable"), (0, u "serialVersionUID"), (0, u "J"), (5, u "NULL_CAUSE_MESSAGE"), (0, u "SELF_SUPPRESSION_MESSAGE"), (0, u "CAUSE_CAPTION"), (0, u "SUPPRESSED_CAPTION")] 73

def k3c0 : Code := { maxStack := 2, maxLocals := 1, code := jdk_78_method_1_code, exceptionTable := #[], attributes := #[] }
def k3m0 : Method := { name := "<init>", desc := "()V", sig := { parameters := [], returnType := none }, accessFlags := 1, code := some k3c0 }
def k3c1 : Code := { maxStack := 2, maxLocals := 2, code := jdk_78_method_2_code, exceptionTable := #[], attributes := #[] }
def k3m1 : Method := { name := "<init>", desc := "(Ljava/lang/String;)V", sig := { parameters := [(.object "java/lang/String")], returnType := none }, accessFlags := 1, code := some k3c1 }
def k3c2 : Code := { maxStack := 2, maxLocals := 1, code := ⟨#[0x2a, 0xb4, 0x00, 0x11, 0xc7, 0x00, 0x0a, 0x2a, 0xb4, 0x00, 0xc6, 0xc6, 0x00, 0x10, 0x2a, 0x03, 0xb6, 0x00, 0xca, 0x57, 0x2a, 0xb2, 0x00, 0x0d, 0xb5, 0x00, 0x11, 0x2a, 0xb0]⟩, exceptionTable := #[], attributes := #[] }
def k3m2 : Method := { name := "fillInStackTrace", desc := "()Ljava/lang/Throwable;", sig := { parameters := [], returnType := some (.object "java/lang/Throwable") }, accessFlags := 33, code := some k3c2 }
def k3m3 : Method := { name := "fillInStackTrace", desc := "(I)Ljava/lang/Throwable;", sig := { parameters := [.int], returnType := some (.object "java/lang/Throwable") }, accessFlags := 258, code := none }
/-- java/lang/Throwable -/
def k3 : Class := { plain "java/lang/Throwable" (some 0) with
  accessFlags := 33
  interfaces := #[2]
  cf := some (fileOf pool3 8 #[.nestMembers #[193, 93, 101, 269]] #[{ accessFlags := 1, nameIndex := 5, descriptorIndex := 6, attributes := #[] }, { accessFlags := 1, nameIndex := 5, descriptorIndex := 223, attributes := #[] }, { accessFlags := 33, nameIndex := 29, descriptorIndex := 30, attributes := #[] }, { accessFlags := 258, nameIndex := 29, descriptorIndex := 204, attributes := #[] }] 33 2 #[318] #[{ accessFlags := 26, nameIndex := 320, descriptorIndex := 321, attributes := #[] }, { accessFlags := 130, nameIndex := 200, descriptorIndex := 201, attributes := #[] }, { accessFlags := 2, nameIndex := 33, descriptorIndex := 34, attributes := #[] }, { accessFlags := 26, nameIndex := 15, descriptorIndex := 16, attributes := #[] }, { accessFlags := 2, nameIndex := 11, descriptorIndex := 12, attributes := #[] }, { accessFlags := 2, nameIndex := 19, descriptorIndex := 16, attributes := #[] }, { accessFlags := 130, nameIndex := 211, descriptorIndex := 212, attributes := #[] }, { accessFlags := 26, nameIndex := 22, descriptorIndex := 23, attributes := #[] }, { accessFlags := 2, nameIndex := 26, descriptorIndex := 23, attributes := #[] }, { accessFlags := 26, nameIndex := 327, descriptorIndex := 34, attributes := #[] }, { accessFlags := 26, nameIndex := 328, descriptorIndex := 34, attributes := #[] }, { accessFlags := 26, nameIndex := 329, descriptorIndex := 34, attributes := #[] }, { accessFlags := 26, nameIndex := 330, descriptorIndex := 34, attributes := #[] }, { accessFlags := 26, nameIndex := 304, descriptorIndex := 305, attributes := #[] }, { accessFlags := 4120, nameIndex := 165, descriptorIndex := 166, attributes := #[] }])
  fields := #[{ name := "serialVersionUID", type := .long, accessFlags := 26, slot := 0, constantValue := 0 }, { name := "backtrace", type := (.object "java/lang/Object"), accessFlags := 130, slot := 0, constantValue := 0 }, { name := "detailMessage", type := (.object "java/lang/String"), accessFlags := 2, slot := 1, constantValue := 0 }, { name := "UNASSIGNED_STACK", type := (.array (.object "java/lang/StackTraceElement")), accessFlags := 26, slot := 1, constantValue := 0 }, { name := "cause", type := (.object "java/lang/Throwable"), accessFlags := 2, slot := 2, constantValue := 0 }, { name := "stackTrace", type := (.array (.object "java/lang/StackTraceElement")), accessFlags := 2, slot := 3, constantValue := 0 }, { name := "depth", type := .int, accessFlags := 130, slot := 4, constantValue := 0 }, { name := "SUPPRESSED_SENTINEL", type := (.object "java/util/List"), accessFlags := 26, slot := 2, constantValue := 0 }, { name := "suppressedExceptions", type := (.object "java/util/List"), accessFlags := 2, slot := 5, constantValue := 0 }, { name := "NULL_CAUSE_MESSAGE", type := (.object "java/lang/String"), accessFlags := 26, slot := 3, constantValue := 0 }, { name := "SELF_SUPPRESSION_MESSAGE", type := (.object "java/lang/String"), accessFlags := 26, slot := 4, constantValue := 0 }, { name := "CAUSE_CAPTION", type := (.object "java/lang/String"), accessFlags := 26, slot := 5, constantValue := 0 }, { name := "SUPPRESSED_CAPTION", type := (.object "java/lang/String"), accessFlags := 26, slot := 6, constantValue := 0 }, { name := "EMPTY_THROWABLE_ARRAY", type := (.array (.object "java/lang/Throwable")), accessFlags := 26, slot := 7, constantValue := 0 }, { name := "$assertionsDisabled", type := .boolean, accessFlags := 4120, slot := 8, constantValue := 0 }]
  methods := #[k3m0, k3m1, k3m2, k3m3]
  instanceTypes := #[(.object "java/lang/Object"), (.object "java/lang/String"), (.object "java/lang/Throwable"), (.array (.object "java/lang/StackTraceElement")), .int, (.object "java/util/List")]
  staticTypes := #[.long, (.array (.object "java/lang/StackTraceElement")), (.object "java/util/List"), (.object "java/lang/String"), (.object "java/lang/String"), (.object "java/lang/String"), (.object "java/lang/String"), (.array (.object "java/lang/Throwable")), .boolean]
  resolved := Array.replicate 404 none
  statics := some 0 }

def pool4 : Array CpInfo := pool [(2, .class_ 4), (1, u "java/lang/Throwable"), (0, u "<init>"), (0, u "()V"), (0, .methodref 2 8), (0, .nameAndType 5 9), (0, u "(Ljava/lang/String;)V"), (9, .class_ 20), (0, u "java/lang/Exception"), (0, u "serialVersionUID"), (0, u "J")] 17

def k4m0 : Method := { name := "<init>", desc := "()V", sig := { parameters := [], returnType := none }, accessFlags := 1, code := none }
def k4c1 : Code := { maxStack := 2, maxLocals := 2, code := jdk_59_method_2_code, exceptionTable := #[], attributes := #[] }
def k4m1 : Method := { name := "<init>", desc := "(Ljava/lang/String;)V", sig := { parameters := [(.object "java/lang/String")], returnType := none }, accessFlags := 1, code := some k4c1 }
/-- java/lang/Exception -/
def k4 : Class := { plain "java/lang/Exception" (some 3) with
  accessFlags := 33
  interfaces := #[]
  cf := some (fileOf pool4 19 #[] #[{ accessFlags := 1, nameIndex := 5, descriptorIndex := 6, attributes := #[] }, { accessFlags := 1, nameIndex := 5, descriptorIndex := 9, attributes := #[] }] 33 2 #[] #[{ accessFlags := 24, nameIndex := 21, descriptorIndex := 22, attributes := #[] }])
  fields := #[{ name := "serialVersionUID", type := .long, accessFlags := 24, slot := 0, constantValue := 0 }]
  methods := #[k4m0, k4m1]
  instanceTypes := #[(.object "java/lang/Object"), (.object "java/lang/String"), (.object "java/lang/Throwable"), (.array (.object "java/lang/StackTraceElement")), .int, (.object "java/util/List")]
  staticTypes := #[.long]
  resolved := Array.replicate 40 none
  statics := none }

def pool5 : Array CpInfo := pool [(1, .methodref 2 3), (0, .class_ 4), (0, .nameAndType 5 6), (0, u "com/example/durable_state/durablestate/model/RefusedException"), (0, u "<init>"), (0, u "(Ljava/lang/String;Lcom/example/durable_state/durablestate/model/StatePath;)V"), (0, .methodref 8 9), (0, .class_ 10), (0, .nameAndType 5 11), (0, u "java/lang/Exception"), (0, u "(Ljava/lang/String;)V"), (0, .fieldref 2 13), (0, .nameAndType 14 15), (0, u "path"), (0, u "Lcom/example/durable_state/durablestate/model/StatePath;"), (0, u "serialVersionUID"), (0, u "J")] 8

def k5c0 : Code := { maxStack := 3, maxLocals := 2, code := prog_25_method_1_code, exceptionTable := #[], attributes := #[] }
def k5m0 : Method := { name := "<init>", desc := "(Ljava/lang/String;)V", sig := { parameters := [(.object "java/lang/String")], returnType := none }, accessFlags := 1, code := some k5c0 }
def k5c1 : Code := { maxStack := 2, maxLocals := 3, code := prog_25_method_2_code, exceptionTable := #[], attributes := #[] }
def k5m1 : Method := { name := "<init>", desc := "(Ljava/lang/String;Lcom/example/durable_state/durablestate/model/StatePath;)V", sig := { parameters := [(.object "java/lang/String"), (.object "com/example/durable_state/durablestate/model/StatePath")], returnType := none }, accessFlags := 1, code := some k5c1 }
/-- com/example/durable_state/durablestate/model/RefusedException -/
def k5 : Class := { plain "com/example/durable_state/durablestate/model/RefusedException" (some 4) with
  accessFlags := 33
  interfaces := #[]
  cf := some (fileOf pool5 2 #[] #[{ accessFlags := 1, nameIndex := 5, descriptorIndex := 11, attributes := #[] }, { accessFlags := 1, nameIndex := 5, descriptorIndex := 6, attributes := #[] }] 33 8 #[] #[{ accessFlags := 26, nameIndex := 16, descriptorIndex := 17, attributes := #[] }, { accessFlags := 146, nameIndex := 14, descriptorIndex := 15, attributes := #[] }])
  fields := #[{ name := "serialVersionUID", type := .long, accessFlags := 26, slot := 0, constantValue := 0 }, { name := "path", type := (.object "com/example/durable_state/durablestate/model/StatePath"), accessFlags := 146, slot := 6, constantValue := 0 }]
  methods := #[k5m0, k5m1]
  instanceTypes := #[(.object "java/lang/Object"), (.object "java/lang/String"), (.object "java/lang/Throwable"), (.array (.object "java/lang/StackTraceElement")), .int, (.object "java/util/List"), (.object "com/example/durable_state/durablestate/model/StatePath")]
  staticTypes := #[.long]
  resolved := Array.replicate 26 none
  statics := none }

def pool6 : Array CpInfo := pool [(1, .class_ 2), (0, u "java/lang/Comparable"), (0, .class_ 4), (0, u "java/lang/Object")] 7

/-- java/lang/Comparable -/
def k6 : Class := { plain "java/lang/Comparable" (some 0) with
  accessFlags := 1537
  interfaces := #[]
  cf := some (fileOf pool6 1 #[] #[] 1537 3 #[] #[])
  fields := #[]
  methods := #[]
  instanceTypes := #[]
  staticTypes := #[]
  resolved := Array.replicate 12 none
  statics := none }

def pool7 : Array CpInfo := pool [(2, .class_ 4), (1, u "java/lang/CharSequence"), (42, .class_ 48), (0, u "java/lang/CharSequence$1CodePointIterator"), (10, .class_ 60), (0, u "java/lang/CharSequence$1CharIterator"), (5, .class_ 67), (0, u "java/lang/Object")] 63

/-- java/lang/CharSequence -/
def k7 : Class := { plain "java/lang/CharSequence" (some 0) with
  accessFlags := 1537
  interfaces := #[]
  cf := some (fileOf pool7 2 #[.nestMembers #[47, 59]] #[] 1537 66 #[] #[])
  fields := #[]
  methods := #[]
  instanceTypes := #[]
  staticTypes := #[]
  resolved := Array.replicate 131 none
  statics := none }

def pool8 : Array CpInfo := pool [(1, .class_ 2), (0, u "java/lang/constant/Constable"), (0, .class_ 4), (0, u "java/lang/Object")] 6

/-- java/lang/constant/Constable -/
def k8 : Class := { plain "java/lang/constant/Constable" (some 0) with
  accessFlags := 1537
  interfaces := #[]
  cf := some (fileOf pool8 1 #[] #[] 1537 3 #[] #[])
  fields := #[]
  methods := #[]
  instanceTypes := #[]
  staticTypes := #[]
  resolved := Array.replicate 11 none
  statics := none }

def pool9 : Array CpInfo := pool [(1, .class_ 2), (0, u "java/lang/constant/ConstantDesc"), (0, .class_ 4), (0, u "java/lang/Object")] 32

/-- java/lang/constant/ConstantDesc -/
def k9 : Class := { plain "java/lang/constant/ConstantDesc" (some 0) with
  accessFlags := 1537
  interfaces := #[]
  cf := some (fileOf pool9 1 #[] #[] 1537 3 #[] #[])
  fields := #[]
  methods := #[]
  instanceTypes := #[]
  staticTypes := #[]
  resolved := Array.replicate 37 none
  statics := none }

def pool10 : Array CpInfo := pool [(1, .methodref 2 3), (0, .class_ 4), (0, .nameAndType 5 6), (0, u "java/lang/Object"), (0, u "<init>"), (0, u "()V"), (2, .fieldref 10 11), (0, .class_ 12), (0, .nameAndType 13 14), (0, u "java/lang/String"), (0, u "value"), (0, u "[B"), (0, .fieldref 10 16), (0, .nameAndType 17 18), (0, u "coder"), (0, u "B"), (2, u "hash"), (0, u "I"), (2, u "hashIsZero"), (0, u "Z"), (11, .fieldref 10 39), (0, .nameAndType 40 26), (0, u "COMPACT_STRINGS"), (12, u "toBytes"), (53, .class_ 109), (1, u "java/lang/StringLatin1"), (99, .methodref 10 210), (0, .nameAndType 5 211), (0, u "([BB)V"), (157, u "(C)Z"), (205, .class_ 576), (0, u "java/lang/CharSequence"), (22, u "CASE_INSENSITIVE_ORDER"), (0, u "Ljava/util/Comparator;"), (181, u "valueOf"), (0, u "(C)Ljava/lang/String;"), (231, .methodref 107 1016), (0, .nameAndType 1017 369), (0, u "canEncode"), (0, .methodref 107 1019), (0, .nameAndType 53 1020), (0, u "(C)[B"), (80, u "serialPersistentFields"), (0, u "[Ljava/io/ObjectStreamField;"), (0, .class_ 1104), (0, u "java/lang/String$CaseInsensitiveComparator"), (1, .class_ 1107), (0, u "java/io/Serializable"), (0, .class_ 1109), (0, u "java/lang/Comparable"), (0, .class_ 1111), (0, u "java/lang/constant/Constable"), (0, .class_ 1113), (0, u "java/lang/constant/ConstantDesc"), (2, u "serialVersionUID"), (0, u "J"), (3, u "REPL"), (0, u "C"), (2, u "LATIN1"), (1, u "UTF16")] 323

def k10m0 : Method := { name := "<init>", desc := "()V", sig := { parameters := [], returnType := none }, accessFlags := 1, code := none }
def k10c1 : Code := { maxStack := 4, maxLocals := 1, code := jdk_42_method_139_code, exceptionTable := #[], attributes := #[] }
def k10m1 : Method := { name := "valueOf", desc := "(C)Ljava/lang/String;", sig := { parameters := [.char], returnType := some (.object "java/lang/String") }, accessFlags := 9, code := some k10c1 }
def k10c2 : Code := { maxStack := 2, maxLocals := 3, code := jdk_42_method_151_code, exceptionTable := #[], attributes := #[] }
def k10m2 : Method := { name := "<init>", desc := "([BB)V", sig := { parameters := [(.array .byte), .byte], returnType := none }, accessFlags := 0, code := some k10c2 }
/-- java/lang/String -/
def k10 : Class := { plain "java/lang/String" (some 0) with
  accessFlags := 49
  interfaces := #[2, 6, 7, 8, 9]
  cf := some (fileOf pool10 10 #[.nestMembers #[1103]] #[{ accessFlags := 1, nameIndex := 5, descriptorIndex := 6, attributes := #[] }, { accessFlags := 9, nameIndex := 782, descriptorIndex := 783, attributes := #[] }, { accessFlags := 0, nameIndex := 5, descriptorIndex := 211, attributes := #[] }] 49 2 #[1106, 1108, 575, 1110, 1112] #[{ accessFlags := 18, nameIndex := 13, descriptorIndex := 14, attributes := #[] }, { accessFlags := 18, nameIndex := 17, descriptorIndex := 18, attributes := #[] }, { accessFlags := 2, nameIndex := 21, descriptorIndex := 22, attributes := #[] }, { accessFlags := 2, nameIndex := 25, descriptorIndex := 26, attributes := #[] }, { accessFlags := 26, nameIndex := 1116, descriptorIndex := 1117, attributes := #[] }, { accessFlags := 24, nameIndex := 40, descriptorIndex := 26, attributes := #[] }, { accessFlags := 26, nameIndex := 1101, descriptorIndex := 1102, attributes := #[] }, { accessFlags := 26, nameIndex := 1121, descriptorIndex := 1122, attributes := #[] }, { accessFlags := 25, nameIndex := 599, descriptorIndex := 600, attributes := #[] }, { accessFlags := 24, nameIndex := 1125, descriptorIndex := 18, attributes := #[] }, { accessFlags := 24, nameIndex := 1127, descriptorIndex := 18, attributes := #[] }])
  fields := #[{ name := "value", type := (.array .byte), accessFlags := 18, slot := 0, constantValue := 0 }, { name := "coder", type := .byte, accessFlags := 18, slot := 1, constantValue := 0 }, { name := "hash", type := .int, accessFlags := 2, slot := 2, constantValue := 0 }, { name := "hashIsZero", type := .boolean, accessFlags := 2, slot := 3, constantValue := 0 }, { name := "serialVersionUID", type := .long, accessFlags := 26, slot := 0, constantValue := 0 }, { name := "COMPACT_STRINGS", type := .boolean, accessFlags := 24, slot := 1, constantValue := 0 }, { name := "serialPersistentFields", type := (.array (.object "java/io/ObjectStreamField")), accessFlags := 26, slot := 2, constantValue := 0 }, { name := "REPL", type := .char, accessFlags := 26, slot := 3, constantValue := 0 }, { name := "CASE_INSENSITIVE_ORDER", type := (.object "java/util/Comparator"), accessFlags := 25, slot := 4, constantValue := 0 }, { name := "LATIN1", type := .byte, accessFlags := 24, slot := 5, constantValue := 0 }, { name := "UTF16", type := .byte, accessFlags := 24, slot := 6, constantValue := 0 }]
  methods := #[k10m0, k10m1, k10m2]
  instanceTypes := #[(.array .byte), .byte, .int, .boolean]
  staticTypes := #[.long, .boolean, (.array (.object "java/io/ObjectStreamField")), .char, (.object "java/util/Comparator"), .byte, .byte]
  resolved := Array.replicate 1451 none
  statics := some 1 }

def pool11 : Array CpInfo := pool [(4, .class_ 6), (1, u "java/lang/Object"), (0, u "<init>"), (0, u "()V"), (5, .class_ 16), (1, u "java/lang/StringLatin1"), (73, u "canEncode"), (14, u "(C)Z"), (15, u "$assertionsDisabled"), (0, u "Z"), (98, .class_ 223), (1, u "java/lang/StringLatin1$LinesSpliterator"), (156, u "toBytes"), (1, u "(C)[B"), (7, .class_ 391), (0, u "java/lang/StringLatin1$CharsSpliterator")] 3

def k11m0 : Method := { name := "<init>", desc := "()V", sig := { parameters := [], returnType := none }, accessFlags := 0, code := none }
def k11c1 : Code := { maxStack := 2, maxLocals := 1, code := jdk_43_method_3_code, exceptionTable := #[], attributes := #[] }
def k11m1 : Method := { name := "canEncode", desc := "(C)Z", sig := { parameters := [.char], returnType := some .boolean }, accessFlags := 9, code := some k11c1 }
def k11c2 : Code := { maxStack := 4, maxLocals := 1, code := jdk_43_method_46_code, exceptionTable := #[], attributes := #[] }
def k11m2 : Method := { name := "toBytes", desc := "(C)[B", sig := { parameters := [.char], returnType := some (.array .byte) }, accessFlags := 9, code := some k11c2 }
/-- java/lang/StringLatin1 -/
def k11 : Class := { plain "java/lang/StringLatin1" (some 0) with
  accessFlags := 48
  interfaces := #[]
  cf := some (fileOf pool11 14 #[.nestMembers #[390, 221]] #[{ accessFlags := 0, nameIndex := 7, descriptorIndex := 8, attributes := #[] }, { accessFlags := 9, nameIndex := 90, descriptorIndex := 105, attributes := #[] }, { accessFlags := 9, nameIndex := 380, descriptorIndex := 382, attributes := #[] }] 48 4 #[] #[{ accessFlags := 4120, nameIndex := 121, descriptorIndex := 122, attributes := #[] }])
  fields := #[{ name := "$assertionsDisabled", type := .boolean, accessFlags := 4120, slot := 0, constantValue := 0 }]
  methods := #[k11m0, k11m1, k11m2]
  instanceTypes := #[]
  staticTypes := #[.boolean]
  resolved := Array.replicate 395 none
  statics := none }

def pool12 : Array CpInfo := pool [(1, .methodref 2 3), (0, .class_ 4), (0, .nameAndType 5 6), (0, u "java/lang/Object"), (0, u "<init>"), (0, u "()V"), (1, .class_ 10), (1, u "java/lang/Number"), (2, .class_ 14), (0, u "java/io/Serializable"), (0, u "serialVersionUID"), (0, u "J")] 20

def k12c0 : Code := { maxStack := 1, maxLocals := 1, code := jdk_18_method_1_code, exceptionTable := #[], attributes := #[] }
def k12m0 : Method := { name := "<init>", desc := "()V", sig := { parameters := [], returnType := none }, accessFlags := 1, code := some k12c0 }
/-- java/lang/Number -/
def k12 : Class := { plain "java/lang/Number" (some 0) with
  accessFlags := 1057
  interfaces := #[2]
  cf := some (fileOf pool12 8 #[] #[{ accessFlags := 1, nameIndex := 5, descriptorIndex := 6, attributes := #[] }] 1057 2 #[13] #[{ accessFlags := 26, nameIndex := 15, descriptorIndex := 16, attributes := #[] }])
  fields := #[{ name := "serialVersionUID", type := .long, accessFlags := 26, slot := 0, constantValue := 0 }]
  methods := #[k12m0]
  instanceTypes := #[]
  staticTypes := #[.long]
  resolved := Array.replicate 37 none
  statics := none }

def pool13 : Array CpInfo := pool [(1, .class_ 2), (0, u "java/lang/Long"), (55, .nameAndType 59 60), (0, u "<init>"), (0, u "()V"), (24, u "valueOf"), (143, u "(J)Ljava/lang/Long;"), (0, .long 18446744073709551488), (1, .long 127), (1, .fieldref 235 236), (0, .class_ 237), (0, .nameAndType 238 239), (0, u "java/lang/Long$LongCache"), (0, u "cache"), (0, u "[Ljava/lang/Long;"), (0, .methodref 1 241), (0, .nameAndType 59 242), (0, u "(J)V"), (27, .methodref 271 58), (0, .class_ 272), (0, u "java/lang/Number"), (0, .fieldref 1 274), (0, .nameAndType 275 276), (0, u "value"), (0, u "J"), (84, u "TYPE"), (0, u "Ljava/lang/Class;"), (0, .class_ 364), (0, u "java/lang/Comparable"), (0, .class_ 366), (0, u "java/lang/constant/Constable"), (0, .class_ 368), (0, u "java/lang/constant/ConstantDesc"), (0, u "MIN_VALUE"), (1, u "MAX_VALUE"), (4, u "SIZE"), (0, u "I"), (1, u "BYTES"), (1, u "serialVersionUID")] 142

def k13c0 : Code := { maxStack := 4, maxLocals := 3, code := jdk_35_method_24_code, exceptionTable := #[], attributes := #[] }
def k13m0 : Method := { name := "valueOf", desc := "(J)Ljava/lang/Long;", sig := { parameters := [.long], returnType := some (.object "java/lang/Long") }, accessFlags := 9, code := some k13c0 }
def k13c1 : Code := { maxStack := 3, maxLocals := 3, code := jdk_35_method_26_code, exceptionTable := #[], attributes := #[] }
def k13m1 : Method := { name := "<init>", desc := "(J)V", sig := { parameters := [.long], returnType := none }, accessFlags := 1, code := some k13c1 }
/-- java/lang/Long -/
def k13 : Class := { plain "java/lang/Long" (some 12) with
  accessFlags := 49
  interfaces := #[6, 8, 9]
  cf := some (fileOf pool13 1 #[.nestMembers #[235]] #[{ accessFlags := 9, nameIndex := 85, descriptorIndex := 229, attributes := #[] }, { accessFlags := 1, nameIndex := 59, descriptorIndex := 242, attributes := #[] }] 49 271 #[363, 365, 367] #[{ accessFlags := 25, nameIndex := 369, descriptorIndex := 276, attributes := #[] }, { accessFlags := 25, nameIndex := 371, descriptorIndex := 276, attributes := #[] }, { accessFlags := 25, nameIndex := 361, descriptorIndex := 362, attributes := #[] }, { accessFlags := 18, nameIndex := 275, descriptorIndex := 276, attributes := #[] }, { accessFlags := 25, nameIndex := 376, descriptorIndex := 377, attributes := #[] }, { accessFlags := 25, nameIndex := 379, descriptorIndex := 377, attributes := #[] }, { accessFlags := 26, nameIndex := 381, descriptorIndex := 276, attributes := #[] }])
  fields := #[{ name := "MIN_VALUE", type := .long, accessFlags := 25, slot := 0, constantValue := 0 }, { name := "MAX_VALUE", type := .long, accessFlags := 25, slot := 1, constantValue := 0 }, { name := "TYPE", type := (.object "java/lang/Class"), accessFlags := 25, slot := 2, constantValue := 0 }, { name := "value", type := .long, accessFlags := 18, slot := 0, constantValue := 0 }, { name := "SIZE", type := .int, accessFlags := 25, slot := 3, constantValue := 0 }, { name := "BYTES", type := .int, accessFlags := 25, slot := 4, constantValue := 0 }, { name := "serialVersionUID", type := .long, accessFlags := 26, slot := 5, constantValue := 0 }]
  methods := #[k13m0, k13m1]
  instanceTypes := #[.long]
  staticTypes := #[.long, .long, (.object "java/lang/Class"), .int, .int, .long]
  resolved := Array.replicate 524 none
  statics := none }

def pool14 : Array CpInfo := pool [(2, .class_ 4), (1, u "java/lang/Object"), (0, u "<init>"), (0, u "()V"), (0, .class_ 8), (0, u "java/lang/Long"), (7, .class_ 18), (1, u "java/lang/Long$LongCache"), (0, u "$assertionsDisabled"), (0, u "Z"), (8, u "archivedCache"), (0, u "[Ljava/lang/Long;"), (7, u "cache")] 24

def k14m0 : Method := { name := "<init>", desc := "()V", sig := { parameters := [], returnType := none }, accessFlags := 2, code := none }
/-- java/lang/Long$LongCache -/
def k14 : Class := { plain "java/lang/Long$LongCache" (some 0) with
  accessFlags := 48
  interfaces := #[]
  cf := some (fileOf pool14 16 #[.nestHost 7] #[{ accessFlags := 2, nameIndex := 5, descriptorIndex := 6, attributes := #[] }] 48 2 #[] #[{ accessFlags := 24, nameIndex := 38, descriptorIndex := 30, attributes := #[] }, { accessFlags := 8, nameIndex := 29, descriptorIndex := 30, attributes := #[] }, { accessFlags := 4120, nameIndex := 19, descriptorIndex := 20, attributes := #[] }])
  fields := #[{ name := "cache", type := (.array (.object "java/lang/Long")), accessFlags := 24, slot := 0, constantValue := 0 }, { name := "archivedCache", type := (.array (.object "java/lang/Long")), accessFlags := 8, slot := 1, constantValue := 0 }, { name := "$assertionsDisabled", type := .boolean, accessFlags := 4120, slot := 2, constantValue := 0 }]
  methods := #[k14m0]
  instanceTypes := #[]
  staticTypes := #[(.array (.object "java/lang/Long")), (.array (.object "java/lang/Long")), .boolean]
  resolved := Array.replicate 63 none
  statics := some 2 }

def pool15 : Array CpInfo := pool [(1, .methodref 2 3), (0, .class_ 4), (0, .nameAndType 5 6), (0, u "java/lang/Object"), (0, u "<init>"), (0, u "()V"), (0, .fieldref 8 9), (0, .class_ 10), (0, .nameAndType 11 12), (0, u "com/example/durable_state/durablestate/service/Unmigrated"), (0, u "stored"), (0, u "Ljava/lang/Object;"), (0, .fieldref 8 14), (0, .nameAndType 15 16), (0, u "refusal"), (0, u "Lcom/example/durable_state/durablestate/model/RefusedException;"), (13, u "(Ljava/lang/Object;Lcom/example/durable_state/durablestate/model/RefusedException;)V"), (3, u "(Ljava/lang/Object;)Ljava/lang/Object;")] 4

def k15c0 : Code := { maxStack := 2, maxLocals := 3, code := prog_43_method_1_code, exceptionTable := #[], attributes := #[] }
def k15m0 : Method := { name := "<init>", desc := "(Ljava/lang/Object;Lcom/example/durable_state/durablestate/model/RefusedException;)V", sig := { parameters := [(.object "java/lang/Object"), (.object "com/example/durable_state/durablestate/model/RefusedException")], returnType := none }, accessFlags := 0, code := some k15c0 }
def k15c1 : Code := { maxStack := 1, maxLocals := 1, code := prog_43_method_3_code, exceptionTable := #[], attributes := #[] }
def k15m1 : Method := { name := "stored", desc := "(Ljava/lang/Object;)Ljava/lang/Object;", sig := { parameters := [(.object "java/lang/Object")], returnType := some (.object "java/lang/Object") }, accessFlags := 8, code := some k15c1 }
/-- com/example/durable_state/durablestate/service/Unmigrated -/
def k15 : Class := { plain "com/example/durable_state/durablestate/service/Unmigrated" (some 0) with
  accessFlags := 48
  interfaces := #[]
  cf := some (fileOf pool15 8 #[] #[{ accessFlags := 0, nameIndex := 5, descriptorIndex := 30, attributes := #[] }, { accessFlags := 8, nameIndex := 11, descriptorIndex := 34, attributes := #[] }] 48 2 #[] #[{ accessFlags := 18, nameIndex := 11, descriptorIndex := 12, attributes := #[] }, { accessFlags := 18, nameIndex := 15, descriptorIndex := 16, attributes := #[] }])
  fields := #[{ name := "stored", type := (.object "java/lang/Object"), accessFlags := 18, slot := 0, constantValue := 0 }, { name := "refusal", type := (.object "com/example/durable_state/durablestate/model/RefusedException"), accessFlags := 18, slot := 1, constantValue := 0 }]
  methods := #[k15m0, k15m1]
  instanceTypes := #[(.object "java/lang/Object"), (.object "com/example/durable_state/durablestate/model/RefusedException")]
  staticTypes := #[]
  resolved := Array.replicate 39 none
  statics := none }

def pool16 : Array CpInfo := pool [(2, .class_ 4), (1, u "java/lang/Object"), (0, u "<init>"), (0, u "()V"), (17, .class_ 26), (1, u "jdk/internal/util/Preconditions"), (28, .class_ 56), (0, u "jdk/internal/util/Preconditions$4"), (57, .class_ 115), (0, u "jdk/internal/util/Preconditions$1"), (7, u "SIOOBE_FORMATTER"), (0, u "Ljava/util/function/BiFunction;"), (0, .class_ 126), (0, u "jdk/internal/util/Preconditions$2"), (3, u "AIOOBE_FORMATTER"), (0, .class_ 132), (0, u "jdk/internal/util/Preconditions$3"), (3, u "IOOBE_FORMATTER")] 57

def k16m0 : Method := { name := "<init>", desc := "()V", sig := { parameters := [], returnType := none }, accessFlags := 1, code := none }
/-- jdk/internal/util/Preconditions -/
def k16 : Class := { plain "jdk/internal/util/Preconditions" (some 0) with
  accessFlags := 33
  interfaces := #[]
  cf := some (fileOf pool16 24 #[.nestMembers #[55, 131, 125, 114]] #[{ accessFlags := 1, nameIndex := 5, descriptorIndex := 6, attributes := #[] }] 33 2 #[] #[{ accessFlags := 25, nameIndex := 123, descriptorIndex := 124, attributes := #[] }, { accessFlags := 25, nameIndex := 130, descriptorIndex := 124, attributes := #[] }, { accessFlags := 25, nameIndex := 136, descriptorIndex := 124, attributes := #[] }])
  fields := #[{ name := "SIOOBE_FORMATTER", type := (.object "java/util/function/BiFunction"), accessFlags := 25, slot := 0, constantValue := 0 }, { name := "AIOOBE_FORMATTER", type := (.object "java/util/function/BiFunction"), accessFlags := 25, slot := 1, constantValue := 0 }, { name := "IOOBE_FORMATTER", type := (.object "java/util/function/BiFunction"), accessFlags := 25, slot := 2, constantValue := 0 }]
  methods := #[k16m0]
  instanceTypes := #[]
  staticTypes := #[(.object "java/util/function/BiFunction"), (.object "java/util/function/BiFunction"), (.object "java/util/function/BiFunction")]
  resolved := Array.replicate 194 none
  statics := some 3 }

def pool17 : Array CpInfo := pool [(9, u "<init>"), (6, .class_ 18), (1, u "java/lang/Object"), (0, u "()V"), (1, .class_ 23), (1, u "jdk/internal/util/ArraysSupport"), (0, u "LOG2_ARRAY_LONG_INDEX_SCALE"), (0, u "I"), (2, u "U"), (0, u "Ljdk/internal/misc/Unsafe;"), (8, u "BIG_ENDIAN"), (0, u "Z"), (8, u "LOG2_BYTE_BIT_SIZE"), (4, u "LOG2_ARRAY_INT_INDEX_SCALE"), (54, u "JLA"), (0, u "Ljdk/internal/access/JavaLangAccess;"), (11, u "LOG2_ARRAY_BOOLEAN_INDEX_SCALE"), (9, u "LOG2_ARRAY_BYTE_INDEX_SCALE"), (5, u "LOG2_ARRAY_CHAR_INDEX_SCALE"), (5, u "LOG2_ARRAY_SHORT_INDEX_SCALE"), (18, u "LOG2_ARRAY_FLOAT_INDEX_SCALE"), (24, u "LOG2_ARRAY_DOUBLE_INDEX_SCALE"), (89, u "T_BOOLEAN"), (2, u "T_CHAR"), (1, u "T_FLOAT"), (1, u "T_DOUBLE"), (1, u "T_BYTE"), (1, u "T_SHORT"), (1, u "T_INT"), (1, u "T_LONG"), (1, u "SOFT_MAX_ARRAY_LENGTH")] 83

def k17m0 : Method := { name := "<init>", desc := "()V", sig := { parameters := [], returnType := none }, accessFlags := 2, code := none }
/-- jdk/internal/util/ArraysSupport -/
def k17 : Class := { plain "jdk/internal/util/ArraysSupport" (some 0) with
  accessFlags := 33
  interfaces := #[]
  cf := some (fileOf pool17 21 #[] #[{ accessFlags := 2, nameIndex := 9, descriptorIndex := 19, attributes := #[] }] 33 16 #[] #[{ accessFlags := 24, nameIndex := 28, descriptorIndex := 29, attributes := #[] }, { accessFlags := 26, nameIndex := 38, descriptorIndex := 39, attributes := #[] }, { accessFlags := 25, nameIndex := 121, descriptorIndex := 25, attributes := #[] }, { accessFlags := 25, nameIndex := 131, descriptorIndex := 25, attributes := #[] }, { accessFlags := 25, nameIndex := 137, descriptorIndex := 25, attributes := #[] }, { accessFlags := 25, nameIndex := 143, descriptorIndex := 25, attributes := #[] }, { accessFlags := 25, nameIndex := 53, descriptorIndex := 25, attributes := #[] }, { accessFlags := 25, nameIndex := 24, descriptorIndex := 25, attributes := #[] }, { accessFlags := 25, nameIndex := 162, descriptorIndex := 25, attributes := #[] }, { accessFlags := 25, nameIndex := 187, descriptorIndex := 25, attributes := #[] }, { accessFlags := 26, nameIndex := 48, descriptorIndex := 25, attributes := #[] }, { accessFlags := 25, nameIndex := 277, descriptorIndex := 25, attributes := #[] }, { accessFlags := 25, nameIndex := 280, descriptorIndex := 25, attributes := #[] }, { accessFlags := 25, nameIndex := 282, descriptorIndex := 25, attributes := #[] }, { accessFlags := 25, nameIndex := 284, descriptorIndex := 25, attributes := #[] }, { accessFlags := 25, nameIndex := 286, descriptorIndex := 25, attributes := #[] }, { accessFlags := 25, nameIndex := 288, descriptorIndex := 25, attributes := #[] }, { accessFlags := 25, nameIndex := 290, descriptorIndex := 25, attributes := #[] }, { accessFlags := 25, nameIndex := 292, descriptorIndex := 25, attributes := #[] }, { accessFlags := 26, nameIndex := 108, descriptorIndex := 109, attributes := #[] }, { accessFlags := 25, nameIndex := 294, descriptorIndex := 25, attributes := #[] }])
  fields := #[{ name := "U", type := (.object "jdk/internal/misc/Unsafe"), accessFlags := 24, slot := 0, constantValue := 0 }, { name := "BIG_ENDIAN", type := .boolean, accessFlags := 26, slot := 1, constantValue := 0 }, { name := "LOG2_ARRAY_BOOLEAN_INDEX_SCALE", type := .int, accessFlags := 25, slot := 2, constantValue := 0 }, { name := "LOG2_ARRAY_BYTE_INDEX_SCALE", type := .int, accessFlags := 25, slot := 3, constantValue := 0 }, { name := "LOG2_ARRAY_CHAR_INDEX_SCALE", type := .int, accessFlags := 25, slot := 4, constantValue := 0 }, { name := "LOG2_ARRAY_SHORT_INDEX_SCALE", type := .int, accessFlags := 25, slot := 5, constantValue := 0 }, { name := "LOG2_ARRAY_INT_INDEX_SCALE", type := .int, accessFlags := 25, slot := 6, constantValue := 0 }, { name := "LOG2_ARRAY_LONG_INDEX_SCALE", type := .int, accessFlags := 25, slot := 7, constantValue := 0 }, { name := "LOG2_ARRAY_FLOAT_INDEX_SCALE", type := .int, accessFlags := 25, slot := 8, constantValue := 0 }, { name := "LOG2_ARRAY_DOUBLE_INDEX_SCALE", type := .int, accessFlags := 25, slot := 9, constantValue := 0 }, { name := "LOG2_BYTE_BIT_SIZE", type := .int, accessFlags := 26, slot := 10, constantValue := 0 }, { name := "T_BOOLEAN", type := .int, accessFlags := 25, slot := 11, constantValue := 0 }, { name := "T_CHAR", type := .int, accessFlags := 25, slot := 12, constantValue := 0 }, { name := "T_FLOAT", type := .int, accessFlags := 25, slot := 13, constantValue := 0 }, { name := "T_DOUBLE", type := .int, accessFlags := 25, slot := 14, constantValue := 0 }, { name := "T_BYTE", type := .int, accessFlags := 25, slot := 15, constantValue := 0 }, { name := "T_SHORT", type := .int, accessFlags := 25, slot := 16, constantValue := 0 }, { name := "T_INT", type := .int, accessFlags := 25, slot := 17, constantValue := 0 }, { name := "T_LONG", type := .int, accessFlags := 25, slot := 18, constantValue := 0 }, { name := "JLA", type := (.object "jdk/internal/access/JavaLangAccess"), accessFlags := 26, slot := 19, constantValue := 0 }, { name := "SOFT_MAX_ARRAY_LENGTH", type := .int, accessFlags := 25, slot := 20, constantValue := 0 }]
  methods := #[k17m0]
  instanceTypes := #[]
  staticTypes := #[(.object "jdk/internal/misc/Unsafe"), .boolean, .int, .int, .int, .int, .int, .int, .int, .int, .int, .int, .int, .int, .int, .int, .int, .int, .int, (.object "jdk/internal/access/JavaLangAccess"), .int]
  resolved := Array.replicate 378 none
  statics := none }

def pool18 : Array CpInfo := pool [(2, .class_ 4), (1, u "java/lang/Object"), (0, u "<init>"), (0, u "()V"), (12, .class_ 20), (0, u "java/util/Collections"), (63, u "r"), (0, u "Ljava/util/Random;"), (80, .class_ 167), (0, u "java/util/Collections$UnmodifiableCollection"), (6, .class_ 175), (0, u "java/util/Collections$UnmodifiableSequencedCollection"), (6, .class_ 183), (0, u "java/util/Collections$UnmodifiableSet"), (6, .class_ 191), (0, u "java/util/Collections$UnmodifiableSequencedSet"), (6, .class_ 199), (0, u "java/util/Collections$UnmodifiableSortedSet"), (6, .class_ 207), (0, u "java/util/Collections$UnmodifiableNavigableSet"), (4, .class_ 213), (0, u "java/util/Collections$UnmodifiableList"), (1, .class_ 216), (0, u "java/util/Collections$UnmodifiableRandomAccessList"), (6, .class_ 224), (0, u "java/util/Collections$UnmodifiableMap"), (6, .class_ 232), (0, u "java/util/Collections$UnmodifiableSequencedMap"), (4, .class_ 238), (0, u "java/util/Collections$UnmodifiableSortedMap"), (6, .class_ 246), (0, u "java/util/Collections$UnmodifiableNavigableMap"), (3, .class_ 251), (0, u "java/util/Collections$SynchronizedCollection"), (4, .class_ 257), (0, u "java/util/Collections$SynchronizedSet"), (4, .class_ 263), (0, u "java/util/Collections$SynchronizedSortedSet"), (1, .class_ 266), (0, u "java/util/Collections$SynchronizedNavigableSet"), (1, .class_ 269), (0, u "java/util/Collections$SynchronizedRandomAccessList"), (1, .class_ 272), (0, u "java/util/Collections$SynchronizedList"), (5, .class_ 279), (0, u "java/util/Collections$SynchronizedMap"), (1, .class_ 282), (0, u "java/util/Collections$SynchronizedSortedMap"), (1, .class_ 285), (0, u "java/util/Collections$SynchronizedNavigableMap"), (1, .class_ 288), (0, u "java/util/Collections$CheckedCollection"), (11, .class_ 301), (0, u "java/util/Collections$CheckedQueue"), (3, .class_ 306), (0, u "java/util/Collections$CheckedSet"), (3, .class_ 311), (0, u "java/util/Collections$CheckedSortedSet"), (3, .class_ 316), (0, u "java/util/Collections$CheckedNavigableSet"), (3, .class_ 321), (0, u "java/util/Collections$CheckedRandomAccessList"), (3, .class_ 326), (0, u "java/util/Collections$CheckedList"), (1, .class_ 329), (0, u "java/util/Collections$CheckedMap"), (3, .class_ 334), (0, u "java/util/Collections$CheckedSortedMap"), (3, .class_ 339), (0, u "java/util/Collections$CheckedNavigableMap"), (4, .class_ 346), (1, u "java/util/Collections$EmptyIterator"), (3, .class_ 352), (1, u "java/util/Collections$EmptyListIterator"), (2, .class_ 357), (1, u "java/util/Collections$EmptyEnumeration"), (4, u "EMPTY_SET"), (0, u "Ljava/util/Set;"), (6, u "EMPTY_LIST"), (0, u "Ljava/util/List;"), (2, u "EMPTY_MAP"), (0, u "Ljava/util/Map;"), (4, .class_ 381), (0, u "java/util/Collections$SingletonSet"), (2, .class_ 385), (0, u "java/util/Collections$1"), (1, .class_ 388), (0, u "java/util/Collections$2"), (1, .class_ 391), (0, u "java/util/Collections$SingletonList"), (1, .class_ 394), (0, u "java/util/Collections$SingletonMap"), (22, .class_ 418), (0, u "java/util/Collections$CopiesList"), (4, .class_ 425), (1, u "java/util/Collections$ReverseComparator"), (8, .class_ 435), (0, u "java/util/Collections$ReverseComparator2"), (6, .class_ 443), (0, u "java/util/Collections$3"), (25, .class_ 470), (0, u "java/util/Collections$SetFromMap"), (2, .class_ 474), (0, u "java/util/Collections$SequencedSetFromMap"), (3, .class_ 479), (0, u "java/util/Collections$AsLIFOQueue"), (11, .class_ 492), (0, u "java/util/Collections$EmptySet"), (1, .class_ 495), (0, u "java/util/Collections$EmptyList"), (1, .class_ 498), (0, u "java/util/Collections$EmptyMap"), (1, u "BINARYSEARCH_THRESHOLD"), (0, u "I"), (2, u "REVERSE_THRESHOLD"), (1, u "SHUFFLE_THRESHOLD"), (1, u "FILL_THRESHOLD"), (1, u "ROTATE_THRESHOLD"), (1, u "COPY_THRESHOLD"), (1, u "REPLACEALL_THRESHOLD"), (1, u "INDEXOFSUBLIST_THRESHOLD"), (333, .class_ 851), (0, u "java/util/Collections$CheckedMap$CheckedEntrySet"), (0, .class_ 853), (0, u "java/util/Collections$CheckedMap$CheckedEntrySet$CheckedEntry"), (0, .class_ 855), (0, u "java/util/Collections$CheckedMap$CheckedEntrySet$1"), (0, .class_ 857), (0, u "java/util/Collections$CheckedList$1"), (0, .class_ 859), (0, u "java/util/Collections$CheckedCollection$1"), (0, .class_ 861), (0, u "java/util/Collections$UnmodifiableNavigableMap$EmptyNavigableMap"), (0, .class_ 863), (0, u "java/util/Collections$UnmodifiableMap$UnmodifiableEntrySet"), (0, .class_ 865), (0, u "java/util/Collections$UnmodifiableMap$UnmodifiableEntrySet$UnmodifiableEntry"), (0, .class_ 867), (0, u "java/util/Collections$UnmodifiableMap$UnmodifiableEntrySet$UnmodifiableEntrySetSpliterator"), (0, .class_ 869), (0, u "java/util/Collections$UnmodifiableMap$UnmodifiableEntrySet$1"), (0, .class_ 871), (0, u "java/util/Collections$UnmodifiableList$1"), (0, .class_ 873), (0, u "java/util/Collections$UnmodifiableNavigableSet$EmptyNavigableSet"), (0, .class_ 875), (0, u "java/util/Collections$UnmodifiableCollection$1")] 57

def k18m0 : Method := { name := "<init>", desc := "()V", sig := { parameters := [], returnType := none }, accessFlags := 2, code := none }
/-- java/util/Collections -/
def k18 : Class := { plain "java/util/Collections" (some 0) with
  accessFlags := 33
  interfaces := #[]
  cf := some (fileOf pool18 19 #[.nestMembers #[478, 473, 469, 434, 423, 417, 393, 390, 380, 497, 494, 491, 355, 350, 344, 338, 333, 328, 850, 852, 854, 320, 325, 856, 315, 310, 305, 300, 287, 858, 284, 281, 278, 268, 271, 265, 262, 256, 250, 245, 860, 237, 231, 223, 862, 864, 866, 868, 215, 212, 870, 206, 872, 198, 190, 182, 174, 166, 874, 442, 387, 384]] #[{ accessFlags := 2, nameIndex := 5, descriptorIndex := 6, attributes := #[] }] 33 2 #[] #[{ accessFlags := 26, nameIndex := 500, descriptorIndex := 501, attributes := #[] }, { accessFlags := 26, nameIndex := 504, descriptorIndex := 501, attributes := #[] }, { accessFlags := 26, nameIndex := 506, descriptorIndex := 501, attributes := #[] }, { accessFlags := 26, nameIndex := 508, descriptorIndex := 501, attributes := #[] }, { accessFlags := 26, nameIndex := 510, descriptorIndex := 501, attributes := #[] }, { accessFlags := 26, nameIndex := 512, descriptorIndex := 501, attributes := #[] }, { accessFlags := 26, nameIndex := 514, descriptorIndex := 501, attributes := #[] }, { accessFlags := 26, nameIndex := 516, descriptorIndex := 501, attributes := #[] }, { accessFlags := 10, nameIndex := 84, descriptorIndex := 85, attributes := #[] }, { accessFlags := 25, nameIndex := 362, descriptorIndex := 363, attributes := #[] }, { accessFlags := 25, nameIndex := 370, descriptorIndex := 371, attributes := #[] }, { accessFlags := 25, nameIndex := 374, descriptorIndex := 375, attributes := #[] }])
  fields := #[{ name := "BINARYSEARCH_THRESHOLD", type := .int, accessFlags := 26, slot := 0, constantValue := 0 }, { name := "REVERSE_THRESHOLD", type := .int, accessFlags := 26, slot := 1, constantValue := 0 }, { name := "SHUFFLE_THRESHOLD", type := .int, accessFlags := 26, slot := 2, constantValue := 0 }, { name := "FILL_THRESHOLD", type := .int, accessFlags := 26, slot := 3, constantValue := 0 }, { name := "ROTATE_THRESHOLD", type := .int, accessFlags := 26, slot := 4, constantValue := 0 }, { name := "COPY_THRESHOLD", type := .int, accessFlags := 26, slot := 5, constantValue := 0 }, { name := "REPLACEALL_THRESHOLD", type := .int, accessFlags := 26, slot := 6, constantValue := 0 }, { name := "INDEXOFSUBLIST_THRESHOLD", type := .int, accessFlags := 26, slot := 7, constantValue := 0 }, { name := "r", type := (.object "java/util/Random"), accessFlags := 10, slot := 8, constantValue := 0 }, { name := "EMPTY_SET", type := (.object "java/util/Set"), accessFlags := 25, slot := 9, constantValue := 0 }, { name := "EMPTY_LIST", type := (.object "java/util/List"), accessFlags := 25, slot := 10, constantValue := 0 }, { name := "EMPTY_MAP", type := (.object "java/util/Map"), accessFlags := 25, slot := 11, constantValue := 0 }]
  methods := #[k18m0]
  instanceTypes := #[]
  staticTypes := #[.int, .int, .int, .int, .int, .int, .int, .int, (.object "java/util/Random"), (.object "java/util/Set"), (.object "java/util/List"), (.object "java/util/Map")]
  resolved := Array.replicate 933 none
  statics := some 4 }

def pool19 : Array CpInfo := pool [(8, .class_ 10), (1, u "java/lang/Iterable"), (24, .class_ 36), (0, u "java/lang/Object")] 25

/-- java/lang/Iterable -/
def k19 : Class := { plain "java/lang/Iterable" (some 0) with
  accessFlags := 1537
  interfaces := #[]
  cf := some (fileOf pool19 8 #[] #[] 1537 35 #[] #[])
  fields := #[]
  methods := #[]
  instanceTypes := #[]
  staticTypes := #[]
  resolved := Array.replicate 62 none
  statics := none }

def pool20 : Array CpInfo := pool [(10, .class_ 12), (1, u "java/util/Collection"), (47, .class_ 61), (0, u "java/lang/Object"), (0, .class_ 63), (0, u "java/lang/Iterable")] 51

/-- java/util/Collection -/
def k20 : Class := { plain "java/util/Collection" (some 0) with
  accessFlags := 1537
  interfaces := #[19]
  cf := some (fileOf pool20 10 #[] #[] 1537 60 #[62] #[])
  fields := #[]
  methods := #[]
  instanceTypes := #[]
  staticTypes := #[]
  resolved := Array.replicate 115 none
  statics := none }

def pool21 : Array CpInfo := pool [(2, .class_ 4), (1, u "java/lang/Object"), (0, u "<init>"), (0, u "()V"), (1, .class_ 10), (1, u "java/util/AbstractCollection"), (66, .class_ 78), (0, u "java/util/Collection")] 81

def k21m0 : Method := { name := "<init>", desc := "()V", sig := { parameters := [], returnType := none }, accessFlags := 4, code := none }
/-- java/util/AbstractCollection -/
def k21 : Class := { plain "java/util/AbstractCollection" (some 0) with
  accessFlags := 1057
  interfaces := #[20]
  cf := some (fileOf pool21 8 #[] #[{ accessFlags := 4, nameIndex := 5, descriptorIndex := 6, attributes := #[] }] 1057 2 #[77] #[])
  fields := #[]
  methods := #[k21m0]
  instanceTypes := #[]
  staticTypes := #[]
  resolved := Array.replicate 160 none
  statics := none }

def pool22 : Array CpInfo := pool [(8, .class_ 10), (1, u "java/util/SequencedCollection"), (15, .class_ 27), (0, u "java/lang/Object"), (0, .class_ 29), (0, u "java/util/Collection")] 27

/-- java/util/SequencedCollection -/
def k22 : Class := { plain "java/util/SequencedCollection" (some 0) with
  accessFlags := 1537
  interfaces := #[20]
  cf := some (fileOf pool22 8 #[] #[] 1537 26 #[28] #[])
  fields := #[]
  methods := #[]
  instanceTypes := #[]
  staticTypes := #[]
  resolved := Array.replicate 57 none
  statics := none }

def pool23 : Array CpInfo := pool [(8, .class_ 10), (1, u "java/util/List"), (92, .class_ 104), (0, u "java/lang/Object"), (15, .class_ 121), (0, u "java/util/SequencedCollection")] 129

/-- java/util/List -/
def k23 : Class := { plain "java/util/List" (some 0) with
  accessFlags := 1537
  interfaces := #[22]
  cf := some (fileOf pool23 8 #[] #[] 1537 103 #[120] #[])
  fields := #[]
  methods := #[]
  instanceTypes := #[]
  staticTypes := #[]
  resolved := Array.replicate 251 none
  statics := none }

def pool24 : Array CpInfo := pool [(2, .class_ 4), (1, u "java/util/AbstractCollection"), (0, u "<init>"), (0, u "()V"), (1, .class_ 10), (1, u "java/util/AbstractList"), (0, u "modCount"), (0, u "I"), (64, .class_ 78), (0, u "java/util/AbstractList$Itr"), (3, .class_ 83), (0, u "java/util/AbstractList$ListItr"), (9, .class_ 94), (0, u "java/util/AbstractList$RandomAccessSubList"), (3, .class_ 99), (0, u "java/util/AbstractList$SubList"), (33, .class_ 134), (0, u "java/util/List"), (73, .class_ 209), (0, u "java/util/AbstractList$SubList$1"), (0, .class_ 211), (0, u "java/util/AbstractList$RandomAccessSpliterator")] 6

def k24m0 : Method := { name := "<init>", desc := "()V", sig := { parameters := [], returnType := none }, accessFlags := 4, code := none }
/-- java/util/AbstractList -/
def k24 : Class := { plain "java/util/AbstractList" (some 21) with
  accessFlags := 1057
  interfaces := #[23]
  cf := some (fileOf pool24 8 #[.nestMembers #[93, 98, 208, 210, 82, 77]] #[{ accessFlags := 4, nameIndex := 5, descriptorIndex := 6, attributes := #[] }] 1057 2 #[133] #[{ accessFlags := 132, nameIndex := 11, descriptorIndex := 12, attributes := #[] }])
  fields := #[{ name := "modCount", type := .int, accessFlags := 132, slot := 0, constantValue := 0 }]
  methods := #[k24m0]
  instanceTypes := #[.int]
  staticTypes := #[]
  resolved := Array.replicate 218 none
  statics := none }

def pool25 : Array CpInfo := pool [(1, .class_ 2), (0, u "java/util/RandomAccess"), (0, .class_ 4), (0, u "java/lang/Object")] 2

/-- java/util/RandomAccess -/
def k25 : Class := { plain "java/util/RandomAccess" (some 0) with
  accessFlags := 1537
  interfaces := #[]
  cf := some (fileOf pool25 1 #[] #[] 1537 3 #[] #[])
  fields := #[]
  methods := #[]
  instanceTypes := #[]
  staticTypes := #[]
  resolved := Array.replicate 7 none
  statics := none }

def pool26 : Array CpInfo := pool [(2, .class_ 4), (1, u "java/util/AbstractList"), (0, u "<init>"), (0, u "()V"), (1, .class_ 10), (1, u "java/util/Collections"), (54, .class_ 66), (0, u "java/util/Collections$EmptyList"), (0, .class_ 68), (0, u "java/util/RandomAccess"), (0, .class_ 70), (0, u "java/io/Serializable"), (0, u "serialVersionUID"), (0, u "J")] 77

def k26m0 : Method := { name := "<init>", desc := "()V", sig := { parameters := [], returnType := none }, accessFlags := 2, code := none }
/-- java/util/Collections$EmptyList -/
def k26 : Class := { plain "java/util/Collections$EmptyList" (some 24) with
  accessFlags := 32
  interfaces := #[25, 2]
  cf := some (fileOf pool26 65 #[.nestHost 8] #[{ accessFlags := 2, nameIndex := 5, descriptorIndex := 6, attributes := #[] }] 32 2 #[67, 69] #[{ accessFlags := 26, nameIndex := 71, descriptorIndex := 72, attributes := #[] }])
  fields := #[{ name := "serialVersionUID", type := .long, accessFlags := 26, slot := 0, constantValue := 0 }]
  methods := #[k26m0]
  instanceTypes := #[.int]
  staticTypes := #[.long]
  resolved := Array.replicate 150 none
  statics := none }

def pool27 : Array CpInfo := pool [(2, .class_ 4), (1, u "java/lang/StackTraceElement"), (0, u "<init>"), (2, .class_ 10), (1, u "java/lang/Object"), (0, u "()V"), (2, u "format"), (0, u "B"), (2, u "classLoaderName"), (0, u "Ljava/lang/String;"), (2, u "moduleName"), (2, u "moduleVersion"), (12, u "declaringClass"), (4, u "methodName"), (2, u "fileName"), (2, u "lineNumber"), (0, u "I"), (65, u "declaringClassObject"), (0, u "Ljava/lang/Class;"), (33, .class_ 153), (1, u "java/lang/StackTraceElement$HashedModules"), (17, .class_ 172), (0, u "java/io/Serializable"), (0, u "NATIVE_METHOD"), (1, u "UNKNOWN_SOURCE"), (2, u "BUILTIN_CLASS_LOADER"), (1, u "JDK_NON_UPGRADEABLE_MODULE"), (1, u "serialVersionUID"), (0, u "J")] 51

def k27m0 : Method := { name := "<init>", desc := "()V", sig := { parameters := [], returnType := none }, accessFlags := 2, code := none }
/-- java/lang/StackTraceElement -/
def k27 : Class := { plain "java/lang/StackTraceElement" (some 0) with
  accessFlags := 49
  interfaces := #[2]
  cf := some (fileOf pool27 2 #[.nestMembers #[151]] #[{ accessFlags := 2, nameIndex := 5, descriptorIndex := 11, attributes := #[] }] 49 8 #[171] #[{ accessFlags := 26, nameIndex := 173, descriptorIndex := 19, attributes := #[] }, { accessFlags := 26, nameIndex := 175, descriptorIndex := 19, attributes := #[] }, { accessFlags := 130, nameIndex := 116, descriptorIndex := 117, attributes := #[] }, { accessFlags := 2, nameIndex := 18, descriptorIndex := 19, attributes := #[] }, { accessFlags := 2, nameIndex := 22, descriptorIndex := 19, attributes := #[] }, { accessFlags := 2, nameIndex := 25, descriptorIndex := 19, attributes := #[] }, { accessFlags := 2, nameIndex := 38, descriptorIndex := 19, attributes := #[] }, { accessFlags := 2, nameIndex := 43, descriptorIndex := 19, attributes := #[] }, { accessFlags := 2, nameIndex := 46, descriptorIndex := 19, attributes := #[] }, { accessFlags := 2, nameIndex := 49, descriptorIndex := 50, attributes := #[] }, { accessFlags := 2, nameIndex := 14, descriptorIndex := 15, attributes := #[] }, { accessFlags := 26, nameIndex := 178, descriptorIndex := 15, attributes := #[] }, { accessFlags := 26, nameIndex := 180, descriptorIndex := 15, attributes := #[] }, { accessFlags := 26, nameIndex := 182, descriptorIndex := 183, attributes := #[] }])
  fields := #[{ name := "NATIVE_METHOD", type := (.object "java/lang/String"), accessFlags := 26, slot := 0, constantValue := 0 }, { name := "UNKNOWN_SOURCE", type := (.object "java/lang/String"), accessFlags := 26, slot := 1, constantValue := 0 }, { name := "declaringClassObject", type := (.object "java/lang/Class"), accessFlags := 130, slot := 0, constantValue := 0 }, { name := "classLoaderName", type := (.object "java/lang/String"), accessFlags := 2, slot := 1, constantValue := 0 }, { name := "moduleName", type := (.object "java/lang/String"), accessFlags := 2, slot := 2, constantValue := 0 }, { name := "moduleVersion", type := (.object "java/lang/String"), accessFlags := 2, slot := 3, constantValue := 0 }, { name := "declaringClass", type := (.object "java/lang/String"), accessFlags := 2, slot := 4, constantValue := 0 }, { name := "methodName", type := (.object "java/lang/String"), accessFlags := 2, slot := 5, constantValue := 0 }, { name := "fileName", type := (.object "java/lang/String"), accessFlags := 2, slot := 6, constantValue := 0 }, { name := "lineNumber", type := .int, accessFlags := 2, slot := 7, constantValue := 0 }, { name := "format", type := .byte, accessFlags := 2, slot := 8, constantValue := 0 }, { name := "BUILTIN_CLASS_LOADER", type := .byte, accessFlags := 26, slot := 2, constantValue := 0 }, { name := "JDK_NON_UPGRADEABLE_MODULE", type := .byte, accessFlags := 26, slot := 3, constantValue := 0 }, { name := "serialVersionUID", type := .long, accessFlags := 26, slot := 4, constantValue := 0 }]
  methods := #[k27m0]
  instanceTypes := #[(.object "java/lang/Class"), (.object "java/lang/String"), (.object "java/lang/String"), (.object "java/lang/String"), (.object "java/lang/String"), (.object "java/lang/String"), (.object "java/lang/String"), .int, .byte]
  staticTypes := #[(.object "java/lang/String"), (.object "java/lang/String"), .byte, .byte, .long]
  resolved := Array.replicate 235 none
  statics := none }

def pool28 : Array CpInfo := pool [(1, u "java/lang/Cloneable"), (0, .class_ 1), (0, u "java/lang/Object"), (0, .class_ 3)] 3

/-- java/lang/Cloneable -/
def k28 : Class := { plain "java/lang/Cloneable" (some 0) with
  accessFlags := 1537
  interfaces := #[]
  cf := some (fileOf pool28 2 #[] #[] 1537 4 #[] #[])
  fields := #[]
  methods := #[]
  instanceTypes := #[]
  staticTypes := #[]
  resolved := Array.replicate 8 none
  statics := none }

/-- the primitive byte -/
def k29 : Class := { plain "byte" none with kind := .primitive 'B', accessFlags := 0x411 }
/-- [B -/
def k30 : Class := { plain "[B" (some 0) with kind := .array 29 .byte, interfaces := #[28, 2], accessFlags := 1041 }

/-- the primitive int -/
def k31 : Class := { plain "int" none with kind := .primitive 'I', accessFlags := 0x411 }
/-- [I -/
def k32 : Class := { plain "[I" (some 0) with kind := .array 31 .int, interfaces := #[28, 2], accessFlags := 1041 }

/-- [Ljava/lang/Long; -/
def k33 : Class := { plain "[Ljava/lang/Long;" (some 0) with kind := .array 13 (.object "java/lang/Long"), interfaces := #[28, 2], accessFlags := 1041 }

/-- [Ljava/lang/Object; -/
def k34 : Class := { plain "[Ljava/lang/Object;" (some 0) with kind := .array 0 (.object "java/lang/Object"), interfaces := #[28, 2], accessFlags := 1041 }

/-- [Ljava/lang/StackTraceElement; -/
def k35 : Class := { plain "[Ljava/lang/StackTraceElement;" (some 0) with kind := .array 27 (.object "java/lang/StackTraceElement"), interfaces := #[28, 2], accessFlags := 1041 }

/-- [Ljava/lang/Throwable; -/
def k36 : Class := { plain "[Ljava/lang/Throwable;" (some 0) with kind := .array 3 (.object "java/lang/Throwable"), interfaces := #[28, 2], accessFlags := 1041 }

def heap : Heap := #[{ cls := 3, slots := #[.long 0, .ref 6, .ref 264, .null, .null, .null, .null, .ref 7, .int 1], vm := .statics 3 },
  { cls := 10, slots := #[.long 0, .int 1, .null, .int 0, .null, .int 0, .int 0], vm := .statics 10 },
  { cls := 14, slots := #[.ref 5, .null, .int 0], vm := .statics 14 },
  { cls := 16, slots := #[.null, .null, .null], vm := .statics 16 },
  { cls := 18, slots := #[.int 0, .int 0, .int 0, .int 0, .int 0, .int 0, .int 0, .int 0, .null, .null, .ref 264, .null], vm := .statics 18 },
  { cls := 33, slots := #[.ref 8, .ref 9, .ref 10, .ref 11, .ref 12, .ref 13, .ref 14, .ref 15, .ref 16, .ref 17, .ref 18, .ref 19, .ref 20, .ref 21, .ref 22, .ref 23, .ref 24, .ref 25, .ref 26, .ref 27, .ref 28, .ref 29, .ref 30, .ref 31, .ref 32, .ref 33, .ref 34, .ref 35, .ref 36, .ref 37, .ref 38, .ref 39, .ref 40, .ref 41, .ref 42, .ref 43, .ref 44, .ref 45, .ref 46, .ref 47, .ref 48, .ref 49, .ref 50, .ref 51, .ref 52, .ref 53, .ref 54, .ref 55, .ref 56, .ref 57, .ref 58, .ref 59, .ref 60, .ref 61, .ref 62, .ref 63, .ref 64, .ref 65, .ref 66, .ref 67, .ref 68, .ref 69, .ref 70, .ref 71, .ref 72, .ref 73, .ref 74, .ref 75, .ref 76, .ref 77, .ref 78, .ref 79, .ref 80, .ref 81, .ref 82, .ref 83, .ref 84, .ref 85, .ref 86, .ref 87, .ref 88, .ref 89, .ref 90, .ref 91, .ref 92, .ref 93, .ref 94, .ref 95, .ref 96, .ref 97, .ref 98, .ref 99, .ref 100, .ref 101, .ref 102, .ref 103, .ref 104, .ref 105, .ref 106, .ref 107, .ref 108, .ref 109, .ref 110, .ref 111, .ref 112, .ref 113, .ref 114, .ref 115, .ref 116, .ref 117, .ref 118, .ref 119, .ref 120, .ref 121, .ref 122, .ref 123, .ref 124, .ref 125, .ref 126, .ref 127, .ref 128, .ref 129, .ref 130, .ref 131, .ref 132, .ref 133, .ref 134, .ref 135, .ref 136, .ref 137, .ref 138, .ref 139, .ref 140, .ref 141, .ref 142, .ref 143, .ref 144, .ref 145, .ref 146, .ref 147, .ref 148, .ref 149, .ref 150, .ref 151, .ref 152, .ref 153, .ref 154, .ref 155, .ref 156, .ref 157, .ref 158, .ref 159, .ref 160, .ref 161, .ref 162, .ref 163, .ref 164, .ref 165, .ref 166, .ref 167, .ref 168, .ref 169, .ref 170, .ref 171, .ref 172, .ref 173, .ref 174, .ref 175, .ref 176, .ref 177, .ref 178, .ref 179, .ref 180, .ref 181, .ref 182, .ref 183, .ref 184, .ref 185, .ref 186, .ref 187, .ref 188, .ref 189, .ref 190, .ref 191, .ref 192, .ref 193, .ref 194, .ref 195, .ref 196, .ref 197, .ref 198, .ref 199, .ref 200, .ref 201, .ref 202, .ref 203, .ref 204, .ref 205, .ref 206, .ref 207, .ref 208, .ref 209, .ref 210, .ref 211, .ref 212, .ref 213, .ref 214, .ref 215, .ref 216, .ref 217, .ref 218, .ref 219, .ref 220, .ref 221, .ref 222, .ref 223, .ref 224, .ref 225, .ref 226, .ref 227, .ref 228, .ref 229, .ref 230, .ref 231, .ref 232, .ref 233, .ref 234, .ref 235, .ref 236, .ref 237, .ref 238, .ref 239, .ref 240, .ref 241, .ref 242, .ref 243, .ref 244, .ref 245, .ref 246, .ref 247, .ref 248, .ref 249, .ref 250, .ref 251, .ref 252, .ref 253, .ref 254, .ref 255, .ref 256, .ref 257, .ref 258, .ref 259, .ref 260, .ref 261, .ref 262, .ref 263], vm := .none },
  { cls := 35, slots := #[], vm := .none },
  { cls := 36, slots := #[], vm := .none },
  { cls := 13, slots := #[.long (-128)], vm := .none },
  { cls := 13, slots := #[.long (-127)], vm := .none },
  { cls := 13, slots := #[.long (-126)], vm := .none },
  { cls := 13, slots := #[.long (-125)], vm := .none },
  { cls := 13, slots := #[.long (-124)], vm := .none },
  { cls := 13, slots := #[.long (-123)], vm := .none },
  { cls := 13, slots := #[.long (-122)], vm := .none },
  { cls := 13, slots := #[.long (-121)], vm := .none },
  { cls := 13, slots := #[.long (-120)], vm := .none },
  { cls := 13, slots := #[.long (-119)], vm := .none },
  { cls := 13, slots := #[.long (-118)], vm := .none },
  { cls := 13, slots := #[.long (-117)], vm := .none },
  { cls := 13, slots := #[.long (-116)], vm := .none },
  { cls := 13, slots := #[.long (-115)], vm := .none },
  { cls := 13, slots := #[.long (-114)], vm := .none },
  { cls := 13, slots := #[.long (-113)], vm := .none },
  { cls := 13, slots := #[.long (-112)], vm := .none },
  { cls := 13, slots := #[.long (-111)], vm := .none },
  { cls := 13, slots := #[.long (-110)], vm := .none },
  { cls := 13, slots := #[.long (-109)], vm := .none },
  { cls := 13, slots := #[.long (-108)], vm := .none },
  { cls := 13, slots := #[.long (-107)], vm := .none },
  { cls := 13, slots := #[.long (-106)], vm := .none },
  { cls := 13, slots := #[.long (-105)], vm := .none },
  { cls := 13, slots := #[.long (-104)], vm := .none },
  { cls := 13, slots := #[.long (-103)], vm := .none },
  { cls := 13, slots := #[.long (-102)], vm := .none },
  { cls := 13, slots := #[.long (-101)], vm := .none },
  { cls := 13, slots := #[.long (-100)], vm := .none },
  { cls := 13, slots := #[.long (-99)], vm := .none },
  { cls := 13, slots := #[.long (-98)], vm := .none },
  { cls := 13, slots := #[.long (-97)], vm := .none },
  { cls := 13, slots := #[.long (-96)], vm := .none },
  { cls := 13, slots := #[.long (-95)], vm := .none },
  { cls := 13, slots := #[.long (-94)], vm := .none },
  { cls := 13, slots := #[.long (-93)], vm := .none },
  { cls := 13, slots := #[.long (-92)], vm := .none },
  { cls := 13, slots := #[.long (-91)], vm := .none },
  { cls := 13, slots := #[.long (-90)], vm := .none },
  { cls := 13, slots := #[.long (-89)], vm := .none },
  { cls := 13, slots := #[.long (-88)], vm := .none },
  { cls := 13, slots := #[.long (-87)], vm := .none },
  { cls := 13, slots := #[.long (-86)], vm := .none },
  { cls := 13, slots := #[.long (-85)], vm := .none },
  { cls := 13, slots := #[.long (-84)], vm := .none },
  { cls := 13, slots := #[.long (-83)], vm := .none },
  { cls := 13, slots := #[.long (-82)], vm := .none },
  { cls := 13, slots := #[.long (-81)], vm := .none },
  { cls := 13, slots := #[.long (-80)], vm := .none },
  { cls := 13, slots := #[.long (-79)], vm := .none },
  { cls := 13, slots := #[.long (-78)], vm := .none },
  { cls := 13, slots := #[.long (-77)], vm := .none },
  { cls := 13, slots := #[.long (-76)], vm := .none },
  { cls := 13, slots := #[.long (-75)], vm := .none },
  { cls := 13, slots := #[.long (-74)], vm := .none },
  { cls := 13, slots := #[.long (-73)], vm := .none },
  { cls := 13, slots := #[.long (-72)], vm := .none },
  { cls := 13, slots := #[.long (-71)], vm := .none },
  { cls := 13, slots := #[.long (-70)], vm := .none },
  { cls := 13, slots := #[.long (-69)], vm := .none },
  { cls := 13, slots := #[.long (-68)], vm := .none },
  { cls := 13, slots := #[.long (-67)], vm := .none },
  { cls := 13, slots := #[.long (-66)], vm := .none },
  { cls := 13, slots := #[.long (-65)], vm := .none },
  { cls := 13, slots := #[.long (-64)], vm := .none },
  { cls := 13, slots := #[.long (-63)], vm := .none },
  { cls := 13, slots := #[.long (-62)], vm := .none },
  { cls := 13, slots := #[.long (-61)], vm := .none },
  { cls := 13, slots := #[.long (-60)], vm := .none },
  { cls := 13, slots := #[.long (-59)], vm := .none },
  { cls := 13, slots := #[.long (-58)], vm := .none },
  { cls := 13, slots := #[.long (-57)], vm := .none },
  { cls := 13, slots := #[.long (-56)], vm := .none },
  { cls := 13, slots := #[.long (-55)], vm := .none },
  { cls := 13, slots := #[.long (-54)], vm := .none },
  { cls := 13, slots := #[.long (-53)], vm := .none },
  { cls := 13, slots := #[.long (-52)], vm := .none },
  { cls := 13, slots := #[.long (-51)], vm := .none },
  { cls := 13, slots := #[.long (-50)], vm := .none },
  { cls := 13, slots := #[.long (-49)], vm := .none },
  { cls := 13, slots := #[.long (-48)], vm := .none },
  { cls := 13, slots := #[.long (-47)], vm := .none },
  { cls := 13, slots := #[.long (-46)], vm := .none },
  { cls := 13, slots := #[.long (-45)], vm := .none },
  { cls := 13, slots := #[.long (-44)], vm := .none },
  { cls := 13, slots := #[.long (-43)], vm := .none },
  { cls := 13, slots := #[.long (-42)], vm := .none },
  { cls := 13, slots := #[.long (-41)], vm := .none },
  { cls := 13, slots := #[.long (-40)], vm := .none },
  { cls := 13, slots := #[.long (-39)], vm := .none },
  { cls := 13, slots := #[.long (-38)], vm := .none },
  { cls := 13, slots := #[.long (-37)], vm := .none },
  { cls := 13, slots := #[.long (-36)], vm := .none },
  { cls := 13, slots := #[.long (-35)], vm := .none },
  { cls := 13, slots := #[.long (-34)], vm := .none },
  { cls := 13, slots := #[.long (-33)], vm := .none },
  { cls := 13, slots := #[.long (-32)], vm := .none },
  { cls := 13, slots := #[.long (-31)], vm := .none },
  { cls := 13, slots := #[.long (-30)], vm := .none },
  { cls := 13, slots := #[.long (-29)], vm := .none },
  { cls := 13, slots := #[.long (-28)], vm := .none },
  { cls := 13, slots := #[.long (-27)], vm := .none },
  { cls := 13, slots := #[.long (-26)], vm := .none },
  { cls := 13, slots := #[.long (-25)], vm := .none },
  { cls := 13, slots := #[.long (-24)], vm := .none },
  { cls := 13, slots := #[.long (-23)], vm := .none },
  { cls := 13, slots := #[.long (-22)], vm := .none },
  { cls := 13, slots := #[.long (-21)], vm := .none },
  { cls := 13, slots := #[.long (-20)], vm := .none },
  { cls := 13, slots := #[.long (-19)], vm := .none },
  { cls := 13, slots := #[.long (-18)], vm := .none },
  { cls := 13, slots := #[.long (-17)], vm := .none },
  { cls := 13, slots := #[.long (-16)], vm := .none },
  { cls := 13, slots := #[.long (-15)], vm := .none },
  { cls := 13, slots := #[.long (-14)], vm := .none },
  { cls := 13, slots := #[.long (-13)], vm := .none },
  { cls := 13, slots := #[.long (-12)], vm := .none },
  { cls := 13, slots := #[.long (-11)], vm := .none },
  { cls := 13, slots := #[.long (-10)], vm := .none },
  { cls := 13, slots := #[.long (-9)], vm := .none },
  { cls := 13, slots := #[.long (-8)], vm := .none },
  { cls := 13, slots := #[.long (-7)], vm := .none },
  { cls := 13, slots := #[.long (-6)], vm := .none },
  { cls := 13, slots := #[.long (-5)], vm := .none },
  { cls := 13, slots := #[.long (-4)], vm := .none },
  { cls := 13, slots := #[.long (-3)], vm := .none },
  { cls := 13, slots := #[.long (-2)], vm := .none },
  { cls := 13, slots := #[.long (-1)], vm := .none },
  { cls := 13, slots := #[.long 0], vm := .none },
  { cls := 13, slots := #[.long 1], vm := .none },
  { cls := 13, slots := #[.long 2], vm := .none },
  { cls := 13, slots := #[.long 3], vm := .none },
  { cls := 13, slots := #[.long 4], vm := .none },
  { cls := 13, slots := #[.long 5], vm := .none },
  { cls := 13, slots := #[.long 6], vm := .none },
  { cls := 13, slots := #[.long 7], vm := .none },
  { cls := 13, slots := #[.long 8], vm := .none },
  { cls := 13, slots := #[.long 9], vm := .none },
  { cls := 13, slots := #[.long 10], vm := .none },
  { cls := 13, slots := #[.long 11], vm := .none },
  { cls := 13, slots := #[.long 12], vm := .none },
  { cls := 13, slots := #[.long 13], vm := .none },
  { cls := 13, slots := #[.long 14], vm := .none },
  { cls := 13, slots := #[.long 15], vm := .none },
  { cls := 13, slots := #[.long 16], vm := .none },
  { cls := 13, slots := #[.long 17], vm := .none },
  { cls := 13, slots := #[.long 18], vm := .none },
  { cls := 13, slots := #[.long 19], vm := .none },
  { cls := 13, slots := #[.long 20], vm := .none },
  { cls := 13, slots := #[.long 21], vm := .none },
  { cls := 13, slots := #[.long 22], vm := .none },
  { cls := 13, slots := #[.long 23], vm := .none },
  { cls := 13, slots := #[.long 24], vm := .none },
  { cls := 13, slots := #[.long 25], vm := .none },
  { cls := 13, slots := #[.long 26], vm := .none },
  { cls := 13, slots := #[.long 27], vm := .none },
  { cls := 13, slots := #[.long 28], vm := .none },
  { cls := 13, slots := #[.long 29], vm := .none },
  { cls := 13, slots := #[.long 30], vm := .none },
  { cls := 13, slots := #[.long 31], vm := .none },
  { cls := 13, slots := #[.long 32], vm := .none },
  { cls := 13, slots := #[.long 33], vm := .none },
  { cls := 13, slots := #[.long 34], vm := .none },
  { cls := 13, slots := #[.long 35], vm := .none },
  { cls := 13, slots := #[.long 36], vm := .none },
  { cls := 13, slots := #[.long 37], vm := .none },
  { cls := 13, slots := #[.long 38], vm := .none },
  { cls := 13, slots := #[.long 39], vm := .none },
  { cls := 13, slots := #[.long 40], vm := .none },
  { cls := 13, slots := #[.long 41], vm := .none },
  { cls := 13, slots := #[.long 42], vm := .none },
  { cls := 13, slots := #[.long 43], vm := .none },
  { cls := 13, slots := #[.long 44], vm := .none },
  { cls := 13, slots := #[.long 45], vm := .none },
  { cls := 13, slots := #[.long 46], vm := .none },
  { cls := 13, slots := #[.long 47], vm := .none },
  { cls := 13, slots := #[.long 48], vm := .none },
  { cls := 13, slots := #[.long 49], vm := .none },
  { cls := 13, slots := #[.long 50], vm := .none },
  { cls := 13, slots := #[.long 51], vm := .none },
  { cls := 13, slots := #[.long 52], vm := .none },
  { cls := 13, slots := #[.long 53], vm := .none },
  { cls := 13, slots := #[.long 54], vm := .none },
  { cls := 13, slots := #[.long 55], vm := .none },
  { cls := 13, slots := #[.long 56], vm := .none },
  { cls := 13, slots := #[.long 57], vm := .none },
  { cls := 13, slots := #[.long 58], vm := .none },
  { cls := 13, slots := #[.long 59], vm := .none },
  { cls := 13, slots := #[.long 60], vm := .none },
  { cls := 13, slots := #[.long 61], vm := .none },
  { cls := 13, slots := #[.long 62], vm := .none },
  { cls := 13, slots := #[.long 63], vm := .none },
  { cls := 13, slots := #[.long 64], vm := .none },
  { cls := 13, slots := #[.long 65], vm := .none },
  { cls := 13, slots := #[.long 66], vm := .none },
  { cls := 13, slots := #[.long 67], vm := .none },
  { cls := 13, slots := #[.long 68], vm := .none },
  { cls := 13, slots := #[.long 69], vm := .none },
  { cls := 13, slots := #[.long 70], vm := .none },
  { cls := 13, slots := #[.long 71], vm := .none },
  { cls := 13, slots := #[.long 72], vm := .none },
  { cls := 13, slots := #[.long 73], vm := .none },
  { cls := 13, slots := #[.long 74], vm := .none },
  { cls := 13, slots := #[.long 75], vm := .none },
  { cls := 13, slots := #[.long 76], vm := .none },
  { cls := 13, slots := #[.long 77], vm := .none },
  { cls := 13, slots := #[.long 78], vm := .none },
  { cls := 13, slots := #[.long 79], vm := .none },
  { cls := 13, slots := #[.long 80], vm := .none },
  { cls := 13, slots := #[.long 81], vm := .none },
  { cls := 13, slots := #[.long 82], vm := .none },
  { cls := 13, slots := #[.long 83], vm := .none },
  { cls := 13, slots := #[.long 84], vm := .none },
  { cls := 13, slots := #[.long 85], vm := .none },
  { cls := 13, slots := #[.long 86], vm := .none },
  { cls := 13, slots := #[.long 87], vm := .none },
  { cls := 13, slots := #[.long 88], vm := .none },
  { cls := 13, slots := #[.long 89], vm := .none },
  { cls := 13, slots := #[.long 90], vm := .none },
  { cls := 13, slots := #[.long 91], vm := .none },
  { cls := 13, slots := #[.long 92], vm := .none },
  { cls := 13, slots := #[.long 93], vm := .none },
  { cls := 13, slots := #[.long 94], vm := .none },
  { cls := 13, slots := #[.long 95], vm := .none },
  { cls := 13, slots := #[.long 96], vm := .none },
  { cls := 13, slots := #[.long 97], vm := .none },
  { cls := 13, slots := #[.long 98], vm := .none },
  { cls := 13, slots := #[.long 99], vm := .none },
  { cls := 13, slots := #[.long 100], vm := .none },
  { cls := 13, slots := #[.long 101], vm := .none },
  { cls := 13, slots := #[.long 102], vm := .none },
  { cls := 13, slots := #[.long 103], vm := .none },
  { cls := 13, slots := #[.long 104], vm := .none },
  { cls := 13, slots := #[.long 105], vm := .none },
  { cls := 13, slots := #[.long 106], vm := .none },
  { cls := 13, slots := #[.long 107], vm := .none },
  { cls := 13, slots := #[.long 108], vm := .none },
  { cls := 13, slots := #[.long 109], vm := .none },
  { cls := 13, slots := #[.long 110], vm := .none },
  { cls := 13, slots := #[.long 111], vm := .none },
  { cls := 13, slots := #[.long 112], vm := .none },
  { cls := 13, slots := #[.long 113], vm := .none },
  { cls := 13, slots := #[.long 114], vm := .none },
  { cls := 13, slots := #[.long 115], vm := .none },
  { cls := 13, slots := #[.long 116], vm := .none },
  { cls := 13, slots := #[.long 117], vm := .none },
  { cls := 13, slots := #[.long 118], vm := .none },
  { cls := 13, slots := #[.long 119], vm := .none },
  { cls := 13, slots := #[.long 120], vm := .none },
  { cls := 13, slots := #[.long 121], vm := .none },
  { cls := 13, slots := #[.long 122], vm := .none },
  { cls := 13, slots := #[.long 123], vm := .none },
  { cls := 13, slots := #[.long 124], vm := .none },
  { cls := 13, slots := #[.long 125], vm := .none },
  { cls := 13, slots := #[.long 126], vm := .none },
  { cls := 13, slots := #[.long 127], vm := .none },
  { cls := 26, slots := #[.int 0], vm := .none }]
def classes : Array Class := #[k0, k1, k2, k3, k4, k5, k6, k7, k8, k9, k10, k11, k12, k13, k14, k15, k16, k17, k18, k19, k20, k21, k22, k23, k24, k25, k26, k27, k28, k29, k30, k31, k32, k33, k34, k35, k36]
def interned : List (Array UInt16 × Addr) := []
def slotsUsed : Nat := 547
def theMethod : MethodId := ⟨1, 1⟩
def args0 : Array Value := #[.int 1, .long 5, .int 2]
def aboutOver (below : List Frame) : State where
  vm := { classes := classes, interned := interned.toArray }
  heap := heap
  slotsUsed := slotsUsed
  threads := #[{ frames := .invoking theMethod args0 :: below }]
def below0 : List Frame := [.native { method := ⟨0, 0⟩, args := #[] }]
def about1 : State := aboutOver below0
def p0 : Program := .bare "" "" ""
def e0 : Env := launch0.env 0 0 0
theorem w_frames : about1.frames = Frame.invoking theMethod args0 :: below0 := rfl
set_option maxRecDepth 65536 in
theorem w_args : argsFit about1.vm theMethod args0 = true := by decide +kernel
set_option maxRecDepth 65536 in
theorem w_heap : heapFits about1 = true := by decide +kernel
set_option maxRecDepth 65536 in
theorem w_runnable : about1.curStatus? = some .runnable := by decide +kernel
set_option maxRecDepth 65536 in
theorem w_alone : about1.alone = true := by decide +kernel
set_option maxRecDepth 65536 in
theorem w_named : about1.methodNamed? x = some theMethod := by decide +kernel
set_option maxRecDepth 65536 in
theorem w_hears : about1.hears theMethod below0 = true := by decide +kernel
set_option maxRecDepth 65536 in
theorem w_ripe : about1.ripe theMethod args0 below0 = true := by decide +kernel
theorem w_running : about1.status = .running := rfl
set_option maxRecDepth 65536 in
theorem w_room : about1.hasRoom e0.platform room_1 = true :=
  launch0.hasRoom_least _ room_1 (by decide +kernel) (by decide +kernel) (by decide +kernel) (by decide +kernel) (by decide +kernel) (by decide +kernel)
theorem allAtoms_all (ts : List Jvm.Cond) (a : Array Jvm.Value) (st : Jvm.State) : (allAtoms ts).before a st = ts.all (fun c => c.before a st) := by
  induction ts with
  | nil => rfl
  | cons c t ih =>
    show (Jvm.Cond.and c (allAtoms t)).before a st = _
    rw [Jvm.Cond.before_and, ih, List.all_cons]
def words1 : List Jvm.Cond := Jvm.Cond.code x code maxLocals ret :: tables_1
/-- a 'code' word, met by the world's own term for the bytes: nothing is compared byte by byte -/
theorem code_word {y : MethodName} {bytes : ByteArray} {mx : Nat} {rt : Option FieldType} {a : Array Value} {s : State} {m : MethodId} {meth : Method} {c : Code} (h1 : s.methodNamed? y = some m) (h2 : s.vm.method? m = some meth) (h3 : meth.code = some c) (h4 : c.code = bytes)
    (h5 : (c.maxLocals == mx && c.exceptionTable.isEmpty && decide (c.maxStack ≤ mostOperands) && decide (meth.sig.returnType = rt) && !meth.locks && decide (parseMethodDescriptor y.desc = some meth.sig)) = true) : (Jvm.Cond.code y bytes mx rt).before a s = true := by
  simp only [Bool.and_eq_true, beq_iff_eq, Bool.not_eq_true', decide_eq_true_eq] at h5
  obtain ⟨⟨⟨⟨⟨g1, g2⟩, g3⟩, g4⟩, g5⟩, g6⟩ := h5
  simp [Cond.before, Cond.holds, Cond.value, h1, h2, h3, h4, g1, g2, g3, g4, g5, g6]
def isCode : Jvm.Cond → Bool
  | .code _ _ _ _ => true
  | _ => false
theorem all_split {L : List Jvm.Cond} {P : Jvm.Cond → Bool} (h1 : L.all (fun c => isCode c || P c) = true) (h2 : ∀ c ∈ L.filter isCode, P c = true) : L.all P = true := by
  refine List.all_eq_true.mpr fun c hc => ?_
  have h := List.all_eq_true.mp h1 c hc
  rcases Bool.eq_false_or_eq_true (isCode c) with hi | hi
  · exact h2 c (List.mem_filter.mpr ⟨hc, hi⟩)
  · simpa [hi] using h
set_option maxRecDepth 65536 in
theorem w_c0 : (Jvm.Cond.code x code maxLocals ret).before args0 about1 = true := code_word (m := ⟨1, 1⟩) (meth := k1m1) (c := k1c1) (by decide +kernel) rfl rfl rfl (by decide +kernel)
set_option maxRecDepth 65536 in
theorem w_c1 : (Jvm.Cond.code ({ cls := "java/lang/String", name := "valueOf", desc := "(C)Ljava/lang/String;" } : Jvm.MethodName) jdk_42_method_139_code (1 : Nat) (Option.some (Jvm.ClassFile.FieldType.object "java/lang/String"))).before args0 about1 = true := code_word (m := ⟨10, 1⟩) (meth := k10m1) (c := k10c1) (by decide +kernel) rfl rfl rfl (by decide +kernel)
set_option maxRecDepth 65536 in
theorem w_c2 : (Jvm.Cond.code ({ cls := "java/lang/StringLatin1", name := "canEncode", desc := "(C)Z" } : Jvm.MethodName) jdk_43_method_3_code (1 : Nat) (Option.some Jvm.ClassFile.FieldType.boolean)).before args0 about1 = true := code_word (m := ⟨11, 1⟩) (meth := k11m1) (c := k11c1) (by decide +kernel) rfl rfl rfl (by decide +kernel)
set_option maxRecDepth 65536 in
theorem w_c3 : (Jvm.Cond.code ({ cls := "java/lang/StringLatin1", name := "toBytes", desc := "(C)[B" } : Jvm.MethodName) jdk_43_method_46_code (1 : Nat) (Option.some (Jvm.ClassFile.FieldType.array Jvm.ClassFile.FieldType.byte))).before args0 about1 = true := code_word (m := ⟨11, 2⟩) (meth := k11m2) (c := k11c2) (by decide +kernel) rfl rfl rfl (by decide +kernel)
set_option maxRecDepth 65536 in
theorem w_c4 : (Jvm.Cond.code ({ cls := "java/lang/String", name := "<init>", desc := "([BB)V" } : Jvm.MethodName) jdk_42_method_151_code (3 : Nat) (Option.none : Option Jvm.ClassFile.FieldType)).before args0 about1 = true := code_word (m := ⟨10, 2⟩) (meth := k10m2) (c := k10c2) (by decide +kernel) rfl rfl rfl (by decide +kernel)
set_option maxRecDepth 65536 in
theorem w_c5 : (Jvm.Cond.code ({ cls := "java/lang/Object", name := "<init>", desc := "()V" } : Jvm.MethodName) object_method_1_code (1 : Nat) (Option.none : Option Jvm.ClassFile.FieldType)).before args0 about1 = true := code_word (m := ⟨0, 0⟩) (meth := k0m0) (c := k0c0) (by decide +kernel) rfl rfl rfl (by decide +kernel)
set_option maxRecDepth 65536 in
theorem w_c6 : (Jvm.Cond.code ({ cls := "com/example/durable_state/durablestate/model/RefusedException", name := "<init>", desc := "(Ljava/lang/String;)V" } : Jvm.MethodName) prog_25_method_1_code (2 : Nat) (Option.none : Option Jvm.ClassFile.FieldType)).before args0 about1 = true := code_word (m := ⟨5, 0⟩) (meth := k5m0) (c := k5c0) (by decide +kernel) rfl rfl rfl (by decide +kernel)
set_option maxRecDepth 65536 in
theorem w_c7 : (Jvm.Cond.code ({ cls := "com/example/durable_state/durablestate/model/RefusedException", name := "<init>", desc := "(Ljava/lang/String;Lcom/example/durable_state/durablestate/model/StatePath;)V" } : Jvm.MethodName) prog_25_method_2_code (3 : Nat) (Option.none : Option Jvm.ClassFile.FieldType)).before args0 about1 = true := code_word (m := ⟨5, 1⟩) (meth := k5m1) (c := k5c1) (by decide +kernel) rfl rfl rfl (by decide +kernel)
set_option maxRecDepth 65536 in
theorem w_c8 : (Jvm.Cond.code ({ cls := "java/lang/Exception", name := "<init>", desc := "(Ljava/lang/String;)V" } : Jvm.MethodName) jdk_59_method_2_code (2 : Nat) (Option.none : Option Jvm.ClassFile.FieldType)).before args0 about1 = true := code_word (m := ⟨4, 1⟩) (meth := k4m1) (c := k4c1) (by decide +kernel) rfl rfl rfl (by decide +kernel)
set_option maxRecDepth 65536 in
theorem w_c9 : (Jvm.Cond.code ({ cls := "java/lang/Throwable", name := "<init>", desc := "(Ljava/lang/String;)V" } : Jvm.MethodName) jdk_78_method_2_code (2 : Nat) (Option.none : Option Jvm.ClassFile.FieldType)).before args0 about1 = true := code_word (m := ⟨3, 1⟩) (meth := k3m1) (c := k3c1) (by decide +kernel) rfl rfl rfl (by decide +kernel)
set_option maxRecDepth 65536 in
theorem w_c10 : (Jvm.Cond.code ({ cls := "java/lang/Throwable", name := "<init>", desc := "()V" } : Jvm.MethodName) jdk_78_method_1_code (1 : Nat) (Option.none : Option Jvm.ClassFile.FieldType)).before args0 about1 = true := code_word (m := ⟨3, 0⟩) (meth := k3m0) (c := k3c0) (by decide +kernel) rfl rfl rfl (by decide +kernel)
set_option maxRecDepth 65536 in
theorem w_c11 : (Jvm.Cond.code ({ cls := "java/lang/Long", name := "valueOf", desc := "(J)Ljava/lang/Long;" } : Jvm.MethodName) jdk_35_method_24_code (3 : Nat) (Option.some (Jvm.ClassFile.FieldType.object "java/lang/Long"))).before args0 about1 = true := code_word (m := ⟨13, 0⟩) (meth := k13m0) (c := k13c0) (by decide +kernel) rfl rfl rfl (by decide +kernel)
set_option maxRecDepth 65536 in
theorem w_c12 : (Jvm.Cond.code ({ cls := "com/example/durable_state/durablestate/service/Unmigrated", name := "stored", desc := "(Ljava/lang/Object;)Ljava/lang/Object;" } : Jvm.MethodName) prog_43_method_3_code (1 : Nat) (Option.some (Jvm.ClassFile.FieldType.object "java/lang/Object"))).before args0 about1 = true := code_word (m := ⟨15, 1⟩) (meth := k15m1) (c := k15c1) (by decide +kernel) rfl rfl rfl (by decide +kernel)
set_option maxRecDepth 65536 in
theorem w_c13 : (Jvm.Cond.code ({ cls := "com/example/durable_state/durablestate/service/Unmigrated", name := "<init>", desc := "(Ljava/lang/Object;Lcom/example/durable_state/durablestate/model/RefusedException;)V" } : Jvm.MethodName) prog_43_method_1_code (3 : Nat) (Option.none : Option Jvm.ClassFile.FieldType)).before args0 about1 = true := code_word (m := ⟨15, 0⟩) (meth := k15m0) (c := k15c0) (by decide +kernel) rfl rfl rfl (by decide +kernel)
set_option maxRecDepth 65536 in
theorem w_c14 : (Jvm.Cond.code ({ cls := "java/lang/Long", name := "<init>", desc := "(J)V" } : Jvm.MethodName) jdk_35_method_26_code (3 : Nat) (Option.none : Option Jvm.ClassFile.FieldType)).before args0 about1 = true := code_word (m := ⟨13, 1⟩) (meth := k13m1) (c := k13c1) (by decide +kernel) rfl rfl rfl (by decide +kernel)
set_option maxRecDepth 65536 in
theorem w_c15 : (Jvm.Cond.code ({ cls := "java/lang/Number", name := "<init>", desc := "()V" } : Jvm.MethodName) jdk_18_method_1_code (1 : Nat) (Option.none : Option Jvm.ClassFile.FieldType)).before args0 about1 = true := code_word (m := ⟨12, 0⟩) (meth := k12m0) (c := k12c0) (by decide +kernel) rfl rfl rfl (by decide +kernel)
def codes1 : List Jvm.Cond := [Jvm.Cond.code x code maxLocals ret, Jvm.Cond.code ({ cls := "java/lang/String", name := "valueOf", desc := "(C)Ljava/lang/String;" } : Jvm.MethodName) jdk_42_method_139_code (1 : Nat) (Option.some (Jvm.ClassFile.FieldType.object "java/lang/String")), Jvm.Cond.code ({ cls := "java/lang/StringLatin1", name := "canEncode", desc := "(C)Z" } : Jvm.MethodName) jdk_43_method_3_code (1 : Nat) (Option.some Jvm.ClassFile.FieldType.boolean), Jvm.Cond.code ({ cls := "java/lang/StringLatin1", name := "toBytes", desc := "(C)[B" } : Jvm.MethodName) jdk_43_method_46_code (1 : Nat) (Option.some (Jvm.ClassFile.FieldType.array Jvm.ClassFile.FieldType.byte)), Jvm.Cond.code ({ cls := "java/lang/String", name := "<init>", desc := "([BB)V" } : Jvm.MethodName) jdk_42_method_151_code (3 : Nat) (Option.none : Option Jvm.ClassFile.FieldType), Jvm.Cond.code ({ cls := "java/lang/Object", name := "<init>", desc := "()V" } : Jvm.MethodName) object_method_1_code (1 : Nat) (Option.none : Option Jvm.ClassFile.FieldType), Jvm.Cond.code ({ cls := "com/example/durable_state/durablestate/model/RefusedException", name := "<init>", desc := "(Ljava/lang/String;)V" } : Jvm.MethodName) prog_25_method_1_code (2 : Nat) (Option.none : Option Jvm.ClassFile.FieldType), Jvm.Cond.code ({ cls := "com/example/durable_state/durablestate/model/RefusedException", name := "<init>", desc := "(Ljava/lang/String;Lcom/example/durable_state/durablestate/model/StatePath;)V" } : Jvm.MethodName) prog_25_method_2_code (3 : Nat) (Option.none : Option Jvm.ClassFile.FieldType), Jvm.Cond.code ({ cls := "java/lang/Exception", name := "<init>", desc := "(Ljava/lang/String;)V" } : Jvm.MethodName) jdk_59_method_2_code (2 : Nat) (Option.none : Option Jvm.ClassFile.FieldType), Jvm.Cond.code ({ cls := "java/lang/Throwable", name := "<init>", desc := "(Ljava/lang/String;)V" } : Jvm.MethodName) jdk_78_method_2_code (2 : Nat) (Option.none : Option Jvm.ClassFile.FieldType), Jvm.Cond.code ({ cls := "java/lang/Throwable", name := "<init>", desc := "()V" } : Jvm.MethodName) jdk_78_method_1_code (1 : Nat) (Option.none : Option Jvm.ClassFile.FieldType), Jvm.Cond.code ({ cls := "java/lang/Long", name := "valueOf", desc := "(J)Ljava/lang/Long;" } : Jvm.MethodName) jdk_35_method_24_code (3 : Nat) (Option.some (Jvm.ClassFile.FieldType.object "java/lang/Long")), Jvm.Cond.code ({ cls := "com/example/durable_state/durablestate/service/Unmigrated", name := "stored", desc := "(Ljava/lang/Object;)Ljava/lang/Object;" } : Jvm.MethodName) prog_43_method_3_code (1 : Nat) (Option.some (Jvm.ClassFile.FieldType.object "java/lang/Object")), Jvm.Cond.code ({ cls := "com/example/durable_state/durablestate/service/Unmigrated", name := "<init>", desc := "(Ljava/lang/Object;Lcom/example/durable_state/durablestate/model/RefusedException;)V" } : Jvm.MethodName) prog_43_method_1_code (3 : Nat) (Option.none : Option Jvm.ClassFile.FieldType), Jvm.Cond.code ({ cls := "java/lang/Long", name := "<init>", desc := "(J)V" } : Jvm.MethodName) jdk_35_method_26_code (3 : Nat) (Option.none : Option Jvm.ClassFile.FieldType), Jvm.Cond.code ({ cls := "java/lang/Number", name := "<init>", desc := "()V" } : Jvm.MethodName) jdk_18_method_1_code (1 : Nat) (Option.none : Option Jvm.ClassFile.FieldType)]
set_option maxRecDepth 65536 in
theorem codes_eq : words1.filter isCode = codes1 := rfl
theorem w_codes : ∀ c ∈ words1.filter isCode, c.before args0 about1 = true := by
  rw [codes_eq]
  intro c hc
  simp only [codes1, List.mem_cons, List.not_mem_nil, or_false] at hc
  rcases hc with rfl | rfl | rfl | rfl | rfl | rfl | rfl | rfl | rfl | rfl | rfl | rfl | rfl | rfl | rfl | rfl
  · exact w_c0
  · exact w_c1
  · exact w_c2
  · exact w_c3
  · exact w_c4
  · exact w_c5
  · exact w_c6
  · exact w_c7
  · exact w_c8
  · exact w_c9
  · exact w_c10
  · exact w_c11
  · exact w_c12
  · exact w_c13
  · exact w_c14
  · exact w_c15
set_option maxRecDepth 65536 in
theorem w_t1 : (words1.take 24).all (fun c => isCode c || c.before args0 about1) = true := by decide +kernel
set_option maxRecDepth 65536 in
theorem w_t2 : ((words1.drop 24).take 24).all (fun c => isCode c || c.before args0 about1) = true := by decide +kernel
set_option maxRecDepth 65536 in
theorem w_t3 : (((words1.drop 24).drop 24).take 24).all (fun c => isCode c || c.before args0 about1) = true := by decide +kernel
set_option maxRecDepth 65536 in
theorem w_t4 : ((((words1.drop 24).drop 24).drop 24).take 24).all (fun c => isCode c || c.before args0 about1) = true := by decide +kernel
set_option maxRecDepth 65536 in
theorem w_t5 : (((((words1.drop 24).drop 24).drop 24).drop 24).take 24).all (fun c => isCode c || c.before args0 about1) = true := by decide +kernel
set_option maxRecDepth 65536 in
theorem w_t6 : (((((words1.drop 24).drop 24).drop 24).drop 24).drop 24).all (fun c => isCode c || c.before args0 about1) = true := by decide +kernel
theorem w_tables : (allAtoms (Jvm.Cond.code x code maxLocals ret :: tables_1)).before args0 about1 = true := by
  rw [allAtoms_all]
  show words1.all (fun c => c.before args0 about1) = true
  refine all_split ?_ w_codes
  rw [← List.take_append_drop 24 words1, List.all_append, w_t1, ← List.take_append_drop 24 (words1.drop 24), List.all_append, w_t2, ← List.take_append_drop 24 ((words1.drop 24).drop 24), List.all_append, w_t3, ← List.take_append_drop 24 (((words1.drop 24).drop 24).drop 24), List.all_append, w_t4, ← List.take_append_drop 24 ((((words1.drop 24).drop 24).drop 24).drop 24), List.all_append, w_t5, w_t6]
  rfl
set_option maxRecDepth 65536 in
theorem w_rest : rest_1_c.before args0 about1 = true := by decide +kernel
set_option maxRecDepth 65536 in
theorem w_case : (Jvm.Cond.and given_1 narrow_1).before args0 about1 = true := by decide +kernel
theorem w_applies : (headSpec (Jvm.Cond.code x code maxLocals ret :: tables_1) room_1).applies x e0.platform about1 = true :=
  (Spec.applies_iff w_frames).mpr ⟨w_running, w_runnable, w_alone, w_named, w_hears, w_ripe, w_room, w_tables⟩
theorem atStart : AtStart classFile x code maxLocals ret World_1 tables_1 room_1 Calls_1 rest_1 Pre_1 launch0 p0 e0 about1 theMethod args0 below0 :=
  ⟨lists_1, trivial, launch0.admits_env _ _ _, launch0.least_env, fairChoices_fair.cas, fairChoices_fair.clock, w_frames, w_args, w_heap, w_applies, ⟨(by decide +kernel : framesKnown about1 = true), ⟨(by decide +kernel : tablesKnown about1 = true), trivial⟩⟩, w_rest, w_case⟩
end start1
theorem witness_1 : WitnessClaimed_1 := ⟨start1.p0, start1.e0, start1.about1, start1.theMethod, start1.args0, start1.below0, start1.atStart⟩
end Jvm.Pilot.@@N@@
