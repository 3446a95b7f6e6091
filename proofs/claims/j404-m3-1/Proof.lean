import JvmDerived
import JvmDerived.Pilot.@@N@@Statement
import JvmDerived.Pilot.@@N@@Code
set_option linter.unusedVariables false
set_option linter.unusedSimpArgs false
namespace Jvm.Pilot.@@N@@
open Jvm Jvm.ClassFile Sem Op Lib Jvm.Free Jvm.Stand Jvm.LawKit Jvm.RoadKit Bundle Jvm.Pilot.@@N@@.Jvm.D
theorem hwi {Z : State} {a0 : Array Value} (hw : ∀ d ∈ tables_1, d.before a0 Z = true) (i : Nat) {d : Jvm.Cond} (h : tables_1[i]? = some d) : d.before a0 Z = true := hw _ (List.mem_of_getElem? h)
section Own
variable {p : Program} {l : Launch} {e : Env} {R : Room} {s : State} {m : MethodId} {args : Array Value} {below : List Frame} {meth : Method} {c : Code} {T : State} {locs : List Loc} {cells slots : Nat} {Z : State} {a0 : Array Value} {h h' : Heap} {Q : Option Value → Heap → List Loc → Prop} {rc rs : Nat} {P : State → Outcome → Prop}
/-- from here the run comes to its end, and what it leaves is P -/
def Ends (p : Program) (e : Env) (below : List Frame) (P : State → Outcome → Prop) (T : State) (g : JFrame) : Prop :=
  ∃ s₂ o, Steps p.tables e below (T.setTop g) s₂ ∧ s₂.status = .running ∧ Ended s₂ below o ∧ P s₂ o
/-- the narrow end -/
def NP (s : State) (Q : Option Value → Heap → List Loc → Prop) (rc rs : Nat) : State → Outcome → Prop := fun s₂ o => ∃ v L, o = .returned v ∧ Q v s₂.heap L ∧ FrameEnd s o s₂ L rc rs
theorem go {T' : State} {g g' : JFrame} (f : ∀ t, Steps p.tables e below (T'.setTop g') t → Steps p.tables e below (T.setTop g) t) (k : Ends p e below P T' g') : Ends p e below P T g := by
  obtain ⟨s₂, o, h1, r⟩ := k
  exact ⟨s₂, o, f _ h1, r⟩
theorem goS {T' : State} {g g' : JFrame} (f : Steps p.tables e below (T.setTop g) (T'.setTop g')) (k : Ends p e below P T' g') : Ends p e below P T g := by
  obtain ⟨s₂, o, h1, r⟩ := k
  exact ⟨s₂, o, f.trans h1, r⟩
/-- the frame is left with v, and what stands then is P -/
def Lv (e : Env) (m : MethodId) (below : List Frame) (T : State) (v : Option Value) (P : State → Outcome → Prop) : Prop :=
  ∃ fs, (∀ (f : JFrame) (acts : List Action), f.method = m → f.locked = none → f.entered = [] → (doReturn e (T.setTop f) acts v).1 = T.setFrames fs) ∧ (T.setFrames fs).status = .running ∧ Ended (T.setFrames fs) below (.returned v) ∧ P (T.setFrames fs) (.returned v)
theorem lvN (X : Stand p l e R s m args below meth c T locs cells slots) (hlk : meth.locks = false) (eT : T.heap = h) {v : Option Value} (hv : meth.sig.returnType = none → v = none) (hq : Q v h locs) (hc : cells ≤ rc) (hs : slots ≤ rs) : Lv e m below T v (NP s Q rc rs) := by
  subst eT
  obtain ⟨fs, hr, hrun, hended, hW, hsame⟩ := X.leave (v := v) hv hlk
  exact ⟨fs, hr, hrun, hended, _, _, rfl, hq, ⟨_, rfl⟩, hW, hsame.mono hc hs⟩
theorem retI (X : Stand p l e R s m args below meth c T locs cells slots) (hx : p.tables.exec = Jvm.exec) {pc : Nat} {Ls : Array Slot} {z : Int32} {rest : List Value} (hret : meth.sig.returnType = some .int) (hd : decode c.code pc = .ok (.ireturn, 1)) {fs : List Frame}
    (hl : ∀ (f : JFrame) (acts : List Action), f.method = m → f.locked = none → f.entered = [] → (doReturn e (T.setTop f) acts (some (.int z))).1 = T.setFrames fs) : Steps p.tables e below (T.setTop (mkF m pc Ls (.int z :: rest))) (T.setFrames fs) := by
  have hm' : T.vm.method? m = some meth := X.method'
  have hn : narrow .int (.int z) = .int z := rfl
  show Steps p.tables e below (T.setTop { method := m, pc := pc, locals := Ls, stack := _ :: rest, locked := none }) _
  jvm_step X.here [X.here.top, hx, hd, hm', hret, hn]
  first | (intro acts; rw [hl _ acts rfl rfl rfl]) | rw [hl _ _ rfl rfl rfl]
  exact Steps.refl _
theorem endI (X : Stand p l e R s m args below meth c T locs cells slots) (hx : p.tables.exec = Jvm.exec) {pc : Nat} {Ls : Array Slot} {z : Int32} {rest : List Value} (hret : meth.sig.returnType = some .int) (hd : decode c.code pc = .ok (.ireturn, 1)) (hL : Lv e m below T (some (.int z)) P) :
    Ends p e below P T (mkF m pc Ls (.int z :: rest)) := by
  obtain ⟨fs, hr, hrun, hended, hp⟩ := hL
  exact ⟨_, _, retI X hx hret hd hr, hrun, hended, hp⟩
/-- a boolean, byte, char or short: what is returned is narrowed -/
theorem endN (X : Stand p l e R s m args below meth c T locs cells slots) (hx : p.tables.exec = Jvm.exec) {pc : Nat} {Ls : Array Slot} {z : Int32} {t : FieldType} {rest : List Value} (hret : meth.sig.returnType = some t) (ht : t = .boolean ∨ t = .byte ∨ t = .char ∨ t = .short) (hd : decode c.code pc = .ok (.ireturn, 1)) (hL : Lv e m below T (some (.int (nar t z))) P) :
    Ends p e below P T (mkF m pc Ls (.int z :: rest)) := by
  obtain ⟨fs, hr, hrun, hended, hp⟩ := hL
  exact ⟨_, _, retN X hx hret ht hd hr, hrun, hended, hp⟩
theorem endA (X : Stand p l e R s m args below meth c T locs cells slots) (hx : p.tables.exec = Jvm.exec) {pc : Nat} {Ls : Array Slot} {w : Value} {t : FieldType} {rest : List Value} (hret : meth.sig.returnType = some t) (ht : t.isReference = true) (hw : w.isRef = true) (hd : decode c.code pc = .ok (.areturn, 1)) (hL : Lv e m below T (some w) P) :
    Ends p e below P T (mkF m pc Ls (w :: rest)) := by
  obtain ⟨fs, hr, hrun, hended, hp⟩ := hL
  have hn : narrow t w = w := by rcases ref_cases hw with rfl | ⟨b, rfl⟩ <;> cases t <;> rfl
  exact ⟨_, _, retOut X hx hret hn (Or.inr (Or.inr (Or.inr (Or.inr ⟨rfl, ht, hw⟩)))) hd hr, hrun, hended, hp⟩
theorem endJ (X : Stand p l e R s m args below meth c T locs cells slots) (hx : p.tables.exec = Jvm.exec) {pc : Nat} {Ls : Array Slot} {z : Int64} {rest : List Value} (hret : meth.sig.returnType = some .long) (hd : decode c.code pc = .ok (.lreturn, 1)) (hL : Lv e m below T (some (.long z)) P) :
    Ends p e below P T (mkF m pc Ls (.long z :: rest)) := by
  obtain ⟨fs, hr, hrun, hended, hp⟩ := hL
  exact ⟨_, _, retOut X hx hret rfl (Or.inr (Or.inl ⟨rfl, rfl, z, rfl⟩)) hd hr, hrun, hended, hp⟩
theorem endV (X : Stand p l e R s m args below meth c T locs cells slots) (hx : p.tables.exec = Jvm.exec) {pc : Nat} {Ls : Array Slot} (hret : meth.sig.returnType = none) (hd : decode c.code pc = .ok (.return_, 1)) (hL : Lv e m below T none P) :
    Ends p e below P T (mkF m pc Ls []) := by
  obtain ⟨fs, hr, hrun, hended, hp⟩ := hL
  exact ⟨_, _, X.returnOut hx hret hd hr, hrun, hended, hp⟩
/-- a method's contract, at one heap and one list of arguments -/
def Con (l : Launch) (y : MethodName) (bytes : ByteArray) (maxL : Nat) (ret : Option FieldType) (rm : Room) (Z : State) (as' : Array Value) (h0 : Heap) (Q : Option Value → Heap → List Loc → Prop) : Prop :=
  ∀ ws, MetFree l y (head1 (Jvm.Cond.code y bytes maxL ret :: ws) rm) (fun a U => a = as' ∧ Z.Warmed39 U.vm ∧ U.heap = h0) (fun _ _ _ _ _ => True) (fun _ U o U' => ∃ v L, o = .returned v ∧ Q v U'.heap L ∧ FrameEnd U o U' L rm.cells rm.slots)
theorem efOf {m : MethodId} {args : Array Value} {n : Nat} {Ls : Array Slot} (h : Jvm.Sym.laidSlots args.toList ++ List.replicate (n - (Jvm.Sym.laidSlots args.toList).length) .unset = Ls.toList) : entryFrame m args n = mkF m 0 Ls [] := by
  have q : argsToLocals args n = Ls := Array.toList_inj.mp (by rw [Jvm.Sym.argsToLocals_toList]; exact h)
  show mkF m 0 (argsToLocals args n) [] = _
  rw [q]
theorem Con.of {y : MethodName} {bytes : ByteArray} {maxL : Nat} {ret : Option FieldType} {rm : Room} {as' : Array Value} {h0 : Heap} (hp : plainFor y = true) {Ls : Array Slot} (hef : ∀ m, entryFrame m as' maxL = mkF m 0 Ls [])
    (body : ∀ {p : Program} {e : Env} {s : State} {m : MethodId} {below : List Frame} {meth : Method} {c : Code} {T : State}, Stand p l e rm s m as' below meth c T [] 0 0 → p.tables.exec = Jvm.exec → Z.Warmed39 s.vm → c.code = bytes → c.maxLocals = maxL → s.vm.findClass y.cls = some m.cls → meth.name = y.name → meth.sig.returnType = ret → meth.locks = false → T.heap = h0 → Ends p e below (NP s Q rm.cells rm.slots) T (mkF m 0 Ls [])) :
    Con l y bytes maxL ret rm Z as' h0 Q := by
  intro ws
  refine MetFree.of_bodySF hp hisR ?_
  intro p e s m args below meth c s₁ Bd hml0 hP hK
  obtain ⟨rfl, hZ, hh⟩ := hP
  have X0 : Stand p l e rm s m _ below meth c s₁ [] 0 0 := Stand.of_body Bd
  have e0 : s₁.heap = h0 := by rw [← hh, Bd.state]; rfl
  obtain ⟨s₂, o, h1, r⟩ := body X0 Bd.exec hZ Bd.bytes hml0 (findClass_of_methodNamed Bd.named) (name_of_methodNamed Bd.named Bd.method).1 Bd.returns Bd.notSynchronized e0
  exact ⟨s₂, o, castTop (hef m) h1, r⟩
theorem cStat {own : String} {index : Nat} {y : MethodName} {bytes : ByteArray} {maxL : Nat} {ret : Option FieldType} {rm : Room} {Q' : Option Value → Heap → List Loc → Prop} {pc : Nat} {Ls : Array Slot} {st : List Value}
    (X : Stand p l e R s m args below meth c T locs cells slots) (hx : p.tables.exec = Jvm.exec) (hZ : Z.Warmed39 s.vm) (hown : s.vm.findClass own = some m.cls) (hml : Ls.size = c.maxLocals) (eT : T.heap = h)
    (w1 : (Cond.methodLink own index y).before a0 Z = true) (w2 : (Cond.static y).before a0 Z = true) (w3 : (Cond.initialized y.cls).before a0 Z = true) (w4 : (Cond.code y bytes maxL ret).before a0 Z = true)
    (argsL rest : List Value) {as' : Array Value} (has : argsL.toArray = as') (hM : Con l y bytes maxL ret rm Z as' h Q') (hd : decode c.code pc = .ok (.invokestatic index, 3)) (hst : st = argsL.reverse ++ rest)
    (hlen : ∀ sig, parseMethodDescriptor y.desc = some sig → argsL.length = sig.parameters.length) (hy : y.cls ≠ "java/lang/invoke/MethodHandle" ∧ y.cls ≠ "java/lang/invoke/VarHandle")
    (hf : rm.frames + 1 ≤ R.frames) (hl : (rest.map fun v => v.category).sum + (maxL + 11) + rm.locals ≤ R.locals) (hc : cells + rm.cells ≤ R.cells) (hs : slots + rm.slots ≤ R.slots)
    (k : ∀ v T' h' L, Stand p l e R s m args below meth c T' (locs ++ L) (cells + rm.cells) (slots + rm.slots) → T'.heap = h' → Q' v h' L → Ends p e below P T' (mkF m (pc + 3) Ls (v.toList ++ rest))) :
    Ends p e below P T (mkF m pc Ls st) := by
  subst has
  obtain ⟨v, _, ⟨T', L', k', n'⟩, -, X', ⟨Lc, hQ, e1, e2, e3⟩, stp⟩ := Jvm.LawKit.callS X hx (y := y) hown (mvT hZ w1) (mvT hZ w2) (mvT hZ w3) (mvT hZ w4) hy (backOf (W := (rest.map fun v => v.category).sum) (hM []) hZ w4 w3 hf hl) (g := mkF m pc Ls st) rfl hml (argsL := argsL) (rest := rest) hlen hst (by show 2 * 0 + _ ≤ _; omega) hd (fun _ _ => ⟨rfl, eT, hc, hs⟩)
  dsimp only [Pt.U, Pt.locs, Pt.cells, Pt.slots] at X' e1 e2 e3 stp hQ
  subst e1 e2 e3
  exact go stp (k v T' _ Lc X' rfl hQ)
theorem cInit {own : String} {index : Nat} {y : MethodName} {bytes : ByteArray} {maxL : Nat} {rm : Room} {Q' : Option Value → Heap → List Loc → Prop} {pc : Nat} {Ls : Array Slot} {st : List Value}
    (X : Stand p l e R s m args below meth c T locs cells slots) (hx : p.tables.exec = Jvm.exec) (hZ : Z.Warmed39 s.vm) (hown : s.vm.findClass own = some m.cls) (hml : Ls.size = c.maxLocals) (eT : T.heap = h)
    (w1 : (Cond.methodLink own index y).before a0 Z = true) (w2 : (Cond.instanceMethod y).before a0 Z = true) (w3 : (Cond.initialized y.cls).before a0 Z = true) (w4 : (Cond.code y bytes maxL none).before a0 Z = true)
    (a : Addr) (argsL rest : List Value) {as' : Array Value} (has : (.ref a :: argsL).toArray = as') (hM : Con l y bytes maxL none rm Z as' h Q') (hd : decode c.code pc = .ok (.invokespecial index, 3)) (hst : st = argsL.reverse ++ .ref a :: rest)
    (hlen : ∀ sig, parseMethodDescriptor y.desc = some sig → argsL.length = sig.parameters.length) (hy1 : y.name = "<init>") (hy : y.cls ≠ "java/lang/invoke/MethodHandle" ∧ y.cls ≠ "java/lang/invoke/VarHandle")
    (hf : rm.frames + 1 ≤ R.frames) (hl : (rest.map fun v => v.category).sum + (maxL + 11) + rm.locals ≤ R.locals) (hc : cells + rm.cells ≤ R.cells) (hs : slots + rm.slots ≤ R.slots)
    (k : ∀ v T' h' L, Stand p l e R s m args below meth c T' (locs ++ L) (cells + rm.cells) (slots + rm.slots) → T'.heap = h' → Q' v h' L → Ends p e below P T' (mkF m (pc + 3) Ls (v.toList ++ rest))) :
    Ends p e below P T (mkF m pc Ls st) := by
  subst has
  obtain ⟨v, _, ⟨T', L', k', n'⟩, -, X', ⟨Lc, hQ, e1, e2, e3⟩, stp⟩ := X.specialBack hx (y := y) hy1 hown (mvT hZ w1) (mvT hZ w2) (mvT hZ w4) hy (backOf (W := (rest.map fun v => v.category).sum) (hM []) hZ w4 w3 hf hl) (g := mkF m pc Ls st) rfl hml (Steps.refl _) (a := a) (argsL := argsL) (rest := rest) hlen hst (by show 2 * 0 + _ ≤ _; omega) hd (fun _ _ => ⟨rfl, eT, hc, hs⟩)
  dsimp only [Pt.U, Pt.locs, Pt.cells, Pt.slots] at X' e1 e2 e3 stp hQ
  subst e1 e2 e3
  exact goS stp (k v T' _ Lc X' rfl hQ)
theorem own_mvN {own host : String} {index : Nat} {y : MethodName} (hZ : Z.Warmed39 s.vm) (w : (Cond.methodLinkNest own index y host).before a0 Z = true) : (Cond.methodLinkNest own index y host).before args s = true := (Cond.methodLinkNest_wide hZ w :)
theorem cInitN {own host : String} {index : Nat} {y : MethodName} {bytes : ByteArray} {maxL : Nat} {rm : Room} {Q' : Option Value → Heap → List Loc → Prop} {pc : Nat} {Ls : Array Slot} {st : List Value}
    (X : Stand p l e R s m args below meth c T locs cells slots) (hx : p.tables.exec = Jvm.exec) (hZ : Z.Warmed39 s.vm) (hown : s.vm.findClass own = some m.cls) (hml : Ls.size = c.maxLocals) (eT : T.heap = h)
    (w1 : (Cond.methodLinkNest own index y host).before a0 Z = true) (w2 : (Cond.instanceMethod y).before a0 Z = true) (w3 : (Cond.initialized y.cls).before a0 Z = true) (w4 : (Cond.code y bytes maxL none).before a0 Z = true)
    (a : Addr) (argsL rest : List Value) {as' : Array Value} (has : (.ref a :: argsL).toArray = as') (hM : Con l y bytes maxL none rm Z as' h Q') (hd : decode c.code pc = .ok (.invokespecial index, 3)) (hst : st = argsL.reverse ++ .ref a :: rest)
    (hlen : ∀ sig, parseMethodDescriptor y.desc = some sig → argsL.length = sig.parameters.length) (hy1 : y.name = "<init>") (hy : y.cls ≠ "java/lang/invoke/MethodHandle" ∧ y.cls ≠ "java/lang/invoke/VarHandle")
    (hf : rm.frames + 1 ≤ R.frames) (hl : (rest.map fun v => v.category).sum + (maxL + 11) + rm.locals ≤ R.locals) (hc : cells + rm.cells ≤ R.cells) (hs : slots + rm.slots ≤ R.slots)
    (k : ∀ v T' h' L, Stand p l e R s m args below meth c T' (locs ++ L) (cells + rm.cells) (slots + rm.slots) → T'.heap = h' → Q' v h' L → Ends p e below P T' (mkF m (pc + 3) Ls (v.toList ++ rest))) :
    Ends p e below P T (mkF m pc Ls st) := by
  subst has
  obtain ⟨v, _, ⟨T', L', k', n'⟩, -, X', ⟨Lc, hQ, e1, e2, e3⟩, stp⟩ := X.specialBackNest hx (y := y) hy1 hown (own_mvN hZ w1) (mvT hZ w2) (mvT hZ w4) hy (backOf (W := (rest.map fun v => v.category).sum) (hM []) hZ w4 w3 hf hl) (g := mkF m pc Ls st) rfl hml (Steps.refl _) (a := a) (argsL := argsL) (rest := rest) hlen hst (by show 2 * 0 + _ ≤ _; omega) hd (fun _ _ => ⟨rfl, eT, hc, hs⟩)
  dsimp only [Pt.U, Pt.locs, Pt.cells, Pt.slots] at X' e1 e2 e3 stp hQ
  subst e1 e2 e3
  exact goS stp (k v T' _ Lc X' rfl hQ)
theorem cVirt {own K : String} {index : Nat} {y z : MethodName} {bytes : ByteArray} {maxL : Nat} {ret : Option FieldType} {rm : Room} {Q' : Option Value → Heap → List Loc → Prop} {pc : Nat} {Ls : Array Slot} {st : List Value}
    (X : Stand p l e R s m args below meth c T locs cells slots) (hx : p.tables.exec = Jvm.exec) (hZ : Z.Warmed39 s.vm) (hown : s.vm.findClass own = some m.cls) (hml : Ls.size = c.maxLocals) (eT : T.heap = h)
    (w1 : (Cond.methodLink own index y).before a0 Z = true) (w2 : (Cond.declares y).before a0 Z = true) (w3 : (Cond.selects K y z).before a0 Z = true) (w4 : (Cond.instanceMethod z).before a0 Z = true) (w5 : (Cond.initialized z.cls).before a0 Z = true) (w6 : (Cond.code z bytes maxL ret).before a0 Z = true) (hnf : NotFace s y)
    (a : Addr) (E : Exa Z h a K) (argsL rest : List Value) {as' : Array Value} (has : (.ref a :: argsL).toArray = as') (hM : Con l z bytes maxL ret rm Z as' h Q') (hd : decode c.code pc = .ok (.invokevirtual index, 3)) (hst : st = argsL.reverse ++ .ref a :: rest)
    (hlen : ∀ sig, parseMethodDescriptor y.desc = some sig → argsL.length = sig.parameters.length) (hy : y.cls ≠ "java/lang/invoke/MethodHandle" ∧ y.cls ≠ "java/lang/invoke/VarHandle")
    (hf : rm.frames + 1 ≤ R.frames) (hl : (rest.map fun v => v.category).sum + (maxL + 11) + rm.locals ≤ R.locals) (hc : cells + rm.cells ≤ R.cells) (hs : slots + rm.slots ≤ R.slots)
    (k : ∀ v T' h' L, Stand p l e R s m args below meth c T' (locs ++ L) (cells + rm.cells) (slots + rm.slots) → T'.heap = h' → Q' v h' L → Ends p e below P T' (mkF m (pc + 3) Ls (v.toList ++ rest))) :
    Ends p e below P T (mkF m pc Ls st) := by
  subst has
  obtain ⟨cq, kq, qa, qb, qc⟩ := isOf hZ eT E
  obtain ⟨v, _, ⟨T', L', k', n'⟩, -, X', ⟨Lc, hQ, e1, e2, e3⟩, stp⟩ := X.virtualBack hx (y := y) (z := z) hown (mvT hZ w1) (mvT hZ w2) hnf (mvT hZ w3) (mvT hZ w4) hy (backOf (W := (rest.map fun v => v.category).sum) (hM []) hZ w6 w5 hf hl) qa qc (g := mkF m pc Ls st) rfl hml (Steps.refl _) (argsL := argsL) (rest := rest) hlen hst (by show 2 * 0 + _ ≤ _; omega) hd (fun _ _ => ⟨rfl, eT, hc, hs⟩)
  dsimp only [Pt.U, Pt.locs, Pt.cells, Pt.slots] at X' e1 e2 e3 stp hQ
  subst e1 e2 e3
  exact goS stp (k v T' _ Lc X' rfl hQ)
theorem cUp {own K owner : String} {index : Nat} {y z : MethodName} {bytes : ByteArray} {maxL : Nat} {ret : Option FieldType} {rm : Room} {Q' : Option Value → Heap → List Loc → Prop} {pc : Nat} {Ls : Array Slot} {st : List Value}
    (X : Stand p l e R s m args below meth c T locs cells slots) (hx : p.tables.exec = Jvm.exec) (hZ : Z.Warmed39 s.vm) (hown : s.vm.findClass own = some m.cls) (hml : Ls.size = c.maxLocals) (eT : T.heap = h)
    (w1 : (Cond.methodLink own index y).before a0 Z = true) (w2 : (Cond.sameMethod y.cls owner y.name y.desc).before a0 Z = true) (w2d : (Cond.declares ⟨owner, y.name, y.desc⟩).before a0 Z = true) (w3 : (Cond.selects K y z).before a0 Z = true) (w4 : (Cond.instanceMethod z).before a0 Z = true) (w5 : (Cond.initialized z.cls).before a0 Z = true) (w6 : (Cond.code z bytes maxL ret).before a0 Z = true)
    (a : Addr) (E : Exa Z h a K) (argsL rest : List Value) {as' : Array Value} (has : (.ref a :: argsL).toArray = as') (hM : Con l z bytes maxL ret rm Z as' h Q') (hd : decode c.code pc = .ok (.invokevirtual index, 3)) (hst : st = argsL.reverse ++ .ref a :: rest)
    (hlen : ∀ sig, parseMethodDescriptor y.desc = some sig → argsL.length = sig.parameters.length) (hy : owner ≠ "java/lang/invoke/MethodHandle" ∧ owner ≠ "java/lang/invoke/VarHandle")
    (hf : rm.frames + 1 ≤ R.frames) (hl : (rest.map fun v => v.category).sum + (maxL + 11) + rm.locals ≤ R.locals) (hc : cells + rm.cells ≤ R.cells) (hs : slots + rm.slots ≤ R.slots)
    (k : ∀ v T' h' L, Stand p l e R s m args below meth c T' (locs ++ L) (cells + rm.cells) (slots + rm.slots) → T'.heap = h' → Q' v h' L → Ends p e below P T' (mkF m (pc + 3) Ls (v.toList ++ rest))) :
    Ends p e below P T (mkF m pc Ls st) := by
  subst has
  obtain ⟨cq, kq, qa, qb, qc⟩ := isOf hZ eT E
  obtain ⟨v, _, ⟨T', L', k', n'⟩, -, X', ⟨Lc, hQ, e1, e2, e3⟩, stp⟩ := X.virtualBackUp hx (x := y) (y := z) hown (mvT hZ w1) (mvT hZ w2) (mvT hZ w2d) hy (mvT hZ w3) (mvT hZ w4) (backOf (W := (rest.map fun v => v.category).sum) (hM []) hZ w6 w5 hf hl) qa qc (g := mkF m pc Ls st) rfl hml (Steps.refl _) (argsL := argsL) (rest := rest) hlen hst (by show 2 * 0 + _ ≤ _; omega) hd (fun _ _ => ⟨rfl, eT, hc, hs⟩)
  dsimp only [Pt.U, Pt.locs, Pt.cells, Pt.slots] at X' e1 e2 e3 stp hQ
  subst e1 e2 e3
  exact goS stp (k v T' _ Lc X' rfl hQ)
theorem cFace {own K : String} {index count : Nat} {y z : MethodName} {bytes : ByteArray} {maxL : Nat} {ret : Option FieldType} {rm : Room} {Q' : Option Value → Heap → List Loc → Prop} {pc : Nat} {Ls : Array Slot} {st : List Value}
    (X : Stand p l e R s m args below meth c T locs cells slots) (hx : p.tables.exec = Jvm.exec) (hZ : Z.Warmed39 s.vm) (hown : s.vm.findClass own = some m.cls) (hml : Ls.size = c.maxLocals) (eT : T.heap = h)
    (w1 : (Cond.methodLink own index y).before a0 Z = true) (w2 : (Cond.declares y).before a0 Z = true) (wf : (Cond.interfaceMethod y.cls y.cls y.name y.desc).before args s = true) (w3 : (Cond.selects K y z).before a0 Z = true) (w4 : (Cond.instanceMethod z).before a0 Z = true) (wp : (Cond.publicMethod z).before a0 Z = true) (wu : (Cond.unhidden K y.name y.desc).before args s = true) (wc : (Cond.castable K y.cls).before a0 Z = true) (w5 : (Cond.initialized z.cls).before a0 Z = true) (w6 : (Cond.code z bytes maxL ret).before a0 Z = true)
    (a : Addr) (E : Exa Z h a K) (argsL rest : List Value) {as' : Array Value} (has : (.ref a :: argsL).toArray = as') (hM : Con l z bytes maxL ret rm Z as' h Q') (hd : decode c.code pc = .ok (.invokeinterface index count, 5)) (hst : st = argsL.reverse ++ .ref a :: rest)
    (hlen : ∀ sig, parseMethodDescriptor y.desc = some sig → argsL.length = sig.parameters.length) (hy : y.cls ≠ "java/lang/invoke/MethodHandle" ∧ y.cls ≠ "java/lang/invoke/VarHandle")
    (hf : rm.frames + 1 ≤ R.frames) (hl : (rest.map fun v => v.category).sum + (maxL + 11) + rm.locals ≤ R.locals) (hc : cells + rm.cells ≤ R.cells) (hs : slots + rm.slots ≤ R.slots)
    (k : ∀ v T' h' L, Stand p l e R s m args below meth c T' (locs ++ L) (cells + rm.cells) (slots + rm.slots) → T'.heap = h' → Q' v h' L → Ends p e below P T' (mkF m (pc + 5) Ls (v.toList ++ rest))) :
    Ends p e below P T (mkF m pc Ls st) := by
  subst has
  obtain ⟨cq, kq, qa, qb, qc⟩ := isOf hZ eT E
  obtain ⟨v, _, ⟨T', L', k', n'⟩, -, X', ⟨Lc, hQ, e1, e2, e3⟩, stp⟩ := X.interfaceBack hx (xi := y) (y := z) hown (mvT hZ w1) (mvT hZ w2) wf (mvT hZ w3) (mvT hZ w4) (mvT hZ wp) wu (mvT hZ wc) hy (backOf (W := (rest.map fun v => v.category).sum) (hM []) hZ w6 w5 hf hl) qa qb qc (g := mkF m pc Ls st) rfl hml (Steps.refl _) (argsL := argsL) (rest := rest) hlen hst (by show 2 * 0 + _ ≤ _; omega) hd (fun _ _ => ⟨rfl, eT, hc, hs⟩)
  dsimp only [Pt.U, Pt.locs, Pt.cells, Pt.slots] at X' e1 e2 e3 stp hQ
  subst e1 e2 e3
  exact goS stp (k v T' _ Lc X' rfl hQ)
theorem cPriv {own K : String} {index nn : Nat} {y : MethodName} {bytes : ByteArray} {maxL : Nat} {ret : Option FieldType} {rm : Room} {Q' : Option Value → Heap → List Loc → Prop} {pc : Nat} {Ls : Array Slot} {st : List Value}
    (X : Stand p l e R s m args below meth c T locs cells slots) (hx : p.tables.exec = Jvm.exec) (hZ : Z.Warmed39 s.vm) (hown : s.vm.findClass own = some m.cls) (hml : Ls.size = c.maxLocals) (eT : T.heap = h)
    (w1 : (Cond.methodLink own index y).before a0 Z = true) (w2 : (Cond.instanceMethod y).before a0 Z = true) (w3 : (Cond.privateMethod y).before a0 Z = true) (w4 : (Cond.instantiable y.cls nn).before a0 Z = true) (w5 : (Cond.initialized y.cls).before a0 Z = true) (w6 : (Cond.code y bytes maxL ret).before a0 Z = true)
    (a : Addr) (E : Exa Z h a K) (argsL rest : List Value) {as' : Array Value} (has : (.ref a :: argsL).toArray = as') (hM : Con l y bytes maxL ret rm Z as' h Q') (hd : decode c.code pc = .ok (.invokevirtual index, 3)) (hst : st = argsL.reverse ++ .ref a :: rest)
    (hlen : ∀ sig, parseMethodDescriptor y.desc = some sig → argsL.length = sig.parameters.length) (hy : y.cls ≠ "java/lang/invoke/MethodHandle" ∧ y.cls ≠ "java/lang/invoke/VarHandle")
    (hf : rm.frames + 1 ≤ R.frames) (hl : (rest.map fun v => v.category).sum + (maxL + 11) + rm.locals ≤ R.locals) (hc : cells + rm.cells ≤ R.cells) (hs : slots + rm.slots ≤ R.slots)
    (k : ∀ v T' h' L, Stand p l e R s m args below meth c T' (locs ++ L) (cells + rm.cells) (slots + rm.slots) → T'.heap = h' → Q' v h' L → Ends p e below P T' (mkF m (pc + 3) Ls (v.toList ++ rest))) :
    Ends p e below P T (mkF m pc Ls st) := by
  subst has
  obtain ⟨cell, q1, q2⟩ := E.cell
  have hpr := Cond.privateMethod_at (mvP hZ w3 (args := #[]))
  obtain ⟨cc, kc, i1, i2, -, i4, -⟩ := Cond.instantiable_spec (mvT (args := args) hZ w4)
  have hni : kc.isInterface = false := by
    cases hq : kc.isInterface with
    | false => rfl
    | true => rw [hq] at i4; simp at i4
  have hsel := Jvm.Stand.selects_self_of_private (args := args) i1 i2 hni hpr (mvT hZ w2) hy
  obtain ⟨v, _, ⟨T', L', k', n'⟩, -, X', ⟨Lc, hQ, e1, e2, e3⟩, stp⟩ := X.privateBack hx (y := y) hown (mvT hZ w1) (mvT hZ w2) hsel hpr (mvT hZ w6) hy (backOf (W := (rest.map fun v => v.category).sum) (hM []) hZ w6 w5 hf hl) (g := mkF m pc Ls st) rfl hml (Steps.refl _) (a := a) (by rw [eT]; exact q1) q2 (argsL := argsL) (rest := rest) hlen hst (by show 2 * 0 + _ ≤ _; omega) hd (fun _ _ => ⟨rfl, eT, hc, hs⟩)
  dsimp only [Pt.U, Pt.locs, Pt.cells, Pt.slots] at X' e1 e2 e3 stp hQ
  subst e1 e2 e3
  exact goS stp (k v T' _ Lc X' rfl hQ)
theorem xx (O : Ext Z.heap h) (E : Ext h h') : Ext Z.heap h' := ⟨Nat.le_trans O.1 E.1, fun a c q => E.2 _ _ (O.2 _ _ q)⟩
theorem xk {ws : List Addr} (O : Ext Z.heap h) (K : Keep h h' ws) (q : ∀ x ∈ ws, Z.heap.size ≤ x) : Ext Z.heap h' := (Old.keep ⟨rfl, O⟩ K q).2
theorem xw {a : Addr} {sl : Nat} {v : Value} (O : Ext Z.heap h) (W : Wr h h' a sl v) (q : Z.heap.size ≤ a) : Ext Z.heap h' := (Old.wr ⟨rfl, O⟩ W q).2
theorem ke (E : Ext h h') : Keep h h' [] := (Keep.refl h []).ext E
theorem ek (K : Keep h h' []) : Ext h h' := ⟨K.1, fun a c q => K.2.1 a c q nin0⟩
end Own
section OwnW
variable {p : Program} {l : Launch} {e : Env} {R : Room} {s : State} {m : MethodId} {args : Array Value} {below : List Frame} {meth : Method} {c : Code} {T : State} {locs : List Loc} {cells slots : Nat} {Z : State} {a0 : Array Value} {h h' : Heap} {Q : Option Value → Heap → List Loc → Prop} {rc rs : Nat} {P : State → Outcome → Prop} {vm0 : Vm} {EL : List (String × Nat)} {k0 : Nat}
/-- the wide end: literals may have been interned -/
def WP (s : State) (Z : State) (EL : List (String × Nat)) (Q : Option Value → Heap → List Loc → Prop) (rc rs : Nat) : State → Outcome → Prop := fun s₂ o => ∃ v L, o = .returned v ∧ Q v s₂.heap L ∧ CHr Z EL s.vm s.heap s₂.vm s₂.heap ∧ ReturnedEndW s o s₂ L rc rs
theorem lvW (X : Stand p l e R (s.setVm vm0) m args below meth c T locs cells slots) (hlk : meth.locks = false) (hZ : Z.Warmed39 vm0) (hEL : EW Z a0 EL) (hs0 : s.heap = h') (hS : s.Since vm0 k0) (hk : k0 ≤ h.size) (H : CHr Z EL s.vm h' vm0 h) (eT : T.heap = h) {v : Option Value} (hv : meth.sig.returnType = none → v = none) (hq : Q v h locs) (hc : cells ≤ rc) (hs : slots ≤ rs) : Lv e m below T v (WP s Z EL Q rc rs) := by
  subst eT
  obtain ⟨fs, hr, hrun, hended, hv', hW, hb, hsame⟩ := Jvm.Stand.leaveW X hS hk (v := v) hv hlk
  refine ⟨fs, hr, hrun, hended, _, _, rfl, hq, ?_, hv', hW, hb, hsame.mono hc hs⟩
  rw [hs0]
  show CHr Z EL s.vm h' T.vm T.heap
  exact H.trans (CHv.at X hZ hEL H.1)
def ConW (l : Launch) (y : MethodName) (bytes : ByteArray) (maxL : Nat) (ret : Option FieldType) (rm : Room) (Z : State) (EL : List (String × Nat)) (as' : Array Value) (h0 : Heap) (Q : Option Value → Heap → List Loc → Prop) : Prop :=
  ∀ ws, MetFree l y (head1 (Jvm.Cond.code y bytes maxL ret :: ws) rm) (fun a U => a = as' ∧ Z.Warmed39 U.vm ∧ U.heap = h0 ∧ CHv Z EL U.vm h0) (fun _ _ _ _ _ => True) (fun _ U o U' => ∃ v L, o = .returned v ∧ Q v U'.heap L ∧ CHr Z EL U.vm U.heap U'.vm U'.heap ∧ ReturnedEndW U o U' L rm.cells rm.slots)
theorem ConW.of {y : MethodName} {bytes : ByteArray} {maxL : Nat} {ret : Option FieldType} {rm : Room} {as' : Array Value} {h0 : Heap} (hp : plainFor y = true) {Ls : Array Slot} (hef : ∀ m, entryFrame m as' maxL = mkF m 0 Ls [])
    (body : ∀ {p : Program} {e : Env} {s : State} {m : MethodId} {below : List Frame} {meth : Method} {c : Code} {T : State}, Stand p l e rm (s.setVm s.vm) m as' below meth c T [] 0 0 → p.tables.exec = Jvm.exec → Z.Warmed39 s.vm → c.code = bytes → c.maxLocals = maxL → s.vm.findClass y.cls = some m.cls → meth.name = y.name → meth.sig.returnType = ret → meth.locks = false → T.heap = h0 → s.heap = h0 → s.Since s.vm 0 → 0 ≤ h0.size → CHr Z EL s.vm h0 s.vm h0 → Ends p e below (WP s Z EL Q rm.cells rm.slots) T (mkF m 0 Ls [])) :
    ConW l y bytes maxL ret rm Z EL as' h0 Q := by
  intro ws
  refine MetFree.of_bodySF hp hisR ?_
  intro p e s m args below meth c s₁ Bd hml0 hP hK
  obtain ⟨rfl, hZ, hh, hC⟩ := hP
  have X0 : Stand p l e rm s m _ below meth c s₁ [] 0 0 := Stand.of_body Bd
  have e0 : s₁.heap = h0 := by rw [← hh, Bd.state]; rfl
  obtain ⟨s₂, o, h1, r⟩ := body (s := s) X0 Bd.exec hZ Bd.bytes hml0 (findClass_of_methodNamed Bd.named) (name_of_methodNamed Bd.named Bd.method).1 Bd.returns Bd.notSynchronized e0 hh ((State.WarmedH.refl s).since 0) (Nat.zero_le _) (CHr.refl hC)
  exact ⟨s₂, o, castTop (hef m) h1, r⟩
theorem cStatW {own : String} {index : Nat} {y : MethodName} {bytes : ByteArray} {maxL : Nat} {ret : Option FieldType} {rm : Room} {Q' : Option Value → Heap → List Loc → Prop} {pc : Nat} {Ls : Array Slot} {st : List Value}
    (X : Stand p l e R (s.setVm vm0) m args below meth c T locs cells slots) (hx : p.tables.exec = Jvm.exec) (hZ : Z.Warmed39 vm0) (hown : vm0.findClass own = some m.cls) (hml : Ls.size = c.maxLocals) (eT : T.heap = h) (hEL : EW Z a0 EL) (hS : s.Since vm0 k0) (hk : k0 ≤ h.size) (H : CHv Z EL vm0 h)
    (w1 : (Cond.methodLink own index y).before a0 Z = true) (w2 : (Cond.static y).before a0 Z = true) (w3 : (Cond.initialized y.cls).before a0 Z = true) (w4 : (Cond.code y bytes maxL ret).before a0 Z = true)
    (argsL rest : List Value) {as' : Array Value} (has : argsL.toArray = as') (hM : ConW l y bytes maxL ret rm Z EL as' h Q') (hd : decode c.code pc = .ok (.invokestatic index, 3)) (hst : st = argsL.reverse ++ rest)
    (hlen : ∀ sig, parseMethodDescriptor y.desc = some sig → argsL.length = sig.parameters.length) (hy : y.cls ≠ "java/lang/invoke/MethodHandle" ∧ y.cls ≠ "java/lang/invoke/VarHandle")
    (hf : rm.frames + 1 ≤ R.frames) (hl : (rest.map fun v => v.category).sum + (maxL + 11) + rm.locals ≤ R.locals) (hc : cells + rm.cells ≤ R.cells) (hs : slots + rm.slots ≤ R.slots)
    (k : ∀ v T' h' L k1, Stand p l e R (s.setVm T'.vm) m args below meth c T' (locs ++ L) (cells + rm.cells) (slots + rm.slots) → T'.heap = h' → s.Since T'.vm k1 → k1 ≤ h'.size → Z.Warmed39 T'.vm → T'.vm.findClass own = some m.cls → CHr Z EL vm0 h T'.vm h' → Q' v h' L → Ends p e below P T' (mkF m (pc + 3) Ls (v.toList ++ rest))) :
    Ends p e below P T (mkF m pc Ls st) := by
  subst has
  obtain ⟨v, vm1, ⟨T', L', k', n'⟩, -, X', hS', hle, ⟨Lc, hQ, e1, e2, e3, hC⟩, stp⟩ := callSS X hx (y := y) hown (mvT (s := s.setVm vm0) hZ w1) (mvT (s := s.setVm vm0) hZ w2) (mvT (s := s.setVm vm0) hZ w3) (mvT (s := s.setVm vm0) hZ w4) hy (backOfSH (s := s) (W := (rest.map fun v => v.category).sum) (hM []) hZ w4 w3 hf hl hEL H) (g := mkF m pc Ls st) rfl hml (argsL := argsL) (rest := rest) hlen hst (by show 2 * 0 + _ ≤ _; omega) hd (fun _ _ => ⟨rfl, eT, hc, hs⟩)
  dsimp only [Pt.U, Pt.locs, Pt.cells, Pt.slots] at X' e1 e2 e3 stp hQ hS' hle hC
  subst e1 e2 e3
  have hS2 := hS.trans hS' (Nat.le_trans hk (by rw [← eT]; exact hle))
  have hW : Z.Warmed39 T'.vm := State.Warmed39.trans (t := s.setVm vm0) hZ hS'.1
  have hf' : T'.vm.findClass own = some m.cls := by rw [hS'.1.alike.findClass]; exact hown
  exact goS stp (k v T' _ Lc _ X' rfl hS2 (Nat.le_refl _) hW hf' hC hQ)
theorem cInitW {own : String} {index : Nat} {y : MethodName} {bytes : ByteArray} {maxL : Nat} {rm : Room} {Q' : Option Value → Heap → List Loc → Prop} {pc : Nat} {Ls : Array Slot} {st : List Value}
    (X : Stand p l e R (s.setVm vm0) m args below meth c T locs cells slots) (hx : p.tables.exec = Jvm.exec) (hZ : Z.Warmed39 vm0) (hown : vm0.findClass own = some m.cls) (hml : Ls.size = c.maxLocals) (eT : T.heap = h) (hEL : EW Z a0 EL) (hS : s.Since vm0 k0) (hk : k0 ≤ h.size) (H : CHv Z EL vm0 h)
    (w1 : (Cond.methodLink own index y).before a0 Z = true) (w2 : (Cond.instanceMethod y).before a0 Z = true) (w3 : (Cond.initialized y.cls).before a0 Z = true) (w4 : (Cond.code y bytes maxL none).before a0 Z = true)
    (a : Addr) (argsL rest : List Value) {as' : Array Value} (has : (.ref a :: argsL).toArray = as') (hM : ConW l y bytes maxL none rm Z EL as' h Q') (hd : decode c.code pc = .ok (.invokespecial index, 3)) (hst : st = argsL.reverse ++ .ref a :: rest)
    (hlen : ∀ sig, parseMethodDescriptor y.desc = some sig → argsL.length = sig.parameters.length) (hy1 : y.name = "<init>") (hy : y.cls ≠ "java/lang/invoke/MethodHandle" ∧ y.cls ≠ "java/lang/invoke/VarHandle")
    (hf : rm.frames + 1 ≤ R.frames) (hl : (rest.map fun v => v.category).sum + (maxL + 11) + rm.locals ≤ R.locals) (hc : cells + rm.cells ≤ R.cells) (hs : slots + rm.slots ≤ R.slots)
    (k : ∀ v T' h' L k1, Stand p l e R (s.setVm T'.vm) m args below meth c T' (locs ++ L) (cells + rm.cells) (slots + rm.slots) → T'.heap = h' → s.Since T'.vm k1 → k1 ≤ h'.size → Z.Warmed39 T'.vm → T'.vm.findClass own = some m.cls → CHr Z EL vm0 h T'.vm h' → Q' v h' L → Ends p e below P T' (mkF m (pc + 3) Ls (v.toList ++ rest))) :
    Ends p e below P T (mkF m pc Ls st) := by
  subst has
  obtain ⟨v, vm1, ⟨T', L', k', n'⟩, -, X', hS', hle, ⟨Lc, hQ, e1, e2, e3, hC⟩, stp⟩ := Jvm.Stand.specialBackS X hx (y := y) hy1 hown (mvT (s := s.setVm vm0) hZ w1) (mvT (s := s.setVm vm0) hZ w2) (mvT (s := s.setVm vm0) hZ w4) hy (backOfSH (s := s) (W := (rest.map fun v => v.category).sum) (hM []) hZ w4 w3 hf hl hEL H) (g := mkF m pc Ls st) rfl hml (Steps.refl _) (a := a) (argsL := argsL) (rest := rest) hlen hst (by show 2 * 0 + _ ≤ _; omega) hd (fun _ _ => ⟨rfl, eT, hc, hs⟩)
  dsimp only [Pt.U, Pt.locs, Pt.cells, Pt.slots] at X' e1 e2 e3 stp hQ hS' hle hC
  subst e1 e2 e3
  have hS2 := hS.trans hS' (Nat.le_trans hk (by rw [← eT]; exact hle))
  have hW : Z.Warmed39 T'.vm := State.Warmed39.trans (t := s.setVm vm0) hZ hS'.1
  have hf' : T'.vm.findClass own = some m.cls := by rw [hS'.1.alike.findClass]; exact hown
  exact goS stp (k v T' _ Lc _ X' rfl hS2 (Nat.le_refl _) hW hf' hC hQ)
theorem cVirtW {own K : String} {index : Nat} {y z : MethodName} {bytes : ByteArray} {maxL : Nat} {ret : Option FieldType} {rm : Room} {Q' : Option Value → Heap → List Loc → Prop} {pc : Nat} {Ls : Array Slot} {st : List Value}
    (X : Stand p l e R (s.setVm vm0) m args below meth c T locs cells slots) (hx : p.tables.exec = Jvm.exec) (hZ : Z.Warmed39 vm0) (hown : vm0.findClass own = some m.cls) (hml : Ls.size = c.maxLocals) (eT : T.heap = h) (hEL : EW Z a0 EL) (hS : s.Since vm0 k0) (hk : k0 ≤ h.size) (H : CHv Z EL vm0 h)
    (w1 : (Cond.methodLink own index y).before a0 Z = true) (w2 : (Cond.declares y).before a0 Z = true) (w3 : (Cond.selects K y z).before a0 Z = true) (w4 : (Cond.instanceMethod z).before a0 Z = true) (w5 : (Cond.initialized z.cls).before a0 Z = true) (w6 : (Cond.code z bytes maxL ret).before a0 Z = true) (hnf : NotFace (s.setVm vm0) y)
    (a : Addr) (E : Exa Z h a K) (argsL rest : List Value) {as' : Array Value} (has : (.ref a :: argsL).toArray = as') (hM : ConW l z bytes maxL ret rm Z EL as' h Q') (hd : decode c.code pc = .ok (.invokevirtual index, 3)) (hst : st = argsL.reverse ++ .ref a :: rest)
    (hlen : ∀ sig, parseMethodDescriptor y.desc = some sig → argsL.length = sig.parameters.length) (hy : y.cls ≠ "java/lang/invoke/MethodHandle" ∧ y.cls ≠ "java/lang/invoke/VarHandle")
    (hf : rm.frames + 1 ≤ R.frames) (hl : (rest.map fun v => v.category).sum + (maxL + 11) + rm.locals ≤ R.locals) (hc : cells + rm.cells ≤ R.cells) (hs : slots + rm.slots ≤ R.slots)
    (k : ∀ v T' h' L k1, Stand p l e R (s.setVm T'.vm) m args below meth c T' (locs ++ L) (cells + rm.cells) (slots + rm.slots) → T'.heap = h' → s.Since T'.vm k1 → k1 ≤ h'.size → Z.Warmed39 T'.vm → T'.vm.findClass own = some m.cls → CHr Z EL vm0 h T'.vm h' → Q' v h' L → Ends p e below P T' (mkF m (pc + 3) Ls (v.toList ++ rest))) :
    Ends p e below P T (mkF m pc Ls st) := by
  subst has
  obtain ⟨cq, kq, qa, qb, qc⟩ := isOf (s := s.setVm vm0) hZ eT E
  obtain ⟨v, vm1, ⟨T', L', k', n'⟩, -, X', hS', hle, ⟨Lc, hQ, e1, e2, e3, hC⟩, stp⟩ := Jvm.Stand.virtualBackS X hx (y := y) (z := z) hown (mvT (s := s.setVm vm0) hZ w1) (mvT (s := s.setVm vm0) hZ w2) hnf (mvT (s := s.setVm vm0) hZ w3) (mvT (s := s.setVm vm0) hZ w4) hy (backOfSH (s := s) (W := (rest.map fun v => v.category).sum) (hM []) hZ w6 w5 hf hl hEL H) qa qc (g := mkF m pc Ls st) rfl hml (Steps.refl _) (argsL := argsL) (rest := rest) hlen hst (by show 2 * 0 + _ ≤ _; omega) hd (fun _ _ => ⟨rfl, eT, hc, hs⟩)
  dsimp only [Pt.U, Pt.locs, Pt.cells, Pt.slots] at X' e1 e2 e3 stp hQ hS' hle hC
  subst e1 e2 e3
  have hS2 := hS.trans hS' (Nat.le_trans hk (by rw [← eT]; exact hle))
  have hW : Z.Warmed39 T'.vm := State.Warmed39.trans (t := s.setVm vm0) hZ hS'.1
  have hf' : T'.vm.findClass own = some m.cls := by rw [hS'.1.alike.findClass]; exact hown
  exact goS stp (k v T' _ Lc _ X' rfl hS2 (Nat.le_refl _) hW hf' hC hQ)
theorem cFaceW {own K : String} {index count : Nat} {y z : MethodName} {bytes : ByteArray} {maxL : Nat} {ret : Option FieldType} {rm : Room} {Q' : Option Value → Heap → List Loc → Prop} {pc : Nat} {Ls : Array Slot} {st : List Value}
    (X : Stand p l e R (s.setVm vm0) m args below meth c T locs cells slots) (hx : p.tables.exec = Jvm.exec) (hZ : Z.Warmed39 vm0) (hown : vm0.findClass own = some m.cls) (hml : Ls.size = c.maxLocals) (eT : T.heap = h) (hEL : EW Z a0 EL) (hS : s.Since vm0 k0) (hk : k0 ≤ h.size) (H : CHv Z EL vm0 h)
    (w1 : (Cond.methodLink own index y).before a0 Z = true) (w2 : (Cond.declares y).before a0 Z = true) (wf : (Cond.interfaceMethod y.cls y.cls y.name y.desc).before args (s.setVm vm0) = true) (w3 : (Cond.selects K y z).before a0 Z = true) (w4 : (Cond.instanceMethod z).before a0 Z = true) (wp : (Cond.publicMethod z).before a0 Z = true) (wu : (Cond.unhidden K y.name y.desc).before args (s.setVm vm0) = true) (wc : (Cond.castable K y.cls).before a0 Z = true) (w5 : (Cond.initialized z.cls).before a0 Z = true) (w6 : (Cond.code z bytes maxL ret).before a0 Z = true)
    (a : Addr) (E : Exa Z h a K) (argsL rest : List Value) {as' : Array Value} (has : (.ref a :: argsL).toArray = as') (hM : ConW l z bytes maxL ret rm Z EL as' h Q') (hd : decode c.code pc = .ok (.invokeinterface index count, 5)) (hst : st = argsL.reverse ++ .ref a :: rest)
    (hlen : ∀ sig, parseMethodDescriptor y.desc = some sig → argsL.length = sig.parameters.length) (hy : y.cls ≠ "java/lang/invoke/MethodHandle" ∧ y.cls ≠ "java/lang/invoke/VarHandle")
    (hf : rm.frames + 1 ≤ R.frames) (hl : (rest.map fun v => v.category).sum + (maxL + 11) + rm.locals ≤ R.locals) (hc : cells + rm.cells ≤ R.cells) (hs : slots + rm.slots ≤ R.slots)
    (k : ∀ v T' h' L k1, Stand p l e R (s.setVm T'.vm) m args below meth c T' (locs ++ L) (cells + rm.cells) (slots + rm.slots) → T'.heap = h' → s.Since T'.vm k1 → k1 ≤ h'.size → Z.Warmed39 T'.vm → T'.vm.findClass own = some m.cls → CHr Z EL vm0 h T'.vm h' → Q' v h' L → Ends p e below P T' (mkF m (pc + 5) Ls (v.toList ++ rest))) :
    Ends p e below P T (mkF m pc Ls st) := by
  subst has
  obtain ⟨cq, kq, qa, qb, qc⟩ := isOf (s := s.setVm vm0) hZ eT E
  obtain ⟨v, vm1, ⟨T', L', k', n'⟩, -, X', hS', hle, ⟨Lc, hQ, e1, e2, e3, hC⟩, stp⟩ := Jvm.Stand.interfaceBackS X hx (xi := y) (y := z) hown (mvT (s := s.setVm vm0) hZ w1) (mvT (s := s.setVm vm0) hZ w2) wf (mvT (s := s.setVm vm0) hZ w3) (mvT (s := s.setVm vm0) hZ w4) (mvT (s := s.setVm vm0) hZ wp) wu (mvT (s := s.setVm vm0) hZ wc) hy (backOfSH (s := s) (W := (rest.map fun v => v.category).sum) (hM []) hZ w6 w5 hf hl hEL H) qa qb qc (g := mkF m pc Ls st) rfl hml (Steps.refl _) (argsL := argsL) (rest := rest) hlen hst (by show 2 * 0 + _ ≤ _; omega) hd (fun _ _ => ⟨rfl, eT, hc, hs⟩)
  dsimp only [Pt.U, Pt.locs, Pt.cells, Pt.slots] at X' e1 e2 e3 stp hQ hS' hle hC
  subst e1 e2 e3
  have hS2 := hS.trans hS' (Nat.le_trans hk (by rw [← eT]; exact hle))
  have hW : Z.Warmed39 T'.vm := State.Warmed39.trans (t := s.setVm vm0) hZ hS'.1
  have hf' : T'.vm.findClass own = some m.cls := by rw [hS'.1.alike.findClass]; exact hown
  exact goS stp (k v T' _ Lc _ X' rfl hS2 (Nat.le_refl _) hW hf' hC hQ)
end OwnW
theorem own_sfnull {Z : State} {EL : List (String × Nat)} {vm : Vm} {h : Heap} {x : Addr} (hal : Z.vm.Alike vm) (E : Exa Z h x "java/lang/String") (F : Fld Z h x "java/lang/String" "value" "[B" .null) : Safe Z EL vm h x := fun B => by
  obtain ⟨cell, k, e1, e2, e3, -, -⟩ := E
  obtain ⟨p, -, u, a, -, q, -, G, rfl | rfl⟩ := B
  · obtain ⟨cell', cf, kf, i, f, f1, f2, f3, f4, f5, f6, f7⟩ := F
    obtain ⟨cS, ⟨⟨s1, -, -, ⟨c, kc, ic, g1, -⟩, -, -, -, s8, -⟩, -, -⟩, -⟩ := G
    obtain ⟨c2, k2, i2, g2⟩ := Jvm.Free.BdW.found_ride (U := Wst Z vm h) (U' := Z) (show (Wst Z vm h).vm.Alike Z.vm from hal.symm) ⟨c, kc, ic, g1⟩
    have q1 := f2.symm.trans g2
    simp only [Option.some.injEq, Prod.mk.injEq] at q1
    obtain ⟨-, -, -, rfl⟩ := q1
    cases (show h[q.sa]? = some q.sC from s1).symm.trans f1
    rw [s8] at f7
    cases f7
  · cases (show h[q.sd]? = some q.SA from G.hd).symm.trans e1
    obtain ⟨cS, -, -, f, -⟩ := G
    have f : vm.findClass "[B" = some q.SA.cls := f
    rw [hal.findClass] at f
    obtain ⟨k1, q1, q2⟩ := Vm.findClass_spec f
    obtain ⟨k2, q3, q4⟩ := Vm.findClass_spec e2
    cases q1.symm.trans q3
    exact absurd (q2.symm.trans q4) (by decide)
theorem pn_0 : plainName "java/lang/StringLatin1" = true := by first | (simp [plainName, overriddenIn]; done) | decide +kernel
theorem d0_0 : decode jdk_43_method_3_code 0 = .ok (.iload_n 0, 1) := by decide +kernel
theorem d0_1 : decode jdk_43_method_3_code 1 = .ok (.sipush 255, 3) := by decide +kernel
theorem d0_4 : decode jdk_43_method_3_code 4 = .ok (.if_icmp .gt 7, 3) := by decide +kernel
theorem d0_7 : decode jdk_43_method_3_code 7 = .ok (.iconst 1, 1) := by decide +kernel
theorem d0_8 : decode jdk_43_method_3_code 8 = .ok (.goto 4, 3) := by decide +kernel
theorem d0_12 : decode jdk_43_method_3_code 12 = .ok (.ireturn, 1) := by decide +kernel
theorem d1_0 : decode jdk_43_method_46_code 0 = .ok (.iconst 1, 1) := by decide +kernel
theorem d1_1 : decode jdk_43_method_46_code 1 = .ok (.newarray .byte, 2) := by decide +kernel
theorem d1_3 : decode jdk_43_method_46_code 3 = .ok (.dup, 1) := by decide +kernel
theorem d1_4 : decode jdk_43_method_46_code 4 = .ok (.iconst 0, 1) := by decide +kernel
theorem d1_5 : decode jdk_43_method_46_code 5 = .ok (.iload_n 0, 1) := by decide +kernel
theorem d1_6 : decode jdk_43_method_46_code 6 = .ok (.i2b, 1) := by decide +kernel
theorem d1_7 : decode jdk_43_method_46_code 7 = .ok (.bastore, 1) := by decide +kernel
theorem d1_8 : decode jdk_43_method_46_code 8 = .ok (.areturn, 1) := by decide +kernel
theorem pn_1 : plainName "java/lang/String" = true := by first | (simp [plainName, overriddenIn]; done) | decide +kernel
theorem d2_0 : decode jdk_42_method_151_code 0 = .ok (.aload_n 0, 1) := by decide +kernel
theorem d2_1 : decode jdk_42_method_151_code 1 = .ok (.invokespecial 1, 3) := by decide +kernel
theorem d2_4 : decode jdk_42_method_151_code 4 = .ok (.aload_n 0, 1) := by decide +kernel
theorem d2_5 : decode jdk_42_method_151_code 5 = .ok (.aload_n 1, 1) := by decide +kernel
theorem d2_6 : decode jdk_42_method_151_code 6 = .ok (.putfield 9, 3) := by decide +kernel
theorem d2_9 : decode jdk_42_method_151_code 9 = .ok (.aload_n 0, 1) := by decide +kernel
theorem d2_10 : decode jdk_42_method_151_code 10 = .ok (.iload_n 2, 1) := by decide +kernel
theorem d2_11 : decode jdk_42_method_151_code 11 = .ok (.putfield 15, 3) := by decide +kernel
theorem d2_14 : decode jdk_42_method_151_code 14 = .ok (.return_, 1) := by decide +kernel
theorem d3_0 : decode jdk_42_method_139_code 0 = .ok (.getstatic 38, 3) := by decide +kernel
theorem d3_3 : decode jdk_42_method_139_code 3 = .ok (.ifCond .eq 23, 3) := by decide +kernel
theorem d3_6 : decode jdk_42_method_139_code 6 = .ok (.iload_n 0, 1) := by decide +kernel
theorem d3_7 : decode jdk_42_method_139_code 7 = .ok (.invokestatic 1015, 3) := by decide +kernel
theorem pd_2 : parseMethodDescriptor "(C)Z" = some ⟨[.char], some .boolean⟩ := by decide +kernel
theorem d3_10 : decode jdk_42_method_139_code 10 = .ok (.ifCond .eq 16, 3) := by decide +kernel
theorem d3_13 : decode jdk_42_method_139_code 13 = .ok (.new 10, 3) := by decide +kernel
theorem d3_16 : decode jdk_42_method_139_code 16 = .ok (.dup, 1) := by decide +kernel
theorem d3_17 : decode jdk_42_method_139_code 17 = .ok (.iload_n 0, 1) := by decide +kernel
theorem d3_18 : decode jdk_42_method_139_code 18 = .ok (.invokestatic 1018, 3) := by decide +kernel
theorem pd_3 : parseMethodDescriptor "(C)[B" = some ⟨[.char], some (.array .byte)⟩ := by decide +kernel
theorem d3_21 : decode jdk_42_method_139_code 21 = .ok (.iconst 0, 1) := by decide +kernel
theorem d3_22 : decode jdk_42_method_139_code 22 = .ok (.invokespecial 209, 3) := by decide +kernel
theorem pd_4 : parseMethodDescriptor "([BB)V" = some ⟨[(.array .byte), .byte], none⟩ := by decide +kernel
theorem d3_25 : decode jdk_42_method_139_code 25 = .ok (.areturn, 1) := by decide +kernel
theorem pn_5 : plainName "java/util/AbstractCollection" = true := by first | (simp [plainName, overriddenIn]; done) | decide +kernel
theorem d4_0 : decode jdk_22_method_1_code 0 = .ok (.aload_n 0, 1) := by decide +kernel
theorem d4_1 : decode jdk_22_method_1_code 1 = .ok (.invokespecial 1, 3) := by decide +kernel
theorem d4_4 : decode jdk_22_method_1_code 4 = .ok (.return_, 1) := by decide +kernel
theorem pn_6 : plainName "java/util/AbstractList" = true := by first | (simp [plainName, overriddenIn]; done) | decide +kernel
theorem d5_0 : decode jdk_39_method_1_code 0 = .ok (.aload_n 0, 1) := by decide +kernel
theorem d5_1 : decode jdk_39_method_1_code 1 = .ok (.invokespecial 1, 3) := by decide +kernel
theorem pd_7 : parseMethodDescriptor "()V" = some ⟨[], none⟩ := by decide +kernel
theorem d5_4 : decode jdk_39_method_1_code 4 = .ok (.aload_n 0, 1) := by decide +kernel
theorem d5_5 : decode jdk_39_method_1_code 5 = .ok (.iconst 0, 1) := by decide +kernel
theorem d5_6 : decode jdk_39_method_1_code 6 = .ok (.putfield 7, 3) := by decide +kernel
theorem d5_9 : decode jdk_39_method_1_code 9 = .ok (.return_, 1) := by decide +kernel
theorem pn_8 : plainName "java/util/ArrayList" = true := by first | (simp [plainName, overriddenIn]; done) | decide +kernel
theorem d6_0 : decode jdk_38_method_2_code 0 = .ok (.aload_n 0, 1) := by decide +kernel
theorem d6_1 : decode jdk_38_method_2_code 1 = .ok (.invokespecial 1, 3) := by decide +kernel
theorem d6_4 : decode jdk_38_method_2_code 4 = .ok (.aload_n 0, 1) := by decide +kernel
theorem d6_5 : decode jdk_38_method_2_code 5 = .ok (.getstatic 39, 3) := by decide +kernel
theorem d6_8 : decode jdk_38_method_2_code 8 = .ok (.putfield 9, 3) := by decide +kernel
theorem d6_11 : decode jdk_38_method_2_code 11 = .ok (.return_, 1) := by decide +kernel
theorem d7_0 : decode jdk_29_method_65_code 0 = .ok (.iload_n 0, 1) := by decide +kernel
theorem d7_1 : decode jdk_29_method_65_code 1 = .ok (.iload_n 1, 1) := by decide +kernel
theorem d7_2 : decode jdk_29_method_65_code 2 = .ok (.if_icmp .lt 7, 3) := by decide +kernel
theorem d7_5 : decode jdk_29_method_65_code 5 = .ok (.iload_n 0, 1) := by decide +kernel
theorem d7_6 : decode jdk_29_method_65_code 6 = .ok (.goto 4, 3) := by decide +kernel
theorem d7_10 : decode jdk_29_method_65_code 10 = .ok (.ireturn, 1) := by decide +kernel
theorem d8_0 : decode jdk_38_method_6_code 0 = .ok (.aload_n 0, 1) := by decide +kernel
theorem d8_1 : decode jdk_38_method_6_code 1 = .ok (.getfield 9, 3) := by decide +kernel
theorem d8_4 : decode jdk_38_method_6_code 4 = .ok (.arraylength, 1) := by decide +kernel
theorem d8_5 : decode jdk_38_method_6_code 5 = .ok (.istore_n 2, 1) := by decide +kernel
theorem d8_6 : decode jdk_38_method_6_code 6 = .ok (.iload_n 2, 1) := by decide +kernel
theorem d8_7 : decode jdk_38_method_6_code 7 = .ok (.ifCond .gt 13, 3) := by decide +kernel
theorem d8_10 : decode jdk_38_method_6_code 10 = .ok (.aload_n 0, 1) := by decide +kernel
theorem d8_11 : decode jdk_38_method_6_code 11 = .ok (.getfield 9, 3) := by decide +kernel
theorem d8_14 : decode jdk_38_method_6_code 14 = .ok (.getstatic 39, 3) := by decide +kernel
theorem d8_17 : decode jdk_38_method_6_code 17 = .ok (.if_acmp .eq 28, 3) := by decide +kernel
theorem d8_45 : decode jdk_38_method_6_code 45 = .ok (.aload_n 0, 1) := by decide +kernel
theorem d8_46 : decode jdk_38_method_6_code 46 = .ok (.bipush 10, 2) := by decide +kernel
theorem d8_48 : decode jdk_38_method_6_code 48 = .ok (.iload_n 1, 1) := by decide +kernel
theorem d8_49 : decode jdk_38_method_6_code 49 = .ok (.invokestatic 79, 3) := by decide +kernel
theorem pd_9 : parseMethodDescriptor "(II)I" = some ⟨[.int, .int], some .int⟩ := by decide +kernel
theorem d8_52 : decode jdk_38_method_6_code 52 = .ok (.anewarray 7, 3) := by decide +kernel
theorem d8_55 : decode jdk_38_method_6_code 55 = .ok (.dup_x1, 1) := by decide +kernel
theorem d8_56 : decode jdk_38_method_6_code 56 = .ok (.putfield 9, 3) := by decide +kernel
theorem d8_59 : decode jdk_38_method_6_code 59 = .ok (.areturn, 1) := by decide +kernel
theorem d9_0 : decode jdk_38_method_7_code 0 = .ok (.aload_n 0, 1) := by decide +kernel
theorem d9_1 : decode jdk_38_method_7_code 1 = .ok (.aload_n 0, 1) := by decide +kernel
theorem d9_2 : decode jdk_38_method_7_code 2 = .ok (.getfield 48, 3) := by decide +kernel
theorem d9_5 : decode jdk_38_method_7_code 5 = .ok (.iconst 1, 1) := by decide +kernel
theorem d9_6 : decode jdk_38_method_7_code 6 = .ok (.iadd, 1) := by decide +kernel
theorem d9_7 : decode jdk_38_method_7_code 7 = .ok (.invokevirtual 69, 3) := by decide +kernel
theorem pd_10 : parseMethodDescriptor "(I)[Ljava/lang/Object;" = some ⟨[.int], some (.array (.object "java/lang/Object"))⟩ := by decide +kernel
theorem d9_10 : decode jdk_38_method_7_code 10 = .ok (.areturn, 1) := by decide +kernel
theorem d10_0 : decode jdk_38_method_24_code 0 = .ok (.iload_n 3, 1) := by decide +kernel
theorem d10_1 : decode jdk_38_method_24_code 1 = .ok (.aload_n 2, 1) := by decide +kernel
theorem d10_2 : decode jdk_38_method_24_code 2 = .ok (.arraylength, 1) := by decide +kernel
theorem d10_3 : decode jdk_38_method_24_code 3 = .ok (.if_icmp .ne 8, 3) := by decide +kernel
theorem d10_6 : decode jdk_38_method_24_code 6 = .ok (.aload_n 0, 1) := by decide +kernel
theorem d10_7 : decode jdk_38_method_24_code 7 = .ok (.invokevirtual 129, 3) := by decide +kernel
theorem pd_11 : parseMethodDescriptor "()[Ljava/lang/Object;" = some ⟨[], some (.array (.object "java/lang/Object"))⟩ := by decide +kernel
theorem d10_10 : decode jdk_38_method_24_code 10 = .ok (.astore_n 2, 1) := by decide +kernel
theorem d10_11 : decode jdk_38_method_24_code 11 = .ok (.aload_n 2, 1) := by decide +kernel
theorem d10_12 : decode jdk_38_method_24_code 12 = .ok (.iload_n 3, 1) := by decide +kernel
theorem d10_13 : decode jdk_38_method_24_code 13 = .ok (.aload_n 1, 1) := by decide +kernel
theorem d10_14 : decode jdk_38_method_24_code 14 = .ok (.aastore, 1) := by decide +kernel
theorem d10_15 : decode jdk_38_method_24_code 15 = .ok (.aload_n 0, 1) := by decide +kernel
theorem d10_16 : decode jdk_38_method_24_code 16 = .ok (.iload_n 3, 1) := by decide +kernel
theorem d10_17 : decode jdk_38_method_24_code 17 = .ok (.iconst 1, 1) := by decide +kernel
theorem d10_18 : decode jdk_38_method_24_code 18 = .ok (.iadd, 1) := by decide +kernel
theorem d10_19 : decode jdk_38_method_24_code 19 = .ok (.putfield 48, 3) := by decide +kernel
theorem d10_22 : decode jdk_38_method_24_code 22 = .ok (.return_, 1) := by decide +kernel
theorem d11_0 : decode jdk_38_method_25_code 0 = .ok (.aload_n 0, 1) := by decide +kernel
theorem d11_1 : decode jdk_38_method_25_code 1 = .ok (.dup, 1) := by decide +kernel
theorem d11_2 : decode jdk_38_method_25_code 2 = .ok (.getfield 63, 3) := by decide +kernel
theorem d11_5 : decode jdk_38_method_25_code 5 = .ok (.iconst 1, 1) := by decide +kernel
theorem d11_6 : decode jdk_38_method_25_code 6 = .ok (.iadd, 1) := by decide +kernel
theorem d11_7 : decode jdk_38_method_25_code 7 = .ok (.putfield 63, 3) := by decide +kernel
theorem d11_10 : decode jdk_38_method_25_code 10 = .ok (.aload_n 0, 1) := by decide +kernel
theorem d11_11 : decode jdk_38_method_25_code 11 = .ok (.aload_n 1, 1) := by decide +kernel
theorem d11_12 : decode jdk_38_method_25_code 12 = .ok (.aload_n 0, 1) := by decide +kernel
theorem d11_13 : decode jdk_38_method_25_code 13 = .ok (.getfield 9, 3) := by decide +kernel
theorem d11_16 : decode jdk_38_method_25_code 16 = .ok (.aload_n 0, 1) := by decide +kernel
theorem d11_17 : decode jdk_38_method_25_code 17 = .ok (.getfield 48, 3) := by decide +kernel
theorem d11_20 : decode jdk_38_method_25_code 20 = .ok (.invokevirtual 131, 3) := by decide +kernel
theorem pd_12 : parseMethodDescriptor "(Ljava/lang/Object;[Ljava/lang/Object;I)V" = some ⟨[(.object "java/lang/Object"), (.array (.object "java/lang/Object")), .int], none⟩ := by decide +kernel
theorem d11_23 : decode jdk_38_method_25_code 23 = .ok (.iconst 1, 1) := by decide +kernel
theorem d11_24 : decode jdk_38_method_25_code 24 = .ok (.ireturn, 1) := by decide +kernel
theorem pn_13 : plainName "java/lang/Record" = true := by first | (simp [plainName, overriddenIn]; done) | decide +kernel
theorem d12_0 : decode jdk_30_method_1_code 0 = .ok (.aload_n 0, 1) := by decide +kernel
theorem d12_1 : decode jdk_30_method_1_code 1 = .ok (.invokespecial 1, 3) := by decide +kernel
theorem d12_4 : decode jdk_30_method_1_code 4 = .ok (.return_, 1) := by decide +kernel
theorem pn_14 : plainName "com/example/scopa/scopa/schema/Column" = true := by first | (simp [plainName, overriddenIn]; done) | decide +kernel
theorem d13_0 : decode prog_9_method_1_code 0 = .ok (.aload_n 0, 1) := by decide +kernel
theorem d13_1 : decode prog_9_method_1_code 1 = .ok (.invokespecial 1, 3) := by decide +kernel
theorem d13_4 : decode prog_9_method_1_code 4 = .ok (.aload_n 0, 1) := by decide +kernel
theorem d13_5 : decode prog_9_method_1_code 5 = .ok (.aload_n 1, 1) := by decide +kernel
theorem d13_6 : decode prog_9_method_1_code 6 = .ok (.putfield 7, 3) := by decide +kernel
theorem d13_9 : decode prog_9_method_1_code 9 = .ok (.aload_n 0, 1) := by decide +kernel
theorem d13_10 : decode prog_9_method_1_code 10 = .ok (.aload_n 2, 1) := by decide +kernel
theorem d13_11 : decode prog_9_method_1_code 11 = .ok (.putfield 13, 3) := by decide +kernel
theorem d13_14 : decode prog_9_method_1_code 14 = .ok (.aload_n 0, 1) := by decide +kernel
theorem d13_15 : decode prog_9_method_1_code 15 = .ok (.aload_n 3, 1) := by decide +kernel
theorem d13_16 : decode prog_9_method_1_code 16 = .ok (.putfield 16, 3) := by decide +kernel
theorem d13_19 : decode prog_9_method_1_code 19 = .ok (.return_, 1) := by decide +kernel
theorem pn_15 : plainName "java/util/Objects" = true := by first | (simp [plainName, overriddenIn]; done) | decide +kernel
theorem d14_0 : decode jdk_31_method_10_code 0 = .ok (.aload_n 0, 1) := by decide +kernel
theorem d14_1 : decode jdk_31_method_10_code 1 = .ok (.ifnonnull 11, 3) := by decide +kernel
theorem d14_12 : decode jdk_31_method_10_code 12 = .ok (.aload_n 0, 1) := by decide +kernel
theorem d14_13 : decode jdk_31_method_10_code 13 = .ok (.areturn, 1) := by decide +kernel
theorem pn_16 : plainName "java/util/ImmutableCollections$AbstractImmutableCollection" = true := by first | (simp [plainName, overriddenIn]; done) | decide +kernel
theorem d15_0 : decode jdk_47_method_1_code 0 = .ok (.aload_n 0, 1) := by decide +kernel
theorem d15_1 : decode jdk_47_method_1_code 1 = .ok (.invokespecial 1, 3) := by decide +kernel
theorem d15_4 : decode jdk_47_method_1_code 4 = .ok (.return_, 1) := by decide +kernel
theorem pn_17 : plainName "java/util/ImmutableCollections$AbstractImmutableList" = true := by first | (simp [plainName, overriddenIn]; done) | decide +kernel
theorem d16_0 : decode jdk_46_method_1_code 0 = .ok (.aload_n 0, 1) := by decide +kernel
theorem d16_1 : decode jdk_46_method_1_code 1 = .ok (.invokespecial 1, 3) := by decide +kernel
theorem d16_4 : decode jdk_46_method_1_code 4 = .ok (.return_, 1) := by decide +kernel
theorem pn_18 : plainName "java/util/ImmutableCollections$List12" = true := by first | (simp [plainName, overriddenIn]; done) | decide +kernel
theorem d17_0 : decode jdk_44_method_2_code 0 = .ok (.aload_n 0, 1) := by decide +kernel
theorem d17_1 : decode jdk_44_method_2_code 1 = .ok (.invokespecial 1, 3) := by decide +kernel
theorem d17_4 : decode jdk_44_method_2_code 4 = .ok (.aload_n 0, 1) := by decide +kernel
theorem d17_5 : decode jdk_44_method_2_code 5 = .ok (.aload_n 1, 1) := by decide +kernel
theorem d17_6 : decode jdk_44_method_2_code 6 = .ok (.invokestatic 7, 3) := by decide +kernel
theorem pd_19 : parseMethodDescriptor "(Ljava/lang/Object;)Ljava/lang/Object;" = some ⟨[(.object "java/lang/Object")], some (.object "java/lang/Object")⟩ := by decide +kernel
theorem d17_9 : decode jdk_44_method_2_code 9 = .ok (.putfield 13, 3) := by decide +kernel
theorem d17_12 : decode jdk_44_method_2_code 12 = .ok (.aload_n 0, 1) := by decide +kernel
theorem d17_13 : decode jdk_44_method_2_code 13 = .ok (.aload_n 2, 1) := by decide +kernel
theorem d17_14 : decode jdk_44_method_2_code 14 = .ok (.invokestatic 7, 3) := by decide +kernel
theorem d17_17 : decode jdk_44_method_2_code 17 = .ok (.putfield 24, 3) := by decide +kernel
theorem d17_20 : decode jdk_44_method_2_code 20 = .ok (.return_, 1) := by decide +kernel
theorem d18_0 : decode jdk_44_method_1_code 0 = .ok (.aload_n 0, 1) := by decide +kernel
theorem d18_1 : decode jdk_44_method_1_code 1 = .ok (.invokespecial 1, 3) := by decide +kernel
theorem d18_4 : decode jdk_44_method_1_code 4 = .ok (.aload_n 0, 1) := by decide +kernel
theorem d18_5 : decode jdk_44_method_1_code 5 = .ok (.aload_n 1, 1) := by decide +kernel
theorem d18_6 : decode jdk_44_method_1_code 6 = .ok (.invokestatic 7, 3) := by decide +kernel
theorem d18_9 : decode jdk_44_method_1_code 9 = .ok (.putfield 13, 3) := by decide +kernel
theorem d18_12 : decode jdk_44_method_1_code 12 = .ok (.aload_n 0, 1) := by decide +kernel
theorem d18_13 : decode jdk_44_method_1_code 13 = .ok (.getstatic 19, 3) := by decide +kernel
theorem d18_16 : decode jdk_44_method_1_code 16 = .ok (.putfield 24, 3) := by decide +kernel
theorem d18_19 : decode jdk_44_method_1_code 19 = .ok (.return_, 1) := by decide +kernel
theorem pn_20 : plainName "java/util/ImmutableCollections$ListN" = true := by first | (simp [plainName, overriddenIn]; done) | decide +kernel
theorem d19_0 : decode jdk_45_method_1_code 0 = .ok (.aload_n 0, 1) := by decide +kernel
theorem d19_1 : decode jdk_45_method_1_code 1 = .ok (.invokespecial 1, 3) := by decide +kernel
theorem d19_4 : decode jdk_45_method_1_code 4 = .ok (.aload_n 0, 1) := by decide +kernel
theorem d19_5 : decode jdk_45_method_1_code 5 = .ok (.aload_n 1, 1) := by decide +kernel
theorem d19_6 : decode jdk_45_method_1_code 6 = .ok (.putfield 7, 3) := by decide +kernel
theorem d19_9 : decode jdk_45_method_1_code 9 = .ok (.aload_n 0, 1) := by decide +kernel
theorem d19_10 : decode jdk_45_method_1_code 10 = .ok (.iload_n 2, 1) := by decide +kernel
theorem d19_11 : decode jdk_45_method_1_code 11 = .ok (.putfield 13, 3) := by decide +kernel
theorem d19_14 : decode jdk_45_method_1_code 14 = .ok (.return_, 1) := by decide +kernel
theorem d20_0 : decode jdk_38_method_9_code 0 = .ok (.aload_n 0, 1) := by decide +kernel
theorem d20_1 : decode jdk_38_method_9_code 1 = .ok (.getfield 48, 3) := by decide +kernel
theorem d20_4 : decode jdk_38_method_9_code 4 = .ok (.ifCond .ne 7, 3) := by decide +kernel
theorem d20_7 : decode jdk_38_method_9_code 7 = .ok (.iconst 1, 1) := by decide +kernel
theorem d20_8 : decode jdk_38_method_9_code 8 = .ok (.goto 4, 3) := by decide +kernel
theorem d20_12 : decode jdk_38_method_9_code 12 = .ok (.ireturn, 1) := by decide +kernel
theorem pn_21 : plainName "java/util/List" = true := by first | (simp [plainName, overriddenIn]; done) | decide +kernel
theorem d21_0 : decode jdk_40_method_36_code 0 = .ok (.getstatic 90, 3) := by decide +kernel
theorem d21_3 : decode jdk_40_method_36_code 3 = .ok (.areturn, 1) := by decide +kernel
theorem pn_22 : plainName "java/util/ImmutableCollections" = true := by first | (simp [plainName, overriddenIn]; done) | decide +kernel
theorem d22_0 : decode jdk_56_method_3_code 0 = .ok (.aload_n 0, 1) := by decide +kernel
theorem d22_1 : decode jdk_56_method_3_code 1 = .ok (.instanceof 10, 3) := by decide +kernel
theorem d22_4 : decode jdk_56_method_3_code 4 = .ok (.ifCond .ne 22, 3) := by decide +kernel
theorem d22_7 : decode jdk_56_method_3_code 7 = .ok (.aload_n 0, 1) := by decide +kernel
theorem d22_8 : decode jdk_56_method_3_code 8 = .ok (.instanceof 12, 3) := by decide +kernel
theorem d22_11 : decode jdk_56_method_3_code 11 = .ok (.ifCond .eq 20, 3) := by decide +kernel
theorem d22_31 : decode jdk_56_method_3_code 31 = .ok (.aload_n 0, 1) := by decide +kernel
theorem d22_32 : decode jdk_56_method_3_code 32 = .ok (.invokeinterface 20 1, 5) := by decide +kernel
theorem pd_23 : parseMethodDescriptor "()Z" = some ⟨[], some .boolean⟩ := by decide +kernel
theorem d22_37 : decode jdk_56_method_3_code 37 = .ok (.ifCond .eq 7, 3) := by decide +kernel
theorem d22_40 : decode jdk_56_method_3_code 40 = .ok (.invokestatic 26, 3) := by decide +kernel
theorem pd_24 : parseMethodDescriptor "()Ljava/util/List;" = some ⟨[], some (.object "java/util/List")⟩ := by decide +kernel
theorem d22_43 : decode jdk_56_method_3_code 43 = .ok (.areturn, 1) := by decide +kernel
theorem d23_0 : decode jdk_40_method_48_code 0 = .ok (.aload_n 0, 1) := by decide +kernel
theorem d23_1 : decode jdk_40_method_48_code 1 = .ok (.invokestatic 112, 3) := by decide +kernel
theorem pd_25 : parseMethodDescriptor "(Ljava/util/Collection;)Ljava/util/List;" = some ⟨[(.object "java/util/Collection")], some (.object "java/util/List")⟩ := by decide +kernel
theorem d23_4 : decode jdk_40_method_48_code 4 = .ok (.areturn, 1) := by decide +kernel
theorem d20_11 : decode jdk_38_method_9_code 11 = .ok (.iconst 0, 1) := by decide +kernel
theorem d24_0 : decode jdk_29_method_69_code 0 = .ok (.iload_n 0, 1) := by decide +kernel
theorem d24_1 : decode jdk_29_method_69_code 1 = .ok (.iload_n 1, 1) := by decide +kernel
theorem d24_2 : decode jdk_29_method_69_code 2 = .ok (.if_icmp .gt 7, 3) := by decide +kernel
theorem d24_9 : decode jdk_29_method_69_code 9 = .ok (.iload_n 1, 1) := by decide +kernel
theorem d24_10 : decode jdk_29_method_69_code 10 = .ok (.ireturn, 1) := by decide +kernel
theorem pn_26 : plainName "java/util/Arrays" = true := by first | (simp [plainName, overriddenIn]; done) | decide +kernel
theorem d25_0 : decode jdk_65_method_120_code 0 = .ok (.aload_n 2, 1) := by decide +kernel
theorem d25_1 : decode jdk_65_method_120_code 1 = .ok (.ldc 110, 2) := by decide +kernel
theorem d25_3 : decode jdk_65_method_120_code 3 = .ok (.if_acmp .ne 10, 3) := by decide +kernel
theorem d25_6 : decode jdk_65_method_120_code 6 = .ok (.iload_n 1, 1) := by decide +kernel
theorem d25_7 : decode jdk_65_method_120_code 7 = .ok (.anewarray 2, 3) := by decide +kernel
theorem d25_10 : decode jdk_65_method_120_code 10 = .ok (.goto 14, 3) := by decide +kernel
theorem d25_24 : decode jdk_65_method_120_code 24 = .ok (.astore_n 3, 1) := by decide +kernel
theorem d25_25 : decode jdk_65_method_120_code 25 = .ok (.aload_n 0, 1) := by decide +kernel
theorem d25_26 : decode jdk_65_method_120_code 26 = .ok (.iconst 0, 1) := by decide +kernel
theorem d25_27 : decode jdk_65_method_120_code 27 = .ok (.aload_n 3, 1) := by decide +kernel
theorem d25_28 : decode jdk_65_method_120_code 28 = .ok (.iconst 0, 1) := by decide +kernel
theorem d25_29 : decode jdk_65_method_120_code 29 = .ok (.aload_n 0, 1) := by decide +kernel
theorem d25_30 : decode jdk_65_method_120_code 30 = .ok (.arraylength, 1) := by decide +kernel
theorem d25_31 : decode jdk_65_method_120_code 31 = .ok (.iload_n 1, 1) := by decide +kernel
theorem d25_32 : decode jdk_65_method_120_code 32 = .ok (.invokestatic 304, 3) := by decide +kernel
theorem d25_35 : decode jdk_65_method_120_code 35 = .ok (.invokestatic 150, 3) := by decide +kernel
theorem d25_38 : decode jdk_65_method_120_code 38 = .ok (.aload_n 3, 1) := by decide +kernel
theorem d25_39 : decode jdk_65_method_120_code 39 = .ok (.areturn, 1) := by decide +kernel
theorem d26_0 : decode jdk_65_method_119_code 0 = .ok (.aload_n 0, 1) := by decide +kernel
theorem d26_1 : decode jdk_65_method_119_code 1 = .ok (.iload_n 1, 1) := by decide +kernel
theorem d26_2 : decode jdk_65_method_119_code 2 = .ok (.aload_n 0, 1) := by decide +kernel
theorem d26_3 : decode jdk_65_method_119_code 3 = .ok (.invokevirtual 86, 3) := by decide +kernel
theorem d26_6 : decode jdk_65_method_119_code 6 = .ok (.invokestatic 300, 3) := by decide +kernel
theorem pd_27 : parseMethodDescriptor "([Ljava/lang/Object;ILjava/lang/Class;)[Ljava/lang/Object;" = some ⟨[(.array (.object "java/lang/Object")), .int, (.object "java/lang/Class")], some (.array (.object "java/lang/Object"))⟩ := by decide +kernel
theorem d26_9 : decode jdk_65_method_119_code 9 = .ok (.areturn, 1) := by decide +kernel
theorem d27_0 : decode jdk_38_method_16_code 0 = .ok (.aload_n 0, 1) := by decide +kernel
theorem d27_1 : decode jdk_38_method_16_code 1 = .ok (.getfield 9, 3) := by decide +kernel
theorem d27_4 : decode jdk_38_method_16_code 4 = .ok (.aload_n 0, 1) := by decide +kernel
theorem d27_5 : decode jdk_38_method_16_code 5 = .ok (.getfield 48, 3) := by decide +kernel
theorem d27_8 : decode jdk_38_method_16_code 8 = .ok (.invokestatic 66, 3) := by decide +kernel
theorem pd_28 : parseMethodDescriptor "([Ljava/lang/Object;I)[Ljava/lang/Object;" = some ⟨[(.array (.object "java/lang/Object")), .int], some (.array (.object "java/lang/Object"))⟩ := by decide +kernel
theorem d27_11 : decode jdk_38_method_16_code 11 = .ok (.areturn, 1) := by decide +kernel
theorem d28_0 : decode jdk_40_method_47_code 0 = .ok (.aload_n 0, 1) := by decide +kernel
theorem d28_1 : decode jdk_40_method_47_code 1 = .ok (.arraylength, 1) := by decide +kernel
theorem d28_2 : decode jdk_40_method_47_code 2 = .ok (.tableswitch 57 0 2 #[26, 32, 43], 26) := by decide +kernel
theorem d28_34 : decode jdk_40_method_47_code 34 = .ok (.new 96, 3) := by decide +kernel
theorem d28_37 : decode jdk_40_method_47_code 37 = .ok (.dup, 1) := by decide +kernel
theorem d28_38 : decode jdk_40_method_47_code 38 = .ok (.aload_n 0, 1) := by decide +kernel
theorem d28_39 : decode jdk_40_method_47_code 39 = .ok (.iconst 0, 1) := by decide +kernel
theorem d28_40 : decode jdk_40_method_47_code 40 = .ok (.aaload, 1) := by decide +kernel
theorem d28_41 : decode jdk_40_method_47_code 41 = .ok (.invokespecial 98, 3) := by decide +kernel
theorem pd_29 : parseMethodDescriptor "(Ljava/lang/Object;)V" = some ⟨[(.object "java/lang/Object")], none⟩ := by decide +kernel
theorem d28_44 : decode jdk_40_method_47_code 44 = .ok (.areturn, 1) := by decide +kernel
theorem d22_44 : decode jdk_56_method_3_code 44 = .ok (.aload_n 0, 1) := by decide +kernel
theorem d22_45 : decode jdk_56_method_3_code 45 = .ok (.invokeinterface 30 1, 5) := by decide +kernel
theorem d22_50 : decode jdk_56_method_3_code 50 = .ok (.invokestatic 34, 3) := by decide +kernel
theorem pd_30 : parseMethodDescriptor "([Ljava/lang/Object;)Ljava/util/List;" = some ⟨[(.array (.object "java/lang/Object"))], some (.object "java/util/List")⟩ := by decide +kernel
theorem d22_53 : decode jdk_56_method_3_code 53 = .ok (.areturn, 1) := by decide +kernel
theorem d28_45 : decode jdk_40_method_47_code 45 = .ok (.new 96, 3) := by decide +kernel
theorem d28_48 : decode jdk_40_method_47_code 48 = .ok (.dup, 1) := by decide +kernel
theorem d28_49 : decode jdk_40_method_47_code 49 = .ok (.aload_n 0, 1) := by decide +kernel
theorem d28_50 : decode jdk_40_method_47_code 50 = .ok (.iconst 0, 1) := by decide +kernel
theorem d28_51 : decode jdk_40_method_47_code 51 = .ok (.aaload, 1) := by decide +kernel
theorem d28_52 : decode jdk_40_method_47_code 52 = .ok (.aload_n 0, 1) := by decide +kernel
theorem d28_53 : decode jdk_40_method_47_code 53 = .ok (.iconst 1, 1) := by decide +kernel
theorem d28_54 : decode jdk_40_method_47_code 54 = .ok (.aaload, 1) := by decide +kernel
theorem d28_55 : decode jdk_40_method_47_code 55 = .ok (.invokespecial 100, 3) := by decide +kernel
theorem pd_31 : parseMethodDescriptor "(Ljava/lang/Object;Ljava/lang/Object;)V" = some ⟨[(.object "java/lang/Object"), (.object "java/lang/Object")], none⟩ := by decide +kernel
theorem d28_58 : decode jdk_40_method_47_code 58 = .ok (.areturn, 1) := by decide +kernel
theorem d29_0 : decode jdk_56_method_4_code 0 = .ok (.aload_n 0, 1) := by decide +kernel
theorem d29_1 : decode jdk_56_method_4_code 1 = .ok (.arraylength, 1) := by decide +kernel
theorem d29_2 : decode jdk_56_method_4_code 2 = .ok (.anewarray 2, 3) := by decide +kernel
theorem d29_5 : decode jdk_56_method_4_code 5 = .ok (.astore_n 1, 1) := by decide +kernel
theorem d29_6 : decode jdk_56_method_4_code 6 = .ok (.iconst 0, 1) := by decide +kernel
theorem d29_7 : decode jdk_56_method_4_code 7 = .ok (.istore_n 2, 1) := by decide +kernel
theorem d29_8 : decode jdk_56_method_4_code 8 = .ok (.iload_n 2, 1) := by decide +kernel
theorem d29_9 : decode jdk_56_method_4_code 9 = .ok (.aload_n 0, 1) := by decide +kernel
theorem d29_10 : decode jdk_56_method_4_code 10 = .ok (.arraylength, 1) := by decide +kernel
theorem d29_11 : decode jdk_56_method_4_code 11 = .ok (.if_icmp .ge 18, 3) := by decide +kernel
theorem d29_14 : decode jdk_56_method_4_code 14 = .ok (.aload_n 1, 1) := by decide +kernel
theorem d29_15 : decode jdk_56_method_4_code 15 = .ok (.iload_n 2, 1) := by decide +kernel
theorem d29_16 : decode jdk_56_method_4_code 16 = .ok (.aload_n 0, 1) := by decide +kernel
theorem d29_17 : decode jdk_56_method_4_code 17 = .ok (.iload_n 2, 1) := by decide +kernel
theorem d29_18 : decode jdk_56_method_4_code 18 = .ok (.aaload, 1) := by decide +kernel
theorem d29_19 : decode jdk_56_method_4_code 19 = .ok (.invokestatic 37, 3) := by decide +kernel
theorem d29_22 : decode jdk_56_method_4_code 22 = .ok (.aastore, 1) := by decide +kernel
theorem d29_23 : decode jdk_56_method_4_code 23 = .ok (.iinc 2 1, 3) := by decide +kernel
theorem d29_26 : decode jdk_56_method_4_code 26 = .ok (.goto (-18), 3) := by decide +kernel
theorem d29_29 : decode jdk_56_method_4_code 29 = .ok (.new 12, 3) := by decide +kernel
theorem d29_32 : decode jdk_56_method_4_code 32 = .ok (.dup, 1) := by decide +kernel
theorem d29_33 : decode jdk_56_method_4_code 33 = .ok (.aload_n 1, 1) := by decide +kernel
theorem d29_34 : decode jdk_56_method_4_code 34 = .ok (.iconst 0, 1) := by decide +kernel
theorem d29_35 : decode jdk_56_method_4_code 35 = .ok (.invokespecial 43, 3) := by decide +kernel
theorem pd_32 : parseMethodDescriptor "([Ljava/lang/Object;Z)V" = some ⟨[(.array (.object "java/lang/Object")), .boolean], none⟩ := by decide +kernel
theorem d29_38 : decode jdk_56_method_4_code 38 = .ok (.areturn, 1) := by decide +kernel
theorem d28_59 : decode jdk_40_method_47_code 59 = .ok (.aload_n 0, 1) := by decide +kernel
theorem d28_60 : decode jdk_40_method_47_code 60 = .ok (.invokestatic 109, 3) := by decide +kernel
theorem d28_63 : decode jdk_40_method_47_code 63 = .ok (.areturn, 1) := by decide +kernel
theorem pn_33 : plainName "com/example/scopa/scopa/schema/TableHasPrimaryKeyPinLaw" = true := by first | (simp [plainName, overriddenIn]; done) | decide +kernel
theorem d30_0 : decode method_3_code 0 = .ok (.new 37, 3) := by decide +kernel
theorem d30_3 : decode method_3_code 3 = .ok (.dup, 1) := by decide +kernel
theorem d30_4 : decode method_3_code 4 = .ok (.invokespecial 39, 3) := by decide +kernel
theorem d30_7 : decode method_3_code 7 = .ok (.astore_n 3, 1) := by decide +kernel
theorem d30_8 : decode method_3_code 8 = .ok (.iload_n 2, 1) := by decide +kernel
theorem d30_9 : decode method_3_code 9 = .ok (.iconst 1, 1) := by decide +kernel
theorem d30_10 : decode method_3_code 10 = .ok (.if_icmp .lt 9, 3) := by decide +kernel
theorem d30_19 : decode method_3_code 19 = .ok (.iload_n 2, 1) := by decide +kernel
theorem d30_20 : decode method_3_code 20 = .ok (.iconst 2, 1) := by decide +kernel
theorem d30_21 : decode method_3_code 21 = .ok (.if_icmp .lt 9, 3) := by decide +kernel
theorem d30_30 : decode method_3_code 30 = .ok (.iload_n 2, 1) := by decide +kernel
theorem d30_31 : decode method_3_code 31 = .ok (.iconst 3, 1) := by decide +kernel
theorem d30_32 : decode method_3_code 32 = .ok (.if_icmp .lt 9, 3) := by decide +kernel
theorem d30_41 : decode method_3_code 41 = .ok (.aload_n 3, 1) := by decide +kernel
theorem d30_42 : decode method_3_code 42 = .ok (.areturn, 1) := by decide +kernel
theorem d30_13 : decode method_3_code 13 = .ok (.aload_n 3, 1) := by decide +kernel
theorem d30_14 : decode method_3_code 14 = .ok (.aload_n 0, 1) := by decide +kernel
theorem d30_15 : decode method_3_code 15 = .ok (.invokevirtual 40, 3) := by decide +kernel
theorem pd_34 : parseMethodDescriptor "(Ljava/lang/Object;)Z" = some ⟨[(.object "java/lang/Object")], some .boolean⟩ := by decide +kernel
theorem d30_18 : decode method_3_code 18 = .ok (.pop, 1) := by decide +kernel
theorem d30_24 : decode method_3_code 24 = .ok (.aload_n 3, 1) := by decide +kernel
theorem d30_25 : decode method_3_code 25 = .ok (.aload_n 1, 1) := by decide +kernel
theorem d30_26 : decode method_3_code 26 = .ok (.invokevirtual 40, 3) := by decide +kernel
theorem d30_29 : decode method_3_code 29 = .ok (.pop, 1) := by decide +kernel
theorem d30_35 : decode method_3_code 35 = .ok (.aload_n 3, 1) := by decide +kernel
theorem d30_36 : decode method_3_code 36 = .ok (.aload_n 0, 1) := by decide +kernel
theorem d30_37 : decode method_3_code 37 = .ok (.invokevirtual 40, 3) := by decide +kernel
theorem d30_40 : decode method_3_code 40 = .ok (.pop, 1) := by decide +kernel
theorem pn_35 : plainName "com/example/scopa/scopa/schema/Table" = true := by first | (simp [plainName, overriddenIn]; done) | decide +kernel
theorem d31_0 : decode prog_14_method_1_code 0 = .ok (.aload_n 0, 1) := by decide +kernel
theorem d31_1 : decode prog_14_method_1_code 1 = .ok (.invokespecial 1, 3) := by decide +kernel
theorem d31_4 : decode prog_14_method_1_code 4 = .ok (.aload_n 3, 1) := by decide +kernel
theorem d31_5 : decode prog_14_method_1_code 5 = .ok (.invokestatic 7, 3) := by decide +kernel
theorem d31_8 : decode prog_14_method_1_code 8 = .ok (.astore_n 3, 1) := by decide +kernel
theorem d31_9 : decode prog_14_method_1_code 9 = .ok (.aload 4, 2) := by decide +kernel
theorem d31_11 : decode prog_14_method_1_code 11 = .ok (.invokestatic 7, 3) := by decide +kernel
theorem d31_14 : decode prog_14_method_1_code 14 = .ok (.astore 4, 2) := by decide +kernel
theorem d31_16 : decode prog_14_method_1_code 16 = .ok (.aload_n 0, 1) := by decide +kernel
theorem d31_17 : decode prog_14_method_1_code 17 = .ok (.aload_n 1, 1) := by decide +kernel
theorem d31_18 : decode prog_14_method_1_code 18 = .ok (.putfield 13, 3) := by decide +kernel
theorem d31_21 : decode prog_14_method_1_code 21 = .ok (.aload_n 0, 1) := by decide +kernel
theorem d31_22 : decode prog_14_method_1_code 22 = .ok (.aload_n 2, 1) := by decide +kernel
theorem d31_23 : decode prog_14_method_1_code 23 = .ok (.putfield 19, 3) := by decide +kernel
theorem d31_26 : decode prog_14_method_1_code 26 = .ok (.aload_n 0, 1) := by decide +kernel
theorem d31_27 : decode prog_14_method_1_code 27 = .ok (.aload_n 3, 1) := by decide +kernel
theorem d31_28 : decode prog_14_method_1_code 28 = .ok (.putfield 22, 3) := by decide +kernel
theorem d31_31 : decode prog_14_method_1_code 31 = .ok (.aload_n 0, 1) := by decide +kernel
theorem d31_32 : decode prog_14_method_1_code 32 = .ok (.aload 4, 2) := by decide +kernel
theorem d31_34 : decode prog_14_method_1_code 34 = .ok (.putfield 26, 3) := by decide +kernel
theorem d31_37 : decode prog_14_method_1_code 37 = .ok (.return_, 1) := by decide +kernel
theorem d32_0 : decode jdk_44_method_4_code 0 = .ok (.iconst 0, 1) := by decide +kernel
theorem d32_1 : decode jdk_44_method_4_code 1 = .ok (.ireturn, 1) := by decide +kernel
theorem d33_0 : decode jdk_45_method_2_code 0 = .ok (.aload_n 0, 1) := by decide +kernel
theorem d33_1 : decode jdk_45_method_2_code 1 = .ok (.getfield 7, 3) := by decide +kernel
theorem d33_4 : decode jdk_45_method_2_code 4 = .ok (.arraylength, 1) := by decide +kernel
theorem d33_5 : decode jdk_45_method_2_code 5 = .ok (.ifCond .ne 7, 3) := by decide +kernel
theorem d33_8 : decode jdk_45_method_2_code 8 = .ok (.iconst 1, 1) := by decide +kernel
theorem d33_9 : decode jdk_45_method_2_code 9 = .ok (.goto 4, 3) := by decide +kernel
theorem d33_13 : decode jdk_45_method_2_code 13 = .ok (.ireturn, 1) := by decide +kernel
theorem d33_12 : decode jdk_45_method_2_code 12 = .ok (.iconst 0, 1) := by decide +kernel
theorem d34_0 : decode prog_14_method_5_code 0 = .ok (.aload_n 0, 1) := by decide +kernel
theorem d34_1 : decode prog_14_method_5_code 1 = .ok (.getfield 26, 3) := by decide +kernel
theorem d34_4 : decode prog_14_method_5_code 4 = .ok (.invokeinterface 76 1, 5) := by decide +kernel
theorem d34_9 : decode prog_14_method_5_code 9 = .ok (.ifCond .ne 7, 3) := by decide +kernel
theorem d34_16 : decode prog_14_method_5_code 16 = .ok (.iconst 0, 1) := by decide +kernel
theorem d34_17 : decode prog_14_method_5_code 17 = .ok (.ireturn, 1) := by decide +kernel
theorem d34_12 : decode prog_14_method_5_code 12 = .ok (.iconst 1, 1) := by decide +kernel
theorem d34_13 : decode prog_14_method_5_code 13 = .ok (.goto 4, 3) := by decide +kernel
theorem pd_36 : parseMethodDescriptor "(C)Ljava/lang/String;" = some ⟨[.char], some (.object "java/lang/String")⟩ := by decide +kernel
theorem pd_37 : parseMethodDescriptor "(Ljava/lang/String;Ljava/lang/String;Ljava/lang/String;)V" = some ⟨[(.object "java/lang/String"), (.object "java/lang/String"), (.object "java/lang/String")], none⟩ := by decide +kernel
theorem pd_38 : parseMethodDescriptor "(Lcom/example/scopa/scopa/schema/Column;Lcom/example/scopa/scopa/schema/Column;I)Ljava/util/ArrayList;" = some ⟨[(.object "com/example/scopa/scopa/schema/Column"), (.object "com/example/scopa/scopa/schema/Column"), .int], some (.object "java/util/ArrayList")⟩ := by decide +kernel
theorem pd_39 : parseMethodDescriptor "(Ljava/lang/String;Ljava/lang/String;Ljava/util/List;Ljava/util/List;)V" = some ⟨[(.object "java/lang/String"), (.object "java/lang/String"), (.object "java/util/List"), (.object "java/util/List")], none⟩ := by decide +kernel
def own_EL : List (String × Nat) := []
theorem own_EW {Z : State} {a0 : Array Value} (hw : ∀ d ∈ tables_1, d.before a0 Z = true) : EW Z a0 own_EL := EW.nil
theorem own_SA0 : ∀ d ∈ Jvm.Bundle.stringAtoms, d ∈ tables_1 := by decide +kernel
theorem own_SA {Z : State} {a0 : Array Value} (hw : ∀ d ∈ tables_1, d.before a0 Z = true) : ∀ d ∈ Jvm.Bundle.stringAtoms, d.before a0 Z = true := fun d hd => hw d (own_SA0 d hd)
theorem own_nsroot {Z : State} {a0 : Array Value} {O K : String} {n : Nat} (w : (Jvm.Cond.noSuperclass O).before a0 Z = true) (wk : (Jvm.Cond.instantiable K n).before a0 Z = true) (hn : O ≠ K) : NS Z O K := by
  obtain ⟨c, k, h1, h2, h3, -, -⟩ := Cond.noSuperclass_spec w
  obtain ⟨t, kt, g1, -⟩ := Cond.instantiable_spec wk
  have ne := ids_ne h1 g1 hn
  refine ⟨c, t, h1, g1, fun fuel => ?_⟩
  cases fuel with
  | zero => rfl
  | succ f => simp [Vm.isSubclassAux, ne, h2, h3]
theorem own_nsno {Z : State} {a0 : Array Value} {C S K : String} {n : Nat} (w : (Jvm.Cond.superclass C S).before a0 Z = true) (wk : (Jvm.Cond.instantiable K n).before a0 Z = true) (ns : NS Z C K) (hn : C ≠ K) : ∃ c t, Z.vm.findClass C = some c ∧ Z.vm.findClass K = some t ∧ Z.vm.assignable c t = false := by
  obtain ⟨c, t, h0, g0, n3⟩ := ns
  obtain ⟨p, k, kp, h1, h2, h3, h4, h5, -, h7⟩ := Cond.superclass_spec h0 w
  obtain ⟨t', kt, g1, g2, g3, g4, -⟩ := Cond.instantiable_spec wk
  cases g0.symm.trans g1
  have g5 : kt.isInterface = false := by
    cases hq : kt.isInterface with
    | false => rfl
    | true => rw [hq] at g4; simp at g4
  have ne := ids_ne h0 g0 hn
  refine ⟨c, t, h0, g0, ?_⟩
  show Z.vm.assignableAux (255 + 1) c t = false
  simp [Vm.assignableAux, ne, h2, g2, h5, g3, g5, Vm.isSubclass, n3]
theorem own_len {args : Array Value} {Z : State} {t : Term} {a : Addr} {cl : Cell} {ty : FieldType} {z : Int32} (ht : t.eval args Z none [] Z = some (.ref a)) (A : Arr Z Z.heap a cl ty) (e : (Term.length t).eval args Z none [] Z = some (.int z)) : cl.slots.size < 2 ^ 31 ∧ cl.slots.size.toInt32 = z := by
  have hA := A.fin (Vm.Alike.refl _)
  by_cases hn : cl.slots.size < 2 ^ 31
  · exact ⟨hn, Value.int.inj (Option.some.inj ((len_f ht hA hn).symm.trans e))⟩
  · exfalso
    simp [Term.eval, ht, hA, hn] at e
theorem own_idx {args : Array Value} {Z : State} {j : Int32} (hj : ¬ j < 0) : (Term.sub (.index 0) (.int 128)).eval args Z none [j.toNatClampNeg] Z = some (.int (j - 128)) := by
  have e := idx_at (args := args) (first := Z) (s := Z) (o := none) hj
  simp only [Term.eval] at e ⊢
  simp [e, (back32 hj).1]
theorem own_nb (x : Int32) : nar .byte x.toInt8.toInt32 = x.toInt8.toInt32 := by simp [nar]
theorem own_ch (x : Int32) : ¬ (255 : Int32) < (x &&& 255).toUInt32.toUInt16.toUInt32.toInt32 ∧ ¬ (x &&& 255).toUInt32.toUInt16.toUInt32.toInt32 < 0 := by
  have e1 : (255 : Int32).toInt = 255 := by decide
  have e2 : (0 : Int32).toInt = 0 := by decide
  have q := c_and x 255 (by decide)
  rw [i2c_mask]
  simp only [Int32.lt_iff_toInt_lt, e1, e2] at *
  omega
theorem own_nc (x : Int32) : nar .char x.toUInt32.toUInt16.toUInt32.toInt32 = x.toUInt32.toUInt16.toUInt32.toInt32 := by simp only [nar, UInt32.toUInt32_toInt32, UInt16.toUInt16_toUInt32]
def OvO (Z : State) (k : ClassId) : Prop := Ovr Z k "java/lang/Object" ∧ Z.vm.findClass "[Ljava/lang/Object;" = some k
def Mid (Z : State) (C : String) (mr : Addr) : Prop := ∃ (c : ClassId) (k : Class), Z.vm.findClass C = some c ∧ Z.vm.classes[c]? = some k ∧ k.mirror = some mr
theorem own_oexa {Z : State} {h : Heap} {b : Addr} {k : ClassId} {z : Int32} {vs : List Value} {d : Value} (V : Arv Z h b k (.object "java/lang/Object") z vs d) (O : OvO Z k) : Exa Z h b "[Ljava/lang/Object;" := by
  obtain ⟨cl, A, q, -⟩ := V
  obtain ⟨⟨kk, comp, o1, o2, -⟩, o4⟩ := O
  exact ⟨cl, kk, A.1, by rw [q]; exact o4, by rw [q]; exact o1, A.plain, fun h => by rw [o2] at h; cases h⟩
section OwnMir
variable {p : Program} {l : Launch} {e : Env} {R : Room} {s : State} {m : MethodId} {args : Array Value} {below : List Frame} {meth : Method} {c : Code} {T : State} {locs : List Loc} {cells slots : Nat} {Z : State} {a0 : Array Value} {h : Heap}
theorem own_newR (X : Stand p l e R s m args below meth c T locs cells slots) (hx : p.tables.exec = Jvm.exec) (hZ : Z.Warmed39 s.vm) {own : String} {index : Nat} (hown : s.vm.findClass own = some m.cls) (w1 : (Cond.classLink own index "java/lang/Object").before a0 Z = true) (w2 : (Cond.arrayOver (.object "java/lang/Object")).before a0 Z = true)
    (eT : T.heap = h) {g : JFrame} (hg : g.method = m) (hd : decode c.code g.pc = .ok (.anewarray index, 3)) {n : Int32} {rest : List Value} (hs : g.stack = .int n :: rest) (hn : ¬ n < 0) {cap : Nat} (hcap : n.toNatClampNeg ≤ cap) (hb : cap * 8 ≤ 536870912) (hc : cells + 1 ≤ R.cells) (hl : slots + cap ≤ R.slots) :
    ∃ T' h' cA, Stand p l e R s m args below meth c T' locs (cells + 1) (slots + cap) ∧ T'.heap = h' ∧ Ext h h' ∧ Arr Z h' h.size (newA cA (.object "java/lang/Object") n) (.object "java/lang/Object") ∧ OvO Z cA ∧
      ∀ target, Steps p.tables e below (T'.setTop { g with pc := g.pc + 3, stack := .ref h.size :: rest }) target → Steps p.tables e below (T.setTop g) target := by
  obtain ⟨v1, cA, kA, comp, -, h1, h2, h3, h4, X', st⟩ := X.anewarrayRefK hx hown (mv hZ w1) (Cond.arrayOver_alike hZ.alike w2) hg hd hs hn (by omega) hc (by omega)
  subst eT
  rw [hZ.alike.findClass] at h1 h4
  obtain ⟨kZ, z1, -⟩ := Vm.findClass_spec h1
  obtain ⟨k', z2, z3⟩ := hZ.alike.2.2 _ _ z1
  cases h2.symm.trans z2
  have hk : kZ.kind = .array comp (.object "java/lang/Object") := by rw [← h3, z3]
  have hE : Ext T.heap (T.heap.push { cls := cA, slots := Array.replicate n.toNatClampNeg .null, vm := .none }) := ⟨by simp, fun a x q => by
    have hlt := (Array.getElem?_eq_some_iff.mp q).1
    rw [Array.getElem?_push_lt hlt, ← Array.getElem?_eq_getElem hlt]; exact q⟩
  refine ⟨_, _, cA, X'.more (Nat.le_refl _) (by omega), rfl, hE, ⟨?_, ⟨by simp [newA], kZ, z1, comp, hk⟩, by simp [newA]⟩, ⟨⟨kZ, comp, z1, hk, h4⟩, h1⟩, st⟩
  show (T.heap.push _)[T.heap.size]? = _
  simp [newA, defaultValue]
theorem own_gcls (X : Stand p l e R s m args below meth c T locs cells slots) (hx : p.tables.exec = Jvm.exec) (hZ : Z.Warmed39 s.vm) {own C : String} {index : Nat} (hown : s.vm.findClass own = some m.cls)
    (w1 : (Cond.methodLink own index ⟨"java/lang/Object", "getClass", "()Ljava/lang/Class;"⟩).before a0 Z = true) (w2 : (Cond.declares ⟨"java/lang/Object", "getClass", "()Ljava/lang/Class;"⟩).before a0 Z = true) (w3 : (Cond.noSuperclass "java/lang/Object").before a0 Z = true) (w4 : (Cond.selects C ⟨"java/lang/Object", "getClass", "()Ljava/lang/Class;"⟩ ⟨"java/lang/Object", "getClass", "()Ljava/lang/Class;"⟩).before a0 Z = true)
    (w5 : (Cond.instanceMethod ⟨"java/lang/Object", "getClass", "()Ljava/lang/Class;"⟩).before a0 Z = true) (w6 : (Cond.native ⟨"java/lang/Object", "getClass", "()Ljava/lang/Class;"⟩).before a0 Z = true) (eT : T.heap = h) {a : Addr} (E : Exa Z h a C) {mr : Addr} (M : Mid Z C mr)
    {g : JFrame} (hg : g.method = m) (hsize : g.locals.size = c.maxLocals) {rest : List Value} (hs : g.stack = .ref a :: rest) (hd : decode c.code g.pc = .ok (.invokevirtual index, 3)) (hf : 1 ≤ R.frames) {W : Nat} (hW : 2 * g.monitorRoom + (rest.map fun v => v.category).sum ≤ W) (hl : W + (nativeFrameWords "java/lang/Object" "getClass" 1 + 11) ≤ R.locals) :
    ∃ T', Stand p l e R s m args below meth c T' locs cells slots ∧ T'.heap = h ∧ ∀ target, Steps p.tables e below (T'.setTop { g with pc := g.pc + 3, stack := .ref mr :: rest }) target → Steps p.tables e below (T.setTop g) target := by
  obtain ⟨cc, kc, m1, m2, m3⟩ := M
  obtain ⟨cB, kB, i1, -, i3⟩ := isOf hZ eT E
  have i2 := i1
  rw [hZ.alike.findClass] at i2
  cases i2.symm.trans m1
  obtain ⟨k', q, ek⟩ := hZ.alike.2.2 _ _ m2
  obtain ⟨vm', X', st⟩ := X.getClassOf hx hown (mvT hZ w1) (mvT hZ w2) (nf_top (args := #[]) (mvT hZ w3)) (mvT hZ w4) (mvT hZ w5) (mvT hZ w6) i1 i3 q (by rw [ek]; exact m3) hg hsize hs hd hf (by omega)
  exact ⟨_, X', eT, st⟩
theorem own_ldcc (X : Stand p l e R s m args below meth c T locs cells slots) (hx : p.tables.exec = Jvm.exec) (hZ : Z.Warmed39 s.vm) {own C : String} {index : Nat} (hown : s.vm.findClass own = some m.cls) (w : (Cond.classLink own index C).before a0 Z = true) (eT : T.heap = h) {mr : Addr} (M : Mid Z C mr)
    {g : JFrame} (hg : g.method = m) (hd : decode c.code g.pc = .ok (.ldc index, 2)) : ∃ T', Stand p l e R s m args below meth c T' locs cells slots ∧ T'.heap = h ∧ ∀ target, Steps p.tables e below (T'.setTop { g with pc := g.pc + 2, stack := .ref mr :: g.stack }) target → Steps p.tables e below (T.setTop g) target := by
  obtain ⟨cc, kc, m1, m2, m3⟩ := M
  obtain ⟨k', q, ek⟩ := hZ.alike.2.2 _ _ m2
  have hm : k'.mirror = some mr := by rw [ek]; exact m3
  have hev : (Term.mirror C).eval args s none [] s = some (.ref mr) := by simp [Term.eval, hZ.alike.findClass, m1, q, hm]
  obtain ⟨vm', X', st⟩ := X.ldcMirror hx hown (mv hZ w) hev hg hd
  exact ⟨_, X', eT, st⟩
theorem own_tsIn (X : Stand p l e R s m args below meth c T locs cells slots) (hx : p.tables.exec = Jvm.exec) {g : JFrame} (hg : g.method = m) {k : Int32} {rest : List Value} (hs : g.stack = .int k :: rest) {default low high : Int} {offsets : Array Int} {len : Nat} (hd : decode c.code g.pc = .ok (.tableswitch default low high offsets, len))
    (hin : ¬ (k.toInt < low ∨ k.toInt > high)) {off : Int} (ho : offsets[(k.toInt - low).toNat]? = some off) {pc0 : Nat} (h0 : g.pc = pc0) {pc' : Nat} (hp : (pc0 : Int) + off = pc') (target : State) (hr : Steps p.tables e below (T.setTop { g with pc := pc', stack := rest }) target) : Steps p.tables e below (T.setTop g) target := by
  refine X.tableswitchIn hx hg hs hd hin ho (by rw [h0, hp]; exact Int.natCast_nonneg _) target ?_
  rw [h0, hp]; exact hr
theorem own_tsOut (X : Stand p l e R s m args below meth c T locs cells slots) (hx : p.tables.exec = Jvm.exec) {g : JFrame} (hg : g.method = m) {k : Int32} {rest : List Value} (hs : g.stack = .int k :: rest) {default low high : Int} {offsets : Array Int} {len : Nat} (hd : decode c.code g.pc = .ok (.tableswitch default low high offsets, len))
    (hout : k.toInt < low ∨ k.toInt > high) {pc0 : Nat} (h0 : g.pc = pc0) {pc' : Nat} (hp : (pc0 : Int) + default = pc') (target : State) (hr : Steps p.tables e below (T.setTop { g with pc := pc', stack := rest }) target) : Steps p.tables e below (T.setTop g) target := by
  refine X.tableswitchOut hx hg hs hd hout (by rw [h0, hp]; exact Int.natCast_nonneg _) target ?_
  rw [h0, hp]; exact hr
end OwnMir
theorem own_chr0 {Z : State} {vm vm1 : Vm} {h h' : Heap} (hl : h.size ≤ h'.size) : CHr Z own_EL vm h vm1 h' := ⟨fun _ hp => absurd hp List.not_mem_nil, hl, fun _ ⟨_, hp, _⟩ => absurd hp List.not_mem_nil⟩
theorem own_q4 (x : Int32) : x &&& 3 = 0 ∨ x &&& 3 = 1 ∨ x &&& 3 = 2 ∨ x &&& 3 = 3 := by
  have q := c_and x 3 (by decide)
  have e0 : (0 : Int32).toInt = 0 := by decide
  have e1 : (1 : Int32).toInt = 1 := by decide
  have e2 : (2 : Int32).toInt = 2 := by decide
  have e3 : (3 : Int32).toInt = 3 := by decide
  rw [e3] at q
  simp only [← Int32.toInt_inj, e0, e1, e2, e3]
  omega
set_option maxRecDepth 65536 in
set_option maxHeartbeats 40000000 in
theorem rm_can {l : Launch} {Z : State} {a0 : Array Value} (hw : ∀ d ∈ tables_1, d.before a0 Z = true) (y : Int32) (h0 : Heap) (l0 : ¬ (255 : Int32) < y) :
    Con l (⟨"java/lang/StringLatin1", "canEncode", "(C)Z"⟩ : MethodName) jdk_43_method_3_code 1 (some .boolean) ({ frames := 0, cells := 0, slots := 0, locals := 0 } : Room) Z #[(.int y)] h0 (fun v h L => v = some (.int 1) ∧ Fr Z.heap.size L ∧ h0 = h) := by
  refine Con.of (plainFor_of_name pn_0) (Ls := #[iv y]) (fun m => efOf rfl) ?_
  intro p e s m below meth c T0 X0 hx hZ hby hml hown hnm hret hlk e0
  refine go (fun _ => XS.iloadN X0.here hx rfl (hb hby d0_0) rfl) ?_
  refine go (fun _ => XT.sipushV X0.here hx rfl (255 : Int32) (hb hby d0_1) (by decide)) ?_
  show Ends p e below _ T0 (mkF m 4 #[iv y] [(.int (255 : Int32)), (.int y)])
  refine go (fun _ => XS.icmpNo X0.here hx rfl (hb hby d0_4) rfl (XT.ii_gt_f l0)) ?_
  show Ends p e below _ T0 (mkF m 7 #[iv y] [])
  refine go (fun _ => XT.iconstV X0.here hx rfl (1 : Int32) (hb hby d0_7) (by decide)) ?_
  refine go (fun _ => XS.goto X0.here hx rfl (pc0 := 8) (pc' := 12) rfl (hb hby d0_8) (by decide) (by decide)) ?_
  show Ends p e below _ T0 (mkF m 12 #[iv y] [(.int (1 : Int32))])
  exact endN X0 hx hret (by simp) (hb hby d0_12) (lvN X0 hlk e0 (fun h => by rw [hret] at h; cases h) ⟨rfl, (Fr.nil _), rfl⟩ (by decide) (by decide))
set_option maxRecDepth 65536 in
set_option maxHeartbeats 40000000 in
theorem rm_tobytes {l : Launch} {Z : State} {a0 : Array Value} (hw : ∀ d ∈ tables_1, d.before a0 Z = true) (y : Int32) (h0 : Heap) (O0 : Ext Z.heap h0) :
    Con l (⟨"java/lang/StringLatin1", "toBytes", "(C)[B"⟩ : MethodName) jdk_43_method_46_code 1 (some (.array .byte)) ({ frames := 0, cells := 1, slots := 1, locals := 0 } : Room) Z #[(.int y)] h0 (fun v h L => ∃ (b : Addr) (k : ClassId), v = some (.ref b) ∧ Fr Z.heap.size L ∧ Keep h0 h [] ∧ h0.size ≤ b ∧ Arv Z h b k .byte (1 : Int32) [(.int y.toInt8.toInt32)] (.int 0)) := by
  refine Con.of (plainFor_of_name pn_0) (Ls := #[iv y]) (fun m => efOf rfl) ?_
  intro p e s m below meth c T0 X0 hx hZ hby hml hown hnm hret hlk e0
  refine go (fun _ => XT.iconstV X0.here hx rfl (1 : Int32) (hb hby d1_0) (by decide)) ?_
  show Ends p e below _ T0 (mkF m 1 #[iv y] [(.int (1 : Int32))])
  obtain ⟨T1, h1, k1, X1, e1, E1, A1, s1⟩ := newP X0 hx hZ (hwi hw 17 rfl) e0 (g := (mkF m 1 #[iv y] [(.int (1 : Int32))])) rfl (hb hby d1_1) rfl (by decide) (cap := 1) (by decide) (by decide) (by decide) (by decide)
  obtain ⟨a1, g1⟩ : ∃ z : Addr, z = h0.size := ⟨_, rfl⟩
  have f1 : Z.heap.size ≤ a1 := by rw [g1]; exact (O0).1
  have K2 : Keep h0 h0 [] := (Keep.refl _ _)
  have b1 : h0.size ≤ a1 := by rw [g1]; exact (K2).1
  rw [← g1] at A1 s1
  have V1 : Arv Z h1 a1 k1 .byte (1 : Int32) [(.int (0 : Int32))] (.int 0) := Arv.pad (Arv.new A1 (by decide)) (pad_rep [] _ 1)
  refine go s1 ?_
  show Ends p e below _ T1 (mkF m 3 #[iv y] [(.ref a1)])
  refine go (fun _ => XS.dup X1.here hx rfl (hb hby d1_3) rfl rfl) ?_
  refine go (fun _ => XT.iconstV X1.here hx rfl (0 : Int32) (hb hby d1_4) (by decide)) ?_
  refine go (fun _ => XS.iloadN X1.here hx rfl (hb hby d1_5) rfl) ?_
  refine go (fun _ => XT.i2b X1.here hx rfl (hb hby d1_6) rfl) ?_
  show Ends p e below _ T1 (mkF m 7 #[iv y] [(.int y.toInt8.toInt32), (.int (0 : Int32)), (.ref a1), (.ref a1)])
  obtain ⟨cl4, A4, q4, S4, M4, H4, G4⟩ := id V1
  obtain ⟨T4, h4, X4, e4, W4, s4⟩ := stB X1 hx hZ e1 A4 (j := (0 : Int32)) (inb_of S4 (by decide)) (g := (mkF m 7 #[iv y] [(.int y.toInt8.toInt32), (.int (0 : Int32)), (.ref a1), (.ref a1)])) rfl rfl (hb hby d1_7)
  have r4 : nar .byte y.toInt8.toInt32 = y.toInt8.toInt32 := own_nb _
  rw [r4] at W4
  have N4 := Fr.snoc X4 (Fr.nil _) f1
  have V4 : Arv Z h4 a1 k1 .byte (1 : Int32) [(.int y.toInt8.toInt32)] (.int 0) := Arv.set A4 q4 S4 M4 H4 G4 (by first | rfl | exact fits_nar_byte y.toInt8.toInt32 | (rw [← r4]; exact fits_nar_byte y.toInt8.toInt32)) W4 0 (by decide) (Nat.le_of_ble_eq_true rfl)
  refine go s4 ?_
  show Ends p e below _ T4 (mkF m 8 #[iv y] [(.ref a1)])
  have K6 : Keep h0 h4 [] := (Keep.wr (Keep.ext K2 E1) W4 (Or.inr b1))
  exact endA X4 hx hret rfl rfl (hb hby d1_8) (lvN X4 hlk e4 (fun h => by rw [hret] at h; cases h) ⟨a1, _, rfl, N4, K6, b1, V4⟩ (by decide) (by decide))
set_option maxRecDepth 65536 in
set_option maxHeartbeats 40000000 in
theorem rm_strbb {l : Launch} {Z : State} {a0 : Array Value} (hw : ∀ d ∈ tables_1, d.before a0 Z = true) (a : Addr) (x : Addr) (h0 : Heap) (O0 : Ext Z.heap h0) (f0 : Z.heap.size ≤ a) (E0 : Exa Z h0 a "java/lang/String") (F_value : Fld Z h0 a "java/lang/String" "value" "[B" .null) (F_coder : Fld Z h0 a "java/lang/String" "coder" "B" (.int (0 : Int32)))   :
    Con l (⟨"java/lang/String", "<init>", "([BB)V"⟩ : MethodName) jdk_42_method_151_code 3 none ({ frames := 1, cells := 0, slots := 0, locals := 12 } : Room) Z #[(.ref a), (.ref x), (.int (0 : Int32))] h0 (fun v h L => v = none ∧ Fr Z.heap.size L ∧ Keep h0 h [a] ∧ Fld Z h a "java/lang/String" "value" "[B" (.ref x) ∧ Fld Z h a "java/lang/String" "coder" "B" (.int (0 : Int32))) := by
  refine Con.of (plainFor_of_name pn_1) (Ls := #[rv a, rv x, iv (0 : Int32)]) (fun m => efOf rfl) ?_
  intro p e s m below meth c T0 X0 hx hZ hby hml hown hnm hret hlk e0
  refine go (fun _ => XS.aloadN X0.here hx rfl (hb hby d2_0) rfl rfl) ?_
  show Ends p e below _ T0 (mkF m 1 #[rv a, rv x, iv (0 : Int32)] [(.ref a)])
  obtain ⟨T7, X7, e7, s7⟩ := initO X0 hx hZ hown (hwi hw 22 rfl) (hwi hw 23 rfl) (hwi hw 24 rfl) e0 (g := (mkF m 1 #[rv a, rv x, iv (0 : Int32)] [(.ref a)])) rfl (by rw [hml]; rfl) rfl (hb hby d2_1) (by decide) (W := 0) (by show 2 * 0 + _ ≤ _; exact Nat.le_of_eq rfl) (by decide)
  refine go s7 ?_
  show Ends p e below _ T7 (mkF m 4 #[rv a, rv x, iv (0 : Int32)] [])
  refine go (fun _ => XS.aloadN X7.here hx rfl (hb hby d2_4) rfl rfl) ?_
  refine go (fun _ => XS.aloadN X7.here hx rfl (hb hby d2_5) rfl rfl) ?_
  show Ends p e below _ T7 (mkF m 6 #[rv a, rv x, iv (0 : Int32)] [(.ref x), (.ref a)])
  obtain ⟨T8, h8, X8, e8, W8, s8⟩ := putF X7 hx hZ hown (host := "") (Or.inl (hwi hw 25 rfl)) Via.refl e7 F_value E0 (Or.inr ⟨(hwi hw 26 rfl), rfl, hnm⟩) (hwi hw 13 rfl) (ty := (.array .byte)) (by decide) rfl rfl (g := (mkF m 6 #[rv a, rv x, iv (0 : Int32)] [(.ref x), (.ref a)])) rfl rfl (hb hby d2_6)
  have N8 := Fr.snoc X8 (Fr.nil _) f0
  refine go s8 ?_
  show Ends p e below _ T8 (mkF m 9 #[rv a, rv x, iv (0 : Int32)] [])
  refine go (fun _ => XS.aloadN X8.here hx rfl (hb hby d2_9) rfl rfl) ?_
  refine go (fun _ => XS.iloadN X8.here hx rfl (hb hby d2_10) rfl) ?_
  show Ends p e below _ T8 (mkF m 11 #[rv a, rv x, iv (0 : Int32)] [(.int (0 : Int32)), (.ref a)])
  have F10 := (Exa.wr W8 E0)
  have F11 := (Fld.other W8 F_coder (Or.inr (slot_ne (a0 := a0) (Or.inr (hwi hw 28 rfl)) (Or.inr (hwi hw 26 rfl)) (by decide) (t := .byte) (t' := (.array .byte)) (by decide) (by decide))))
  obtain ⟨T12, h12, X12, e12, W12, s12⟩ := putF X8 hx hZ hown (host := "") (Or.inl (hwi hw 27 rfl)) Via.refl e8 F11 F10 (Or.inr ⟨(hwi hw 28 rfl), rfl, hnm⟩) (hwi hw 13 rfl) (ty := .byte) (by decide) rfl rfl (g := (mkF m 11 #[rv a, rv x, iv (0 : Int32)] [(.int (0 : Int32)), (.ref a)])) rfl rfl (hb hby d2_11)
  have N12 := Fr.snoc X12 N8 f0
  refine go s12 ?_
  show Ends p e below _ T12 (mkF m 14 #[rv a, rv x, iv (0 : Int32)] [])
  have K14 : Keep h0 h12 [a] := (Keep.wr (Keep.wr (Keep.refl _ _) W8 (Or.inl (List.mem_of_getElem? (i := 0) rfl))) W12 (Or.inl (List.mem_of_getElem? (i := 0) rfl)))
  have F15 := (Fld.other W12 (Fld.same W8 F_value) (Or.inr (slot_ne (a0 := a0) (Or.inr (hwi hw 26 rfl)) (Or.inr (hwi hw 28 rfl)) (by decide) (t := (.array .byte)) (t' := .byte) (by decide) (by decide))))
  have F16 := (Fld.same W12 F11)
  exact endV X12 hx hret (hb hby d2_14) (lvN X12 hlk e12 (fun _ => rfl) ⟨rfl, N12, K14, F15, F16⟩ (by decide) (by decide))
set_option maxRecDepth 65536 in
set_option maxHeartbeats 40000000 in
theorem rm_cvalueOf {l : Launch} {Z : State} {a0 : Array Value} (hw : ∀ d ∈ tables_1, d.before a0 Z = true) (y : Int32) (h0 : Heap) (O0 : Ext Z.heap h0) (l0 : ¬ (255 : Int32) < y) (cz : Int32) (SCS : Sta Z Z.heap "java/lang/String" "COMPACT_STRINGS" "Z" (.int cz)) (hcz : ¬ cz = (0 : Int32)) :
    Con l (⟨"java/lang/String", "valueOf", "(C)Ljava/lang/String;"⟩ : MethodName) jdk_42_method_139_code 1 (some (.object "java/lang/String")) ({ frames := 2, cells := 2, slots := 5, locals := 27 } : Room) Z #[(.int y)] h0 (fun v h L => ∃ (a b : Addr) (k : ClassId), v = some (.ref a) ∧ Fr Z.heap.size L ∧ Keep h0 h [] ∧ h0.size ≤ a ∧ h0.size ≤ b ∧ a ≠ b ∧ Exa Z h a "java/lang/String" ∧ Fld Z h a "java/lang/String" "value" "[B" (.ref b) ∧ Fld Z h a "java/lang/String" "coder" "B" (.int 0) ∧ Arv Z h b k .byte (1 : Int32) [(.int y.toInt8.toInt32)] (.int 0)) := by
  refine Con.of (plainFor_of_name pn_1) (Ls := #[iv y]) (fun m => efOf rfl) ?_
  intro p e s m below meth c T0 X0 hx hZ hby hml hown hnm hret hlk e0
  obtain ⟨T17, X17, e17, s17⟩ := getS2 X0 hx hZ hown (host := "") (Or.inl (hwi hw 7 rfl)) Via.refl e0 (Sta.ext O0 SCS) (g := (mkF m 0 #[iv y] [])) rfl (hb hby d3_0)
  refine go s17 ?_
  show Ends p e below _ T17 (mkF m 3 #[iv y] [(.int cz)])
  refine go (fun _ => XS.ifNo X17.here hx rfl (hb hby d3_3) rfl (XT.i0_eq_f hcz)) ?_
  show Ends p e below _ T17 (mkF m 6 #[iv y] [])
  refine go (fun _ => XS.iloadN X17.here hx rfl (hb hby d3_6) rfl) ?_
  show Ends p e below _ T17 (mkF m 7 #[iv y] [(.int y)])
  refine cStat X17 hx hZ hown (by rw [hml]; rfl) e17 (hwi hw 8 rfl) (hwi hw 9 rfl) (hwi hw 10 rfl) (hwi hw 11 rfl) [(.int y)] [] rfl (rm_can hw y _ l0) (hb hby d3_7) rfl (lenOf pd_2 rfl) (by decide) (by decide) (Nat.le_of_ble_eq_true rfl) (by decide) (by decide) ?_
  rintro v18 T18 h18 L18 X18 e18 ⟨rfl, N18, rfl⟩
  have N18a := Fr.app (Fr.nil _) N18
  show Ends p e below _ T18 (mkF m 10 #[iv y] [(.int (1 : Int32))])
  refine go (fun _ => XS.ifNo X18.here hx rfl (hb hby d3_10) rfl (XT.i0_eq_f ((by decide) : ¬ ((1 : Int32) = (0 : Int32))))) ?_
  show Ends p e below _ T18 (mkF m 13 #[iv y] [])
  obtain ⟨T19, h19, X19, e19, E19, A19, D19, U19, s19⟩ := newO X18 hx hZ hown (hwi hw 12 rfl) (hwi hw 13 rfl) (hwi hw 5 rfl) e18 (g := (mkF m 13 #[iv y] [])) rfl (hb hby d3_13) (by decide) (by decide)
  obtain ⟨a19, g19⟩ : ∃ z : Addr, z = h0.size := ⟨_, rfl⟩
  have f19 : Z.heap.size ≤ a19 := by rw [g19]; exact (O0).1
  have K20 : Keep h0 h0 [] := (Keep.refl _ _)
  have b19 : h0.size ≤ a19 := by rw [g19]; exact (K20).1
  rw [← g19] at A19 D19 U19 s19
  have O21 : Ext Z.heap h19 := xx O0 E19
  refine go s19 ?_
  show Ends p e below _ T19 (mkF m 16 #[iv y] [(.ref a19)])
  refine go (fun _ => XS.dup X19.here hx rfl (hb hby d3_16) rfl rfl) ?_
  refine go (fun _ => XS.iloadN X19.here hx rfl (hb hby d3_17) rfl) ?_
  show Ends p e below _ T19 (mkF m 18 #[iv y] [(.int y), (.ref a19), (.ref a19)])
  refine cStat X19 hx hZ hown (by rw [hml]; rfl) e19 (hwi hw 14 rfl) (hwi hw 15 rfl) (hwi hw 10 rfl) (hwi hw 16 rfl) [(.int y)] [(.ref a19), (.ref a19)] rfl (rm_tobytes hw y _ O21) (hb hby d3_18) rfl (lenOf pd_3 rfl) (by decide) (by decide) (Nat.le_of_ble_eq_true rfl) (by decide) (by decide) ?_
  rintro v22 T22 h22 L22 X22 e22 ⟨b22, k22, rfl, N22, K22, g22, V22⟩
  have N22a := Fr.app N18a N22
  have n23 : a19 ≠ b22 := Nat.ne_of_lt (Nat.lt_of_lt_of_le (A19.lt) g22)
  have K25 : Keep h0 h19 [] := (Keep.ext K20 E19)
  have b24 : h0.size ≤ b22 := Nat.le_trans (K25).1 g22
  have O26 : Ext Z.heap h22 := xk O21 K22 all0
  show Ends p e below _ T22 (mkF m 21 #[iv y] [(.ref b22), (.ref a19), (.ref a19)])
  refine go (fun _ => XT.iconstV X22.here hx rfl (0 : Int32) (hb hby d3_21) (by decide)) ?_
  show Ends p e below _ T22 (mkF m 22 #[iv y] [(.int (0 : Int32)), (.ref b22), (.ref a19), (.ref a19)])
  have F27 := (Exa.keep A19 K22)
  have F28 := (Fld.keep (D19 (Or.inr (hwi hw 26 rfl)) (ty := (.array .byte)) (by decide)) K22 nin0)
  have F29 := (Fld.keep (D19 (Or.inr (hwi hw 28 rfl)) (ty := .byte) (by decide)) K22 nin0)
  refine cInit X22 hx hZ hown (by rw [hml]; rfl) e22 (hwi hw 18 rfl) (hwi hw 19 rfl) (hwi hw 5 rfl) (hwi hw 21 rfl) a19 [(.ref b22), (.int (0 : Int32))] [(.ref a19)] rfl (rm_strbb hw a19 b22 _ O26 f19 F27 F28 F29  ) (hb hby d3_22) rfl (lenOf pd_4 rfl) rfl (by decide) (by decide) (Nat.le_of_ble_eq_true rfl) (by decide) (by decide) ?_
  rintro v30 T30 h30 L30 X30 e30 ⟨rfl, N30, K30, F30_0, F30_1⟩
  have N30a := Fr.app N22a N30
  show Ends p e below _ T30 (mkF m 25 #[iv y] [(.ref a19)])
  have K32 : Keep h0 h30 [] := (Keep.trans (Keep.trans K25 K22 all0) K30 (allS (Or.inr b19) all0))
  have F33 := (Exa.keep F27 K30)
  have F34 := (Arv.keep V22 K30 (ninS (Ne.symm n23) nin0))
  exact endA X30 hx hret rfl rfl (hb hby d3_25) (lvN X30 hlk e30 (fun h => by rw [hret] at h; cases h) ⟨a19, b22, _, rfl, N30a, K32, b19, b24, n23, F33, F30_0, F30_1, F34⟩ (by decide) (by decide))
set_option maxRecDepth 65536 in
set_option maxHeartbeats 40000000 in
theorem rm_abc {l : Launch} {Z : State} {a0 : Array Value} (hw : ∀ d ∈ tables_1, d.before a0 Z = true) (a : Addr) (h0 : Heap)  :
    Con l (⟨"java/util/AbstractCollection", "<init>", "()V"⟩ : MethodName) jdk_22_method_1_code 1 none ({ frames := 1, cells := 0, slots := 0, locals := 12 } : Room) Z #[(.ref a)] h0 (fun v h L => v = none ∧ Fr Z.heap.size L ∧ h0 = h) := by
  refine Con.of (plainFor_of_name pn_5) (Ls := #[rv a]) (fun m => efOf rfl) ?_
  intro p e s m below meth c T0 X0 hx hZ hby hml hown hnm hret hlk e0
  refine go (fun _ => XS.aloadN X0.here hx rfl (hb hby d4_0) rfl rfl) ?_
  show Ends p e below _ T0 (mkF m 1 #[rv a] [(.ref a)])
  obtain ⟨T35, X35, e35, s35⟩ := initO X0 hx hZ hown (hwi hw 70 rfl) (hwi hw 23 rfl) (hwi hw 24 rfl) e0 (g := (mkF m 1 #[rv a] [(.ref a)])) rfl (by rw [hml]; rfl) rfl (hb hby d4_1) (by decide) (W := 0) (by show 2 * 0 + _ ≤ _; exact Nat.le_of_eq rfl) (by decide)
  refine go s35 ?_
  show Ends p e below _ T35 (mkF m 4 #[rv a] [])
  exact endV X35 hx hret (hb hby d4_4) (lvN X35 hlk e35 (fun _ => rfl) ⟨rfl, (Fr.nil _), rfl⟩ (by decide) (by decide))
set_option maxRecDepth 65536 in
set_option maxHeartbeats 40000000 in
theorem rm_abl {l : Launch} {Z : State} {a0 : Array Value} (hw : ∀ d ∈ tables_1, d.before a0 Z = true) (a : Addr) (h0 : Heap) (O0 : Ext Z.heap h0) (f0 : Z.heap.size ≤ a) (E0 : Exa Z h0 a "java/util/ArrayList") (F1 : Fld Z h0 a "java/util/AbstractList" "modCount" "I" (.int 0)) (F2 : Fld Z h0 a "java/util/ArrayList" "elementData" "[Ljava/lang/Object;" .null) (F3 : Fld Z h0 a "java/util/ArrayList" "size" "I" (.int 0)) :
    Con l (⟨"java/util/AbstractList", "<init>", "()V"⟩ : MethodName) jdk_39_method_1_code 1 none ({ frames := 2, cells := 0, slots := 0, locals := 24 } : Room) Z #[(.ref a)] h0 (fun v h L => v = none ∧ Fr Z.heap.size L ∧ Keep h0 h [a] ∧ Fld Z h a "java/util/AbstractList" "modCount" "I" (.int 0) ∧ Fld Z h a "java/util/ArrayList" "elementData" "[Ljava/lang/Object;" .null ∧ Fld Z h a "java/util/ArrayList" "size" "I" (.int 0)) := by
  refine Con.of (plainFor_of_name pn_6) (Ls := #[rv a]) (fun m => efOf rfl) ?_
  intro p e s m below meth c T0 X0 hx hZ hby hml hown hnm hret hlk e0
  refine go (fun _ => XS.aloadN X0.here hx rfl (hb hby d5_0) rfl rfl) ?_
  show Ends p e below _ T0 (mkF m 1 #[rv a] [(.ref a)])
  refine cInit X0 hx hZ hown (by rw [hml]; rfl) e0 (hwi hw 64 rfl) (hwi hw 65 rfl) (hwi hw 68 rfl) (hwi hw 69 rfl) a [] [] rfl (rm_abc hw a _) (hb hby d5_1) rfl (lenOf pd_7 rfl) rfl (by decide) (by decide) (Nat.le_of_ble_eq_true rfl) (by decide) (by decide) ?_
  rintro v36 T36 h36 L36 X36 e36 ⟨rfl, N36, rfl⟩
  have N36a := Fr.app (Fr.nil _) N36
  show Ends p e below _ T36 (mkF m 4 #[rv a] [])
  refine go (fun _ => XS.aloadN X36.here hx rfl (hb hby d5_4) rfl rfl) ?_
  refine go (fun _ => XT.iconstV X36.here hx rfl (0 : Int32) (hb hby d5_5) (by decide)) ?_
  show Ends p e below _ T36 (mkF m 6 #[rv a] [(.int (0 : Int32)), (.ref a)])
  obtain ⟨T37, h37, X37, e37, W37, s37⟩ := putF X36 hx hZ hown (host := "") (Or.inl (hwi hw 71 rfl)) Via.refl e36 F1 E0 (Or.inl (hwi hw 72 rfl)) (hwi hw 53 rfl) (ty := .int) (by decide) rfl rfl (g := (mkF m 6 #[rv a] [(.int (0 : Int32)), (.ref a)])) rfl rfl (hb hby d5_6)
  have N37 := Fr.snoc X37 N36a f0
  refine go s37 ?_
  show Ends p e below _ T37 (mkF m 9 #[rv a] [])
  have K39 : Keep h0 h37 [a] := (Keep.wr (Keep.refl _ _) W37 (Or.inl (List.mem_of_getElem? (i := 0) rfl)))
  have F40 := (Fld.same W37 F1)
  have F41 := (Fld.other W37 F2 (Or.inr (slot_ne (a0 := a0) (Or.inl (hwi hw 75 rfl)) (Or.inl (hwi hw 72 rfl)) (by decide) (t := (.array (.object "java/lang/Object"))) (t' := .int) (by decide) (by decide))))
  have F42 := (Fld.other W37 F3 (Or.inr (slot_ne (a0 := a0) (Or.inl (hwi hw 84 rfl)) (Or.inl (hwi hw 72 rfl)) (by decide) (t := .int) (t' := .int) (by decide) (by decide))))
  exact endV X37 hx hret (hb hby d5_9) (lvN X37 hlk e37 (fun _ => rfl) ⟨rfl, N37, K39, F40, F41, F42⟩ (by decide) (by decide))
set_option maxRecDepth 65536 in
set_option maxHeartbeats 40000000 in
theorem rm_alinit {l : Launch} {Z : State} {a0 : Array Value} (hw : ∀ d ∈ tables_1, d.before a0 Z = true) (a : Addr) (aD : Addr) (kD : ClassId) (h0 : Heap) (O0 : Ext Z.heap h0) (f0 : Z.heap.size ≤ a) (E0 : Exa Z h0 a "java/util/ArrayList") (F1 : Fld Z h0 a "java/util/AbstractList" "modCount" "I" (.int 0)) (F2 : Fld Z h0 a "java/util/ArrayList" "elementData" "[Ljava/lang/Object;" .null) (F3 : Fld Z h0 a "java/util/ArrayList" "size" "I" (.int 0)) (SD : Sta Z Z.heap "java/util/ArrayList" "DEFAULTCAPACITY_EMPTY_ELEMENTDATA" "[Ljava/lang/Object;" (.ref aD)) (VD : Arv Z Z.heap aD kD (.object "java/lang/Object") (0 : Int32) [] .null) :
    Con l (⟨"java/util/ArrayList", "<init>", "()V"⟩ : MethodName) jdk_38_method_2_code 1 none ({ frames := 3, cells := 0, slots := 0, locals := 36 } : Room) Z #[(.ref a)] h0 (fun v h L => v = none ∧ Fr Z.heap.size L ∧ Keep h0 h [a] ∧ Fld Z h a "java/util/AbstractList" "modCount" "I" (.int 0) ∧ Fld Z h a "java/util/ArrayList" "elementData" "[Ljava/lang/Object;" (.ref aD) ∧ Fld Z h a "java/util/ArrayList" "size" "I" (.int 0)) := by
  refine Con.of (plainFor_of_name pn_8) (Ls := #[rv a]) (fun m => efOf rfl) ?_
  intro p e s m below meth c T0 X0 hx hZ hby hml hown hnm hret hlk e0
  refine go (fun _ => XS.aloadN X0.here hx rfl (hb hby d6_0) rfl rfl) ?_
  show Ends p e below _ T0 (mkF m 1 #[rv a] [(.ref a)])
  refine cInit X0 hx hZ hown (by rw [hml]; rfl) e0 (hwi hw 58 rfl) (hwi hw 59 rfl) (hwi hw 62 rfl) (hwi hw 63 rfl) a [] [] rfl (rm_abl hw a _ O0 f0 E0 F1 F2 F3) (hb hby d6_1) rfl (lenOf pd_7 rfl) rfl (by decide) (by decide) (Nat.le_of_ble_eq_true rfl) (by decide) (by decide) ?_
  rintro v43 T43 h43 L43 X43 e43 ⟨rfl, N43, K43, F143, F243, F343⟩
  have N43a := Fr.app (Fr.nil _) N43
  have O44 : Ext Z.heap h43 := xk O0 K43 (allS f0 all0)
  show Ends p e below _ T43 (mkF m 4 #[rv a] [])
  refine go (fun _ => XS.aloadN X43.here hx rfl (hb hby d6_4) rfl rfl) ?_
  show Ends p e below _ T43 (mkF m 5 #[rv a] [(.ref a)])
  obtain ⟨T45, X45, e45, s45⟩ := getS2 X43 hx hZ hown (host := "") (Or.inl (hwi hw 73 rfl)) Via.refl e43 (Sta.ext O44 SD) (g := (mkF m 5 #[rv a] [(.ref a)])) rfl (hb hby d6_5)
  refine go s45 ?_
  show Ends p e below _ T45 (mkF m 8 #[rv a] [(.ref aD), (.ref a)])
  have F46 := (Exa.keep E0 K43)
  obtain ⟨T47, h47, X47, e47, W47, s47⟩ := putF X45 hx hZ hown (host := "") (Or.inl (hwi hw 74 rfl)) Via.refl e45 F243 F46 (Or.inl (hwi hw 75 rfl)) (hwi hw 53 rfl) (ty := (.array (.object "java/lang/Object"))) (by decide) rfl rfl (g := (mkF m 8 #[rv a] [(.ref aD), (.ref a)])) rfl rfl (hb hby d6_8)
  have N47 := Fr.snoc X47 N43a f0
  refine go s47 ?_
  show Ends p e below _ T47 (mkF m 11 #[rv a] [])
  have K49 : Keep h0 h47 [a] := (Keep.wr (Keep.trans (Keep.refl _ _) K43 (allS (Or.inl (List.mem_of_getElem? (i := 0) rfl)) all0)) W47 (Or.inl (List.mem_of_getElem? (i := 0) rfl)))
  have F50 := (Fld.other W47 F143 (Or.inr (slot_ne (a0 := a0) (Or.inl (hwi hw 72 rfl)) (Or.inl (hwi hw 75 rfl)) (by decide) (t := .int) (t' := (.array (.object "java/lang/Object"))) (by decide) (by decide))))
  have F51 := (Fld.same W47 F243)
  have F52 := (Fld.other W47 F343 (Or.inr (slot_ne (a0 := a0) (Or.inl (hwi hw 84 rfl)) (Or.inl (hwi hw 75 rfl)) (by decide) (t := .int) (t' := (.array (.object "java/lang/Object"))) (by decide) (by decide))))
  exact endV X47 hx hret (hb hby d6_11) (lvN X47 hlk e47 (fun _ => rfl) ⟨rfl, N47, K49, F50, F51, F52⟩ (by decide) (by decide))
set_option maxRecDepth 65536 in
set_option maxHeartbeats 40000000 in
theorem rm_max101 {l : Launch} {Z : State} {a0 : Array Value} (hw : ∀ d ∈ tables_1, d.before a0 Z = true)  (h0 : Heap)  :
    Con l (⟨"java/lang/Math", "max", "(II)I"⟩ : MethodName) jdk_29_method_65_code 2 (some .int) ({ frames := 0, cells := 0, slots := 0, locals := 0 } : Room) Z #[(.int (10 : Int32)), (.int (1 : Int32))] h0 (fun v h L => v = some (.int 10) ∧ Fr Z.heap.size L ∧ h0 = h) := by
  refine Con.of (Jvm.Free.JP.mathPlain rfl (by decide +kernel)) (Ls := #[iv (10 : Int32), iv (1 : Int32)]) (fun m => efOf rfl) ?_
  intro p e s m below meth c T0 X0 hx hZ hby hml hown hnm hret hlk e0
  refine go (fun _ => XS.iloadN X0.here hx rfl (hb hby d7_0) rfl) ?_
  refine go (fun _ => XS.iloadN X0.here hx rfl (hb hby d7_1) rfl) ?_
  show Ends p e below _ T0 (mkF m 2 #[iv (10 : Int32), iv (1 : Int32)] [(.int (1 : Int32)), (.int (10 : Int32))])
  refine go (fun _ => XS.icmpNo X0.here hx rfl (hb hby d7_2) rfl (XT.ii_lt_f ((by decide) : ¬ ((10 : Int32) < (1 : Int32))))) ?_
  show Ends p e below _ T0 (mkF m 5 #[iv (10 : Int32), iv (1 : Int32)] [])
  refine go (fun _ => XS.iloadN X0.here hx rfl (hb hby d7_5) rfl) ?_
  refine go (fun _ => XS.goto X0.here hx rfl (pc0 := 6) (pc' := 10) rfl (hb hby d7_6) (by decide) (by decide)) ?_
  show Ends p e below _ T0 (mkF m 10 #[iv (10 : Int32), iv (1 : Int32)] [(.int (10 : Int32))])
  exact endI X0 hx hret (hb hby d7_10) (lvN X0 hlk e0 (fun h => by rw [hret] at h; cases h) ⟨rfl, (Fr.nil _), rfl⟩ (by decide) (by decide))
set_option maxRecDepth 65536 in
set_option maxHeartbeats 40000000 in
theorem rm_grow1 {l : Launch} {Z : State} {a0 : Array Value} (hw : ∀ d ∈ tables_1, d.before a0 Z = true) (a : Addr) (mc : Int32) (aD : Addr) (kD : ClassId) (h0 : Heap) (O0 : Ext Z.heap h0) (f0 : Z.heap.size ≤ a) (E0 : Exa Z h0 a "java/util/ArrayList") (F1 : Fld Z h0 a "java/util/AbstractList" "modCount" "I" (.int mc)) (F2 : Fld Z h0 a "java/util/ArrayList" "elementData" "[Ljava/lang/Object;" (.ref aD)) (F3 : Fld Z h0 a "java/util/ArrayList" "size" "I" (.int 0)) (SD : Sta Z Z.heap "java/util/ArrayList" "DEFAULTCAPACITY_EMPTY_ELEMENTDATA" "[Ljava/lang/Object;" (.ref aD)) (VD : Arv Z Z.heap aD kD (.object "java/lang/Object") (0 : Int32) [] .null) :
    Con l (⟨"java/util/ArrayList", "grow", "(I)[Ljava/lang/Object;"⟩ : MethodName) jdk_38_method_6_code 4 (some (.array (.object "java/lang/Object"))) ({ frames := 1, cells := 1, slots := 10, locals := 14 } : Room) Z #[(.ref a), (.int (1 : Int32))] h0 (fun v h L => ∃ (b : Addr) (k : ClassId), v = some (.ref b) ∧ Fr Z.heap.size L ∧ Keep h0 h [a] ∧ h0.size ≤ b ∧ OvO Z k ∧ Fld Z h a "java/util/AbstractList" "modCount" "I" (.int mc) ∧ Fld Z h a "java/util/ArrayList" "elementData" "[Ljava/lang/Object;" (.ref b) ∧ Fld Z h a "java/util/ArrayList" "size" "I" (.int 0) ∧ Arv Z h b k (.object "java/lang/Object") (10 : Int32) [.null, .null, .null, .null, .null, .null, .null, .null, .null, .null] .null) := by
  refine Con.of (plainFor_of_name pn_8) (Ls := #[rv a, iv (1 : Int32), .unset, .unset]) (fun m => efOf rfl) ?_
  intro p e s m below meth c T0 X0 hx hZ hby hml hown hnm hret hlk e0
  have nD : aD ≠ a := Nat.ne_of_lt (Nat.lt_of_lt_of_le VD.lt f0)
  refine go (fun _ => XS.aloadN X0.here hx rfl (hb hby d8_0) rfl rfl) ?_
  show Ends p e below _ T0 (mkF m 1 #[rv a, iv (1 : Int32), .unset, .unset] [(.ref a)])
  obtain ⟨T53, X53, e53, s53⟩ := getF X0 hx hZ hown (host := "") (Or.inl (hwi hw 74 rfl)) Via.refl e0 F2 (g := (mkF m 1 #[rv a, iv (1 : Int32), .unset, .unset] [(.ref a)])) rfl rfl (hb hby d8_1)
  refine go s53 ?_
  show Ends p e below _ T53 (mkF m 4 #[rv a, iv (1 : Int32), .unset, .unset] [(.ref aD)])
  have F54 := (Arv.ext VD O0)
  obtain ⟨cl55, A55, -, S55, M55, -⟩ := id F54
  refine go (fun _ => X53.arraylength hx (cell := cl55) (by rw [e53]; exact A55.1) (State.isArrayOf_alike hZ.alike A55.2.1) (g := (mkF m 4 #[rv a, iv (1 : Int32), .unset, .unset] [(.ref aD)])) rfl rfl (hb hby d8_4) _) ?_
  rw [len_of S55 M55]
  show Ends p e below _ T53 (mkF m 5 #[rv a, iv (1 : Int32), .unset, .unset] [(.int (0 : Int32))])
  refine go (fun _ => XS.istoreN X53.here hx rfl (hb hby d8_5) rfl (l' := #[rv a, iv (1 : Int32), iv (0 : Int32), .unset]) rfl) ?_
  refine go (fun _ => XS.iloadN X53.here hx rfl (hb hby d8_6) rfl) ?_
  show Ends p e below _ T53 (mkF m 7 #[rv a, iv (1 : Int32), iv (0 : Int32), .unset] [(.int (0 : Int32))])
  refine go (fun _ => XS.ifNo X53.here hx rfl (hb hby d8_7) rfl (XT.i0_gt_f ((by decide) : ¬ ((0 : Int32) < (0 : Int32))))) ?_
  show Ends p e below _ T53 (mkF m 10 #[rv a, iv (1 : Int32), iv (0 : Int32), .unset] [])
  refine go (fun _ => XS.aloadN X53.here hx rfl (hb hby d8_10) rfl rfl) ?_
  show Ends p e below _ T53 (mkF m 11 #[rv a, iv (1 : Int32), iv (0 : Int32), .unset] [(.ref a)])
  obtain ⟨T56, X56, e56, s56⟩ := getF X53 hx hZ hown (host := "") (Or.inl (hwi hw 74 rfl)) Via.refl e53 F2 (g := (mkF m 11 #[rv a, iv (1 : Int32), iv (0 : Int32), .unset] [(.ref a)])) rfl rfl (hb hby d8_11)
  refine go s56 ?_
  show Ends p e below _ T56 (mkF m 14 #[rv a, iv (1 : Int32), iv (0 : Int32), .unset] [(.ref aD)])
  obtain ⟨T57, X57, e57, s57⟩ := getS2 X56 hx hZ hown (host := "") (Or.inl (hwi hw 73 rfl)) Via.refl e56 (Sta.ext O0 SD) (g := (mkF m 14 #[rv a, iv (1 : Int32), iv (0 : Int32), .unset] [(.ref aD)])) rfl (hb hby d8_14)
  refine go s57 ?_
  show Ends p e below _ T57 (mkF m 17 #[rv a, iv (1 : Int32), iv (0 : Int32), .unset] [(.ref aD), (.ref aD)])
  refine go (fun _ => XT.acmpYes X57.here hx rfl (pc0 := 17) (pc' := 45) rfl (hb hby d8_17) rfl rfl rfl (XT.aa_eq_t (rfl : ((.ref aD) : Value) = (.ref aD))) (by decide) (by decide)) ?_
  show Ends p e below _ T57 (mkF m 45 #[rv a, iv (1 : Int32), iv (0 : Int32), .unset] [])
  refine go (fun _ => XS.aloadN X57.here hx rfl (hb hby d8_45) rfl rfl) ?_
  refine go (fun _ => XT.bipushV X57.here hx rfl (10 : Int32) (hb hby d8_46) (by decide)) ?_
  refine go (fun _ => XS.iloadN X57.here hx rfl (hb hby d8_48) rfl) ?_
  show Ends p e below _ T57 (mkF m 49 #[rv a, iv (1 : Int32), iv (0 : Int32), .unset] [(.int (1 : Int32)), (.int (10 : Int32)), (.ref a)])
  refine cStat X57 hx hZ hown (by rw [hml]; rfl) e57 (hwi hw 100 rfl) (hwi hw 101 rfl) (hwi hw 102 rfl) (hwi hw 103 rfl) [(.int (10 : Int32)), (.int (1 : Int32))] [(.ref a)] rfl (rm_max101 hw _) (hb hby d8_49) rfl (lenOf pd_9 rfl) (by decide) (by decide) (Nat.le_of_ble_eq_true rfl) (by decide) (by decide) ?_
  rintro v58 T58 h58 L58 X58 e58 ⟨rfl, N58, rfl⟩
  have N58a := Fr.app (Fr.nil _) N58
  show Ends p e below _ T58 (mkF m 52 #[rv a, iv (1 : Int32), iv (0 : Int32), .unset] [(.int (10 : Int32)), (.ref a)])
  obtain ⟨T59, h59, k59, X59, e59, E59, A59, O59, s59⟩ := own_newR X58 hx hZ hown (hwi hw 104 rfl) (hwi hw 105 rfl) e58 (g := (mkF m 52 #[rv a, iv (1 : Int32), iv (0 : Int32), .unset] [(.int (10 : Int32)), (.ref a)])) rfl (hb hby d8_52) rfl (by decide) (cap := 10) (by decide) (by decide) (by decide) (by decide)
  obtain ⟨a59, g59⟩ : ∃ z : Addr, z = h0.size := ⟨_, rfl⟩
  have n60 : a ≠ a59 := fun q => absurd (E0.lt) (by rw [q, g59]; exact Nat.lt_irrefl _)
  have K62 : Keep h0 h0 [a] := (Keep.refl _ _)
  have b59 : h0.size ≤ a59 := by rw [g59]; exact (K62).1
  rw [← g59] at A59 s59
  have V59 : Arv Z h59 a59 k59 (.object "java/lang/Object") (10 : Int32) [.null, .null, .null, .null, .null, .null, .null, .null, .null, .null] .null := Arv.pad (Arv.new A59 (by decide)) (pad_rep [] _ 10)
  refine go s59 ?_
  show Ends p e below _ T59 (mkF m 55 #[rv a, iv (1 : Int32), iv (0 : Int32), .unset] [(.ref a59), (.ref a)])
  refine go (fun _ => XT.dupX1 X59.here hx rfl (hb hby d8_55) rfl rfl rfl) ?_
  show Ends p e below _ T59 (mkF m 56 #[rv a, iv (1 : Int32), iv (0 : Int32), .unset] [(.ref a59), (.ref a), (.ref a59)])
  have F64 := (Exa.ext E59 E0)
  have F65 := (Fld.ext E59 F2)
  obtain ⟨T66, h66, X66, e66, W66, s66⟩ := putF X59 hx hZ hown (host := "") (Or.inl (hwi hw 74 rfl)) Via.refl e59 F65 F64 (Or.inl (hwi hw 75 rfl)) (hwi hw 53 rfl) (ty := (.array (.object "java/lang/Object"))) (by decide) rfl rfl (g := (mkF m 56 #[rv a, iv (1 : Int32), iv (0 : Int32), .unset] [(.ref a59), (.ref a), (.ref a59)])) rfl rfl (hb hby d8_56)
  have N66 := Fr.snoc X66 N58a f0
  refine go s66 ?_
  show Ends p e below _ T66 (mkF m 59 #[rv a, iv (1 : Int32), iv (0 : Int32), .unset] [(.ref a59)])
  have K68 : Keep h0 h66 [a] := (Keep.wr (Keep.ext K62 E59) W66 (Or.inl (List.mem_of_getElem? (i := 0) rfl)))
  have F69 := (Fld.other W66 (Fld.ext E59 F1) (Or.inr (slot_ne (a0 := a0) (Or.inl (hwi hw 72 rfl)) (Or.inl (hwi hw 75 rfl)) (by decide) (t := .int) (t' := (.array (.object "java/lang/Object"))) (by decide) (by decide))))
  have F70 := (Fld.same W66 F65)
  have F71 := (Fld.other W66 (Fld.ext E59 F3) (Or.inr (slot_ne (a0 := a0) (Or.inl (hwi hw 84 rfl)) (Or.inl (hwi hw 75 rfl)) (by decide) (t := .int) (t' := (.array (.object "java/lang/Object"))) (by decide) (by decide))))
  have F72 := (Arv.other V59 W66 (Ne.symm n60))
  exact endA X66 hx hret rfl rfl (hb hby d8_59) (lvN X66 hlk e66 (fun h => by rw [hret] at h; cases h) ⟨a59, _, rfl, N66, K68, b59, O59, F69, F70, F71, F72⟩ (by decide) (by decide))
set_option maxRecDepth 65536 in
set_option maxHeartbeats 40000000 in
theorem rm_grow0 {l : Launch} {Z : State} {a0 : Array Value} (hw : ∀ d ∈ tables_1, d.before a0 Z = true) (a : Addr) (mc : Int32) (aD : Addr) (kD : ClassId) (h0 : Heap) (O0 : Ext Z.heap h0) (f0 : Z.heap.size ≤ a) (E0 : Exa Z h0 a "java/util/ArrayList") (F1 : Fld Z h0 a "java/util/AbstractList" "modCount" "I" (.int mc)) (F2 : Fld Z h0 a "java/util/ArrayList" "elementData" "[Ljava/lang/Object;" (.ref aD)) (F3 : Fld Z h0 a "java/util/ArrayList" "size" "I" (.int 0)) (SD : Sta Z Z.heap "java/util/ArrayList" "DEFAULTCAPACITY_EMPTY_ELEMENTDATA" "[Ljava/lang/Object;" (.ref aD)) (VD : Arv Z Z.heap aD kD (.object "java/lang/Object") (0 : Int32) [] .null) :
    Con l (⟨"java/util/ArrayList", "grow", "()[Ljava/lang/Object;"⟩ : MethodName) jdk_38_method_7_code 1 (some (.array (.object "java/lang/Object"))) ({ frames := 2, cells := 1, slots := 10, locals := 29 } : Room) Z #[(.ref a)] h0 (fun v h L => ∃ (b : Addr) (k : ClassId), v = some (.ref b) ∧ Fr Z.heap.size L ∧ Keep h0 h [a] ∧ h0.size ≤ b ∧ OvO Z k ∧ Fld Z h a "java/util/AbstractList" "modCount" "I" (.int mc) ∧ Fld Z h a "java/util/ArrayList" "elementData" "[Ljava/lang/Object;" (.ref b) ∧ Fld Z h a "java/util/ArrayList" "size" "I" (.int 0) ∧ Arv Z h b k (.object "java/lang/Object") (10 : Int32) [.null, .null, .null, .null, .null, .null, .null, .null, .null, .null] .null) := by
  refine Con.of (plainFor_of_name pn_8) (Ls := #[rv a]) (fun m => efOf rfl) ?_
  intro p e s m below meth c T0 X0 hx hZ hby hml hown hnm hret hlk e0
  have nD : aD ≠ a := Nat.ne_of_lt (Nat.lt_of_lt_of_le VD.lt f0)
  refine go (fun _ => XS.aloadN X0.here hx rfl (hb hby d9_0) rfl rfl) ?_
  refine go (fun _ => XS.aloadN X0.here hx rfl (hb hby d9_1) rfl rfl) ?_
  show Ends p e below _ T0 (mkF m 2 #[rv a] [(.ref a), (.ref a)])
  obtain ⟨T73, X73, e73, s73⟩ := getF X0 hx hZ hown (host := "") (Or.inl (hwi hw 83 rfl)) Via.refl e0 F3 (g := (mkF m 2 #[rv a] [(.ref a), (.ref a)])) rfl rfl (hb hby d9_2)
  refine go s73 ?_
  show Ends p e below _ T73 (mkF m 5 #[rv a] [(.int (0 : Int32)), (.ref a)])
  refine go (fun _ => XT.iconstV X73.here hx rfl (1 : Int32) (hb hby d9_5) (by decide)) ?_
  refine go (fun _ => XS.iadd X73.here hx rfl (hb hby d9_6) rfl) ?_
  show Ends p e below _ T73 (mkF m 7 #[rv a] [(.int (1 : Int32)), (.ref a)])
  refine cPriv X73 hx hZ hown (by rw [hml]; rfl) e73 (hwi hw 95 rfl) (hwi hw 96 rfl) (hwi hw 97 rfl) (hwi hw 53 rfl) (hwi hw 54 rfl) (hwi hw 99 rfl) a E0 [(.int (1 : Int32))] [] rfl (rm_grow1 hw a mc aD kD _ O0 f0 E0 F1 F2 F3 SD VD) (hb hby d9_7) rfl (lenOf pd_10 rfl) (by decide) (by decide) (Nat.le_of_ble_eq_true rfl) (by decide) (by decide) ?_
  rintro v74 T74 h74 L74 X74 e74 ⟨b74, k74, rfl, N74, K74, g74, O74, F174, F274, F374, V74⟩
  have N74a := Fr.app (Fr.nil _) N74
  have K79 : Keep h0 h0 [a] := (Keep.refl _ _)
  have b78 : h0.size ≤ b74 := Nat.le_trans (K79).1 g74
  show Ends p e below _ T74 (mkF m 10 #[rv a] [(.ref b74)])
  have K81 : Keep h0 h74 [a] := (Keep.trans K79 K74 (allS (Or.inl (List.mem_of_getElem? (i := 0) rfl)) all0))
  exact endA X74 hx hret rfl rfl (hb hby d9_10) (lvN X74 hlk e74 (fun h => by rw [hret] at h; cases h) ⟨b74, _, rfl, N74a, K81, b78, O74, F174, F274, F374, V74⟩ (by decide) (by decide))
set_option maxRecDepth 65536 in
set_option maxHeartbeats 40000000 in
theorem rm_add3_0 {l : Launch} {Z : State} {a0 : Array Value} (hw : ∀ d ∈ tables_1, d.before a0 Z = true) (a x : Addr) (mc : Int32) (aD : Addr) (kD : ClassId) (h0 : Heap) (O0 : Ext Z.heap h0) (f0 : Z.heap.size ≤ a) (E0 : Exa Z h0 a "java/util/ArrayList") (F1 : Fld Z h0 a "java/util/AbstractList" "modCount" "I" (.int mc)) (F2 : Fld Z h0 a "java/util/ArrayList" "elementData" "[Ljava/lang/Object;" (.ref aD)) (F3 : Fld Z h0 a "java/util/ArrayList" "size" "I" (.int 0)) (SD : Sta Z Z.heap "java/util/ArrayList" "DEFAULTCAPACITY_EMPTY_ELEMENTDATA" "[Ljava/lang/Object;" (.ref aD)) (VD : Arv Z Z.heap aD kD (.object "java/lang/Object") (0 : Int32) [] .null) (Ex : Exa Z h0 x "com/example/scopa/scopa/schema/Column") (nax : a ≠ x) :
    Con l (⟨"java/util/ArrayList", "add", "(Ljava/lang/Object;[Ljava/lang/Object;I)V"⟩ : MethodName) jdk_38_method_24_code 4 none ({ frames := 3, cells := 1, slots := 10, locals := 41 } : Room) Z #[(.ref a), (.ref x), (.ref aD), (.int (0 : Int32))] h0 (fun v h L => ∃ (b : Addr) (k : ClassId), v = none ∧ Fr Z.heap.size L ∧ Keep h0 h [a] ∧ h0.size ≤ b ∧ OvO Z k ∧ Fld Z h a "java/util/AbstractList" "modCount" "I" (.int mc) ∧ Fld Z h a "java/util/ArrayList" "elementData" "[Ljava/lang/Object;" (.ref b) ∧ Fld Z h a "java/util/ArrayList" "size" "I" (.int 1) ∧ Arv Z h b k (.object "java/lang/Object") (10 : Int32) [(.ref x), .null, .null, .null, .null, .null, .null, .null, .null, .null] .null) := by
  refine Con.of (plainFor_of_name pn_8) (Ls := #[rv a, rv x, rv aD, iv (0 : Int32)]) (fun m => efOf rfl) ?_
  intro p e s m below meth c T0 X0 hx hZ hby hml hown hnm hret hlk e0
  have nD : aD ≠ a := Nat.ne_of_lt (Nat.lt_of_lt_of_le VD.lt f0)
  refine go (fun _ => XS.iloadN X0.here hx rfl (hb hby d10_0) rfl) ?_
  refine go (fun _ => XS.aloadN X0.here hx rfl (hb hby d10_1) rfl rfl) ?_
  show Ends p e below _ T0 (mkF m 2 #[rv a, rv x, rv aD, iv (0 : Int32)] [(.ref aD), (.int (0 : Int32))])
  have F82 := (Arv.ext VD O0)
  obtain ⟨cl83, A83, -, S83, M83, -⟩ := id F82
  refine go (fun _ => X0.arraylength hx (cell := cl83) (by rw [e0]; exact A83.1) (State.isArrayOf_alike hZ.alike A83.2.1) (g := (mkF m 2 #[rv a, rv x, rv aD, iv (0 : Int32)] [(.ref aD), (.int (0 : Int32))])) rfl rfl (hb hby d10_2) _) ?_
  rw [len_of S83 M83]
  show Ends p e below _ T0 (mkF m 3 #[rv a, rv x, rv aD, iv (0 : Int32)] [(.int (0 : Int32)), (.int (0 : Int32))])
  refine go (fun _ => XS.icmpNo X0.here hx rfl (hb hby d10_3) rfl (XT.ii_ne_f ((by decide) : (0 : Int32) = (0 : Int32)))) ?_
  show Ends p e below _ T0 (mkF m 6 #[rv a, rv x, rv aD, iv (0 : Int32)] [])
  refine go (fun _ => XS.aloadN X0.here hx rfl (hb hby d10_6) rfl rfl) ?_
  show Ends p e below _ T0 (mkF m 7 #[rv a, rv x, rv aD, iv (0 : Int32)] [(.ref a)])
  refine cPriv X0 hx hZ hown (by rw [hml]; rfl) e0 (hwi hw 90 rfl) (hwi hw 91 rfl) (hwi hw 92 rfl) (hwi hw 53 rfl) (hwi hw 54 rfl) (hwi hw 94 rfl) a E0 [] [] rfl (rm_grow0 hw a mc aD kD _ O0 f0 E0 F1 F2 F3 SD VD) (hb hby d10_7) rfl (lenOf pd_11 rfl) (by decide) (by decide) (Nat.le_of_ble_eq_true rfl) (by decide) (by decide) ?_
  rintro v84 T84 h84 L84 X84 e84 ⟨b84, k84, rfl, N84, K84, g84, O84, F184, F284, F384, V84⟩
  have N84a := Fr.app (Fr.nil _) N84
  have n85 : a ≠ b84 := Nat.ne_of_lt (Nat.lt_of_lt_of_le (E0.lt) g84)
  have f88 : Z.heap.size ≤ b84 := Nat.le_trans (O0).1 g84
  have K89 : Keep h0 h0 [a] := (Keep.refl _ _)
  have b88 : h0.size ≤ b84 := Nat.le_trans (K89).1 g84
  show Ends p e below _ T84 (mkF m 10 #[rv a, rv x, rv aD, iv (0 : Int32)] [(.ref b84)])
  refine go (fun _ => XS.astoreN X84.here hx rfl (hb hby d10_10) rfl rfl (l' := #[rv a, rv x, rv b84, iv (0 : Int32)]) rfl) ?_
  refine go (fun _ => XS.aloadN X84.here hx rfl (hb hby d10_11) rfl rfl) ?_
  refine go (fun _ => XS.iloadN X84.here hx rfl (hb hby d10_12) rfl) ?_
  refine go (fun _ => XS.aloadN X84.here hx rfl (hb hby d10_13) rfl rfl) ?_
  show Ends p e below _ T84 (mkF m 14 #[rv a, rv x, rv b84, iv (0 : Int32)] [(.ref x), (.int (0 : Int32)), (.ref b84)])
  obtain ⟨cl91, A91, q91, S91, M91, H91, G91⟩ := id V84
  have F92 := (Exa.keep Ex K84)
  obtain ⟨T91, h91, X91, e91, W91, s91⟩ := stR X84 hx hZ e84 A91 (j := (0 : Int32)) (inb_of S91 (by decide)) rfl (Sto.ofV A91 q91 O84.1 (Ins.of_exa F92 (hwi hw 106 rfl))) (g := (mkF m 14 #[rv a, rv x, rv b84, iv (0 : Int32)] [(.ref x), (.int (0 : Int32)), (.ref b84)])) rfl rfl (hb hby d10_14)
  have N91 := Fr.snoc X91 N84a f88
  have V91 : Arv Z h91 b84 k84 (.object "java/lang/Object") (10 : Int32) [(.ref x), .null, .null, .null, .null, .null, .null, .null, .null, .null] .null := Arv.set A91 q91 S91 M91 H91 G91 rfl W91 0 (by decide) (Nat.le_of_ble_eq_true rfl)
  refine go s91 ?_
  show Ends p e below _ T91 (mkF m 15 #[rv a, rv x, rv b84, iv (0 : Int32)] [])
  refine go (fun _ => XS.aloadN X91.here hx rfl (hb hby d10_15) rfl rfl) ?_
  refine go (fun _ => XS.iloadN X91.here hx rfl (hb hby d10_16) rfl) ?_
  refine go (fun _ => XT.iconstV X91.here hx rfl (1 : Int32) (hb hby d10_17) (by decide)) ?_
  refine go (fun _ => XS.iadd X91.here hx rfl (hb hby d10_18) rfl) ?_
  show Ends p e below _ T91 (mkF m 19 #[rv a, rv x, rv b84, iv (0 : Int32)] [(.int (1 : Int32)), (.ref a)])
  have F94 := (Exa.wr W91 (Exa.keep E0 K84))
  have F95 := (Fld.other W91 F384 (Or.inl n85))
  obtain ⟨T96, h96, X96, e96, W96, s96⟩ := putF X91 hx hZ hown (host := "") (Or.inl (hwi hw 83 rfl)) Via.refl e91 F95 F94 (Or.inl (hwi hw 84 rfl)) (hwi hw 53 rfl) (ty := .int) (by decide) rfl rfl (g := (mkF m 19 #[rv a, rv x, rv b84, iv (0 : Int32)] [(.int (1 : Int32)), (.ref a)])) rfl rfl (hb hby d10_19)
  have N96 := Fr.snoc X96 N91 f0
  refine go s96 ?_
  show Ends p e below _ T96 (mkF m 22 #[rv a, rv x, rv b84, iv (0 : Int32)] [])
  have K98 : Keep h0 h96 [a] := (Keep.wr (Keep.wr (Keep.trans K89 K84 (allS (Or.inl (List.mem_of_getElem? (i := 0) rfl)) all0)) W91 (Or.inr b88)) W96 (Or.inl (List.mem_of_getElem? (i := 0) rfl)))
  have F99 := (Fld.other W96 (Fld.other W91 F184 (Or.inl n85)) (Or.inr (slot_ne (a0 := a0) (Or.inl (hwi hw 72 rfl)) (Or.inl (hwi hw 84 rfl)) (by decide) (t := .int) (t' := .int) (by decide) (by decide))))
  have F100 := (Fld.other W96 (Fld.other W91 F284 (Or.inl n85)) (Or.inr (slot_ne (a0 := a0) (Or.inl (hwi hw 75 rfl)) (Or.inl (hwi hw 84 rfl)) (by decide) (t := (.array (.object "java/lang/Object"))) (t' := .int) (by decide) (by decide))))
  have F101 := (Fld.same W96 F95)
  have F102 := (Arv.other V91 W96 (Ne.symm n85))
  exact endV X96 hx hret (hb hby d10_22) (lvN X96 hlk e96 (fun _ => rfl) ⟨b84, _, rfl, N96, K98, b88, O84, F99, F100, F101, F102⟩ (by decide) (by decide))
set_option maxRecDepth 65536 in
set_option maxHeartbeats 40000000 in
theorem rm_add_0 {l : Launch} {Z : State} {a0 : Array Value} (hw : ∀ d ∈ tables_1, d.before a0 Z = true) (a x : Addr) (mc : Int32) (aD : Addr) (kD : ClassId) (h0 : Heap) (O0 : Ext Z.heap h0) (f0 : Z.heap.size ≤ a) (E0 : Exa Z h0 a "java/util/ArrayList") (F1 : Fld Z h0 a "java/util/AbstractList" "modCount" "I" (.int mc)) (F2 : Fld Z h0 a "java/util/ArrayList" "elementData" "[Ljava/lang/Object;" (.ref aD)) (F3 : Fld Z h0 a "java/util/ArrayList" "size" "I" (.int 0)) (SD : Sta Z Z.heap "java/util/ArrayList" "DEFAULTCAPACITY_EMPTY_ELEMENTDATA" "[Ljava/lang/Object;" (.ref aD)) (VD : Arv Z Z.heap aD kD (.object "java/lang/Object") (0 : Int32) [] .null) (Ex : Exa Z h0 x "com/example/scopa/scopa/schema/Column") (nax : a ≠ x) :
    Con l (⟨"java/util/ArrayList", "add", "(Ljava/lang/Object;)Z"⟩ : MethodName) jdk_38_method_25_code 2 (some .boolean) ({ frames := 4, cells := 1, slots := 10, locals := 56 } : Room) Z #[(.ref a), (.ref x)] h0 (fun v h L => ∃ (b : Addr) (k : ClassId), v = some (.int 1) ∧ Fr Z.heap.size L ∧ Keep h0 h [a] ∧ h0.size ≤ b ∧ OvO Z k ∧ Fld Z h a "java/util/AbstractList" "modCount" "I" (.int (mc + (1 : Int32))) ∧ Fld Z h a "java/util/ArrayList" "elementData" "[Ljava/lang/Object;" (.ref b) ∧ Fld Z h a "java/util/ArrayList" "size" "I" (.int 1) ∧ Arv Z h b k (.object "java/lang/Object") (10 : Int32) [(.ref x), .null, .null, .null, .null, .null, .null, .null, .null, .null] .null) := by
  refine Con.of (plainFor_of_name pn_8) (Ls := #[rv a, rv x]) (fun m => efOf rfl) ?_
  intro p e s m below meth c T0 X0 hx hZ hby hml hown hnm hret hlk e0
  have nD : aD ≠ a := Nat.ne_of_lt (Nat.lt_of_lt_of_le VD.lt f0)
  refine go (fun _ => XS.aloadN X0.here hx rfl (hb hby d11_0) rfl rfl) ?_
  refine go (fun _ => XS.dup X0.here hx rfl (hb hby d11_1) rfl rfl) ?_
  show Ends p e below _ T0 (mkF m 2 #[rv a, rv x] [(.ref a), (.ref a)])
  obtain ⟨T103, X103, e103, s103⟩ := getF X0 hx hZ hown (host := "") (Or.inl (hwi hw 81 rfl)) (Via.of (hwi hw 82 rfl)) e0 F1 (g := (mkF m 2 #[rv a, rv x] [(.ref a), (.ref a)])) rfl rfl (hb hby d11_2)
  refine go s103 ?_
  show Ends p e below _ T103 (mkF m 5 #[rv a, rv x] [(.int mc), (.ref a)])
  refine go (fun _ => XT.iconstV X103.here hx rfl (1 : Int32) (hb hby d11_5) (by decide)) ?_
  refine go (fun _ => XS.iadd X103.here hx rfl (hb hby d11_6) rfl) ?_
  show Ends p e below _ T103 (mkF m 7 #[rv a, rv x] [(.int (mc + (1 : Int32))), (.ref a)])
  obtain ⟨T104, h104, X104, e104, W104, s104⟩ := putF X103 hx hZ hown (host := "") (Or.inl (hwi hw 81 rfl)) (Via.of (hwi hw 82 rfl)) e103 F1 E0 (Or.inl (hwi hw 72 rfl)) (hwi hw 53 rfl) (ty := .int) (by decide) rfl rfl (g := (mkF m 7 #[rv a, rv x] [(.int (mc + (1 : Int32))), (.ref a)])) rfl rfl (hb hby d11_7)
  have N104 := Fr.snoc X104 (Fr.nil _) f0
  have O105 : Ext Z.heap h104 := xw O0 W104 f0
  refine go s104 ?_
  show Ends p e below _ T104 (mkF m 10 #[rv a, rv x] [])
  refine go (fun _ => XS.aloadN X104.here hx rfl (hb hby d11_10) rfl rfl) ?_
  refine go (fun _ => XS.aloadN X104.here hx rfl (hb hby d11_11) rfl rfl) ?_
  refine go (fun _ => XS.aloadN X104.here hx rfl (hb hby d11_12) rfl rfl) ?_
  show Ends p e below _ T104 (mkF m 13 #[rv a, rv x] [(.ref a), (.ref x), (.ref a)])
  have F106 := (Fld.other W104 F2 (Or.inr (slot_ne (a0 := a0) (Or.inl (hwi hw 75 rfl)) (Or.inl (hwi hw 72 rfl)) (by decide) (t := (.array (.object "java/lang/Object"))) (t' := .int) (by decide) (by decide))))
  obtain ⟨T107, X107, e107, s107⟩ := getF X104 hx hZ hown (host := "") (Or.inl (hwi hw 74 rfl)) Via.refl e104 F106 (g := (mkF m 13 #[rv a, rv x] [(.ref a), (.ref x), (.ref a)])) rfl rfl (hb hby d11_13)
  refine go s107 ?_
  show Ends p e below _ T107 (mkF m 16 #[rv a, rv x] [(.ref aD), (.ref x), (.ref a)])
  refine go (fun _ => XS.aloadN X107.here hx rfl (hb hby d11_16) rfl rfl) ?_
  show Ends p e below _ T107 (mkF m 17 #[rv a, rv x] [(.ref a), (.ref aD), (.ref x), (.ref a)])
  have F108 := (Fld.other W104 F3 (Or.inr (slot_ne (a0 := a0) (Or.inl (hwi hw 84 rfl)) (Or.inl (hwi hw 72 rfl)) (by decide) (t := .int) (t' := .int) (by decide) (by decide))))
  obtain ⟨T109, X109, e109, s109⟩ := getF X107 hx hZ hown (host := "") (Or.inl (hwi hw 83 rfl)) Via.refl e107 F108 (g := (mkF m 17 #[rv a, rv x] [(.ref a), (.ref aD), (.ref x), (.ref a)])) rfl rfl (hb hby d11_17)
  refine go s109 ?_
  show Ends p e below _ T109 (mkF m 20 #[rv a, rv x] [(.int (0 : Int32)), (.ref aD), (.ref x), (.ref a)])
  have F110 := (Exa.wr W104 E0)
  have F111 := (Fld.same W104 F1)
  have F112 := (Exa.wr W104 Ex)
  refine cPriv X109 hx hZ hown (by rw [hml]; rfl) e109 (hwi hw 85 rfl) (hwi hw 86 rfl) (hwi hw 87 rfl) (hwi hw 53 rfl) (hwi hw 54 rfl) (hwi hw 89 rfl) a F110 [(.ref x), (.ref aD), (.int (0 : Int32))] [] rfl (rm_add3_0 hw a x (mc + (1 : Int32)) aD kD _ O105 f0 F110 F111 F106 F108 SD VD F112 nax) (hb hby d11_20) rfl (lenOf pd_12 rfl) (by decide) (by decide) (Nat.le_of_ble_eq_true rfl) (by decide) (by decide) ?_
  rintro v113 T113 h113 L113 X113 e113 ⟨b113, k113, rfl, N113, K113, g113, O113, F1113, F2113, F3113, V113⟩
  have N113a := Fr.app N104 N113
  have K119 : Keep h0 h104 [a] := (Keep.wr (Keep.refl _ _) W104 (Or.inl (List.mem_of_getElem? (i := 0) rfl)))
  have b118 : h0.size ≤ b113 := Nat.le_trans (K119).1 g113
  show Ends p e below _ T113 (mkF m 23 #[rv a, rv x] [])
  refine go (fun _ => XT.iconstV X113.here hx rfl (1 : Int32) (hb hby d11_23) (by decide)) ?_
  show Ends p e below _ T113 (mkF m 24 #[rv a, rv x] [(.int (1 : Int32))])
  have K121 : Keep h0 h113 [a] := (Keep.trans K119 K113 (allS (Or.inl (List.mem_of_getElem? (i := 0) rfl)) all0))
  exact endN X113 hx hret (by simp) (hb hby d11_24) (lvN X113 hlk e113 (fun h => by rw [hret] at h; cases h) ⟨b113, _, by simp [nar], N113a, K121, b118, O113, F1113, F2113, F3113, V113⟩ (by decide) (by decide))
set_option maxRecDepth 65536 in
set_option maxHeartbeats 40000000 in
theorem rm_add3_1 {l : Launch} {Z : State} {a0 : Array Value} (hw : ∀ d ∈ tables_1, d.before a0 Z = true) (a x b : Addr) (k : ClassId) (mc : Int32) (x0 : Addr) (h0 : Heap) (O0 : Ext Z.heap h0) (f0 : Z.heap.size ≤ a) (E0 : Exa Z h0 a "java/util/ArrayList") (F1 : Fld Z h0 a "java/util/AbstractList" "modCount" "I" (.int mc)) (F2 : Fld Z h0 a "java/util/ArrayList" "elementData" "[Ljava/lang/Object;" (.ref b)) (F3 : Fld Z h0 a "java/util/ArrayList" "size" "I" (.int 1)) (fb : Z.heap.size ≤ b) (nab : a ≠ b) (Ok : OvO Z k) (Vb : Arv Z h0 b k (.object "java/lang/Object") (10 : Int32) [(.ref x0), .null, .null, .null, .null, .null, .null, .null, .null, .null] .null) (Ex : Exa Z h0 x "com/example/scopa/scopa/schema/Column") (nax : a ≠ x) (nbx : b ≠ x) :
    Con l (⟨"java/util/ArrayList", "add", "(Ljava/lang/Object;[Ljava/lang/Object;I)V"⟩ : MethodName) jdk_38_method_24_code 4 none ({ frames := 0, cells := 0, slots := 0, locals := 0 } : Room) Z #[(.ref a), (.ref x), (.ref b), (.int (1 : Int32))] h0 (fun v h L => v = none ∧ Fr Z.heap.size L ∧ Keep h0 h [a, b] ∧ Fld Z h a "java/util/AbstractList" "modCount" "I" (.int mc) ∧ Fld Z h a "java/util/ArrayList" "elementData" "[Ljava/lang/Object;" (.ref b) ∧ Fld Z h a "java/util/ArrayList" "size" "I" (.int 2) ∧ Arv Z h b k (.object "java/lang/Object") (10 : Int32) [(.ref x0), (.ref x), .null, .null, .null, .null, .null, .null, .null, .null] .null) := by
  refine Con.of (plainFor_of_name pn_8) (Ls := #[rv a, rv x, rv b, iv (1 : Int32)]) (fun m => efOf rfl) ?_
  intro p e s m below meth c T0 X0 hx hZ hby hml hown hnm hret hlk e0
  refine go (fun _ => XS.iloadN X0.here hx rfl (hb hby d10_0) rfl) ?_
  refine go (fun _ => XS.aloadN X0.here hx rfl (hb hby d10_1) rfl rfl) ?_
  show Ends p e below _ T0 (mkF m 2 #[rv a, rv x, rv b, iv (1 : Int32)] [(.ref b), (.int (1 : Int32))])
  obtain ⟨cl122, A122, -, S122, M122, -⟩ := id Vb
  refine go (fun _ => X0.arraylength hx (cell := cl122) (by rw [e0]; exact A122.1) (State.isArrayOf_alike hZ.alike A122.2.1) (g := (mkF m 2 #[rv a, rv x, rv b, iv (1 : Int32)] [(.ref b), (.int (1 : Int32))])) rfl rfl (hb hby d10_2) _) ?_
  rw [len_of S122 M122]
  show Ends p e below _ T0 (mkF m 3 #[rv a, rv x, rv b, iv (1 : Int32)] [(.int (10 : Int32)), (.int (1 : Int32))])
  refine go (fun _ => XS.icmpYes X0.here hx rfl (pc0 := 3) (pc' := 11) rfl (hb hby d10_3) rfl (XT.ii_ne_t ((by decide) : ¬ ((1 : Int32) = (10 : Int32)))) (by decide) (by decide)) ?_
  show Ends p e below _ T0 (mkF m 11 #[rv a, rv x, rv b, iv (1 : Int32)] [])
  refine go (fun _ => XS.aloadN X0.here hx rfl (hb hby d10_11) rfl rfl) ?_
  refine go (fun _ => XS.iloadN X0.here hx rfl (hb hby d10_12) rfl) ?_
  refine go (fun _ => XS.aloadN X0.here hx rfl (hb hby d10_13) rfl rfl) ?_
  show Ends p e below _ T0 (mkF m 14 #[rv a, rv x, rv b, iv (1 : Int32)] [(.ref x), (.int (1 : Int32)), (.ref b)])
  obtain ⟨cl123, A123, q123, S123, M123, H123, G123⟩ := id Vb
  obtain ⟨T123, h123, X123, e123, W123, s123⟩ := stR X0 hx hZ e0 A123 (j := (1 : Int32)) (inb_of S123 (by decide)) rfl (Sto.ofV A123 q123 Ok.1 (Ins.of_exa Ex (hwi hw 106 rfl))) (g := (mkF m 14 #[rv a, rv x, rv b, iv (1 : Int32)] [(.ref x), (.int (1 : Int32)), (.ref b)])) rfl rfl (hb hby d10_14)
  have N123 := Fr.snoc X123 (Fr.nil _) fb
  have V123 : Arv Z h123 b k (.object "java/lang/Object") (10 : Int32) [(.ref x0), (.ref x), .null, .null, .null, .null, .null, .null, .null, .null] .null := Arv.set A123 q123 S123 M123 H123 G123 rfl W123 1 (by decide) (Nat.le_of_ble_eq_true rfl)
  refine go s123 ?_
  show Ends p e below _ T123 (mkF m 15 #[rv a, rv x, rv b, iv (1 : Int32)] [])
  refine go (fun _ => XS.aloadN X123.here hx rfl (hb hby d10_15) rfl rfl) ?_
  refine go (fun _ => XS.iloadN X123.here hx rfl (hb hby d10_16) rfl) ?_
  refine go (fun _ => XT.iconstV X123.here hx rfl (1 : Int32) (hb hby d10_17) (by decide)) ?_
  refine go (fun _ => XS.iadd X123.here hx rfl (hb hby d10_18) rfl) ?_
  show Ends p e below _ T123 (mkF m 19 #[rv a, rv x, rv b, iv (1 : Int32)] [(.int (2 : Int32)), (.ref a)])
  have F125 := (Exa.wr W123 E0)
  have F126 := (Fld.other W123 F3 (Or.inl nab))
  obtain ⟨T127, h127, X127, e127, W127, s127⟩ := putF X123 hx hZ hown (host := "") (Or.inl (hwi hw 83 rfl)) Via.refl e123 F126 F125 (Or.inl (hwi hw 84 rfl)) (hwi hw 53 rfl) (ty := .int) (by decide) rfl rfl (g := (mkF m 19 #[rv a, rv x, rv b, iv (1 : Int32)] [(.int (2 : Int32)), (.ref a)])) rfl rfl (hb hby d10_19)
  have N127 := Fr.snoc X127 N123 f0
  refine go s127 ?_
  show Ends p e below _ T127 (mkF m 22 #[rv a, rv x, rv b, iv (1 : Int32)] [])
  have K129 : Keep h0 h127 [a, b] := (Keep.wr (Keep.wr (Keep.refl _ _) W123 (Or.inl (List.mem_of_getElem? (i := 1) rfl))) W127 (Or.inl (List.mem_of_getElem? (i := 0) rfl)))
  have F130 := (Fld.other W127 (Fld.other W123 F1 (Or.inl nab)) (Or.inr (slot_ne (a0 := a0) (Or.inl (hwi hw 72 rfl)) (Or.inl (hwi hw 84 rfl)) (by decide) (t := .int) (t' := .int) (by decide) (by decide))))
  have F131 := (Fld.other W127 (Fld.other W123 F2 (Or.inl nab)) (Or.inr (slot_ne (a0 := a0) (Or.inl (hwi hw 75 rfl)) (Or.inl (hwi hw 84 rfl)) (by decide) (t := (.array (.object "java/lang/Object"))) (t' := .int) (by decide) (by decide))))
  have F132 := (Fld.same W127 F126)
  have F133 := (Arv.other V123 W127 (Ne.symm nab))
  exact endV X127 hx hret (hb hby d10_22) (lvN X127 hlk e127 (fun _ => rfl) ⟨rfl, N127, K129, F130, F131, F132, F133⟩ (by decide) (by decide))
set_option maxRecDepth 65536 in
set_option maxHeartbeats 40000000 in
theorem rm_add_1 {l : Launch} {Z : State} {a0 : Array Value} (hw : ∀ d ∈ tables_1, d.before a0 Z = true) (a x b : Addr) (k : ClassId) (mc : Int32) (x0 : Addr) (h0 : Heap) (O0 : Ext Z.heap h0) (f0 : Z.heap.size ≤ a) (E0 : Exa Z h0 a "java/util/ArrayList") (F1 : Fld Z h0 a "java/util/AbstractList" "modCount" "I" (.int mc)) (F2 : Fld Z h0 a "java/util/ArrayList" "elementData" "[Ljava/lang/Object;" (.ref b)) (F3 : Fld Z h0 a "java/util/ArrayList" "size" "I" (.int 1)) (fb : Z.heap.size ≤ b) (nab : a ≠ b) (Ok : OvO Z k) (Vb : Arv Z h0 b k (.object "java/lang/Object") (10 : Int32) [(.ref x0), .null, .null, .null, .null, .null, .null, .null, .null, .null] .null) (Ex : Exa Z h0 x "com/example/scopa/scopa/schema/Column") (nax : a ≠ x) (nbx : b ≠ x) :
    Con l (⟨"java/util/ArrayList", "add", "(Ljava/lang/Object;)Z"⟩ : MethodName) jdk_38_method_25_code 2 (some .boolean) ({ frames := 1, cells := 0, slots := 0, locals := 15 } : Room) Z #[(.ref a), (.ref x)] h0 (fun v h L => v = some (.int 1) ∧ Fr Z.heap.size L ∧ Keep h0 h [a, b] ∧ Fld Z h a "java/util/AbstractList" "modCount" "I" (.int (mc + (1 : Int32))) ∧ Fld Z h a "java/util/ArrayList" "elementData" "[Ljava/lang/Object;" (.ref b) ∧ Fld Z h a "java/util/ArrayList" "size" "I" (.int 2) ∧ Arv Z h b k (.object "java/lang/Object") (10 : Int32) [(.ref x0), (.ref x), .null, .null, .null, .null, .null, .null, .null, .null] .null) := by
  refine Con.of (plainFor_of_name pn_8) (Ls := #[rv a, rv x]) (fun m => efOf rfl) ?_
  intro p e s m below meth c T0 X0 hx hZ hby hml hown hnm hret hlk e0
  refine go (fun _ => XS.aloadN X0.here hx rfl (hb hby d11_0) rfl rfl) ?_
  refine go (fun _ => XS.dup X0.here hx rfl (hb hby d11_1) rfl rfl) ?_
  show Ends p e below _ T0 (mkF m 2 #[rv a, rv x] [(.ref a), (.ref a)])
  obtain ⟨T134, X134, e134, s134⟩ := getF X0 hx hZ hown (host := "") (Or.inl (hwi hw 81 rfl)) (Via.of (hwi hw 82 rfl)) e0 F1 (g := (mkF m 2 #[rv a, rv x] [(.ref a), (.ref a)])) rfl rfl (hb hby d11_2)
  refine go s134 ?_
  show Ends p e below _ T134 (mkF m 5 #[rv a, rv x] [(.int mc), (.ref a)])
  refine go (fun _ => XT.iconstV X134.here hx rfl (1 : Int32) (hb hby d11_5) (by decide)) ?_
  refine go (fun _ => XS.iadd X134.here hx rfl (hb hby d11_6) rfl) ?_
  show Ends p e below _ T134 (mkF m 7 #[rv a, rv x] [(.int (mc + (1 : Int32))), (.ref a)])
  obtain ⟨T135, h135, X135, e135, W135, s135⟩ := putF X134 hx hZ hown (host := "") (Or.inl (hwi hw 81 rfl)) (Via.of (hwi hw 82 rfl)) e134 F1 E0 (Or.inl (hwi hw 72 rfl)) (hwi hw 53 rfl) (ty := .int) (by decide) rfl rfl (g := (mkF m 7 #[rv a, rv x] [(.int (mc + (1 : Int32))), (.ref a)])) rfl rfl (hb hby d11_7)
  have N135 := Fr.snoc X135 (Fr.nil _) f0
  have O136 : Ext Z.heap h135 := xw O0 W135 f0
  refine go s135 ?_
  show Ends p e below _ T135 (mkF m 10 #[rv a, rv x] [])
  refine go (fun _ => XS.aloadN X135.here hx rfl (hb hby d11_10) rfl rfl) ?_
  refine go (fun _ => XS.aloadN X135.here hx rfl (hb hby d11_11) rfl rfl) ?_
  refine go (fun _ => XS.aloadN X135.here hx rfl (hb hby d11_12) rfl rfl) ?_
  show Ends p e below _ T135 (mkF m 13 #[rv a, rv x] [(.ref a), (.ref x), (.ref a)])
  have F137 := (Fld.other W135 F2 (Or.inr (slot_ne (a0 := a0) (Or.inl (hwi hw 75 rfl)) (Or.inl (hwi hw 72 rfl)) (by decide) (t := (.array (.object "java/lang/Object"))) (t' := .int) (by decide) (by decide))))
  obtain ⟨T138, X138, e138, s138⟩ := getF X135 hx hZ hown (host := "") (Or.inl (hwi hw 74 rfl)) Via.refl e135 F137 (g := (mkF m 13 #[rv a, rv x] [(.ref a), (.ref x), (.ref a)])) rfl rfl (hb hby d11_13)
  refine go s138 ?_
  show Ends p e below _ T138 (mkF m 16 #[rv a, rv x] [(.ref b), (.ref x), (.ref a)])
  refine go (fun _ => XS.aloadN X138.here hx rfl (hb hby d11_16) rfl rfl) ?_
  show Ends p e below _ T138 (mkF m 17 #[rv a, rv x] [(.ref a), (.ref b), (.ref x), (.ref a)])
  have F139 := (Fld.other W135 F3 (Or.inr (slot_ne (a0 := a0) (Or.inl (hwi hw 84 rfl)) (Or.inl (hwi hw 72 rfl)) (by decide) (t := .int) (t' := .int) (by decide) (by decide))))
  obtain ⟨T140, X140, e140, s140⟩ := getF X138 hx hZ hown (host := "") (Or.inl (hwi hw 83 rfl)) Via.refl e138 F139 (g := (mkF m 17 #[rv a, rv x] [(.ref a), (.ref b), (.ref x), (.ref a)])) rfl rfl (hb hby d11_17)
  refine go s140 ?_
  show Ends p e below _ T140 (mkF m 20 #[rv a, rv x] [(.int (1 : Int32)), (.ref b), (.ref x), (.ref a)])
  have F141 := (Exa.wr W135 E0)
  have F142 := (Fld.same W135 F1)
  have F143 := (Exa.wr W135 Ex)
  have F144 := (Arv.other Vb W135 (Ne.symm nab))
  refine cPriv X140 hx hZ hown (by rw [hml]; rfl) e140 (hwi hw 85 rfl) (hwi hw 86 rfl) (hwi hw 87 rfl) (hwi hw 53 rfl) (hwi hw 54 rfl) (hwi hw 89 rfl) a F141 [(.ref x), (.ref b), (.int (1 : Int32))] [] rfl (rm_add3_1 hw a x b k (mc + (1 : Int32)) x0 _ O136 f0 F141 F142 F137 F139 fb nab Ok F144 F143 nax nbx) (hb hby d11_20) rfl (lenOf pd_12 rfl) (by decide) (by decide) (Nat.le_of_ble_eq_true rfl) (by decide) (by decide) ?_
  rintro v145 T145 h145 L145 X145 e145 ⟨rfl, N145, K145, F1145, F2145, F3145, V145⟩
  have N145a := Fr.app N135 N145
  show Ends p e below _ T145 (mkF m 23 #[rv a, rv x] [])
  refine go (fun _ => XT.iconstV X145.here hx rfl (1 : Int32) (hb hby d11_23) (by decide)) ?_
  show Ends p e below _ T145 (mkF m 24 #[rv a, rv x] [(.int (1 : Int32))])
  have K147 : Keep h0 h145 [a, b] := (Keep.trans (Keep.wr (Keep.refl _ _) W135 (Or.inl (List.mem_of_getElem? (i := 0) rfl))) K145 (allS (Or.inl (List.mem_of_getElem? (i := 0) rfl)) (allS (Or.inl (List.mem_of_getElem? (i := 1) rfl)) all0)))
  exact endN X145 hx hret (by simp) (hb hby d11_24) (lvN X145 hlk e145 (fun h => by rw [hret] at h; cases h) ⟨by simp [nar], N145a, K147, F1145, F2145, F3145, V145⟩ (by decide) (by decide))
set_option maxRecDepth 65536 in
set_option maxHeartbeats 40000000 in
theorem rm_add3_2 {l : Launch} {Z : State} {a0 : Array Value} (hw : ∀ d ∈ tables_1, d.before a0 Z = true) (a x b : Addr) (k : ClassId) (mc : Int32) (x0 x1 : Addr) (h0 : Heap) (O0 : Ext Z.heap h0) (f0 : Z.heap.size ≤ a) (E0 : Exa Z h0 a "java/util/ArrayList") (F1 : Fld Z h0 a "java/util/AbstractList" "modCount" "I" (.int mc)) (F2 : Fld Z h0 a "java/util/ArrayList" "elementData" "[Ljava/lang/Object;" (.ref b)) (F3 : Fld Z h0 a "java/util/ArrayList" "size" "I" (.int 2)) (fb : Z.heap.size ≤ b) (nab : a ≠ b) (Ok : OvO Z k) (Vb : Arv Z h0 b k (.object "java/lang/Object") (10 : Int32) [(.ref x0), (.ref x1), .null, .null, .null, .null, .null, .null, .null, .null] .null) (Ex : Exa Z h0 x "com/example/scopa/scopa/schema/Column") (nax : a ≠ x) (nbx : b ≠ x) :
    Con l (⟨"java/util/ArrayList", "add", "(Ljava/lang/Object;[Ljava/lang/Object;I)V"⟩ : MethodName) jdk_38_method_24_code 4 none ({ frames := 0, cells := 0, slots := 0, locals := 0 } : Room) Z #[(.ref a), (.ref x), (.ref b), (.int (2 : Int32))] h0 (fun v h L => v = none ∧ Fr Z.heap.size L ∧ Keep h0 h [a, b] ∧ Fld Z h a "java/util/AbstractList" "modCount" "I" (.int mc) ∧ Fld Z h a "java/util/ArrayList" "elementData" "[Ljava/lang/Object;" (.ref b) ∧ Fld Z h a "java/util/ArrayList" "size" "I" (.int 3) ∧ Arv Z h b k (.object "java/lang/Object") (10 : Int32) [(.ref x0), (.ref x1), (.ref x), .null, .null, .null, .null, .null, .null, .null] .null) := by
  refine Con.of (plainFor_of_name pn_8) (Ls := #[rv a, rv x, rv b, iv (2 : Int32)]) (fun m => efOf rfl) ?_
  intro p e s m below meth c T0 X0 hx hZ hby hml hown hnm hret hlk e0
  refine go (fun _ => XS.iloadN X0.here hx rfl (hb hby d10_0) rfl) ?_
  refine go (fun _ => XS.aloadN X0.here hx rfl (hb hby d10_1) rfl rfl) ?_
  show Ends p e below _ T0 (mkF m 2 #[rv a, rv x, rv b, iv (2 : Int32)] [(.ref b), (.int (2 : Int32))])
  obtain ⟨cl148, A148, -, S148, M148, -⟩ := id Vb
  refine go (fun _ => X0.arraylength hx (cell := cl148) (by rw [e0]; exact A148.1) (State.isArrayOf_alike hZ.alike A148.2.1) (g := (mkF m 2 #[rv a, rv x, rv b, iv (2 : Int32)] [(.ref b), (.int (2 : Int32))])) rfl rfl (hb hby d10_2) _) ?_
  rw [len_of S148 M148]
  show Ends p e below _ T0 (mkF m 3 #[rv a, rv x, rv b, iv (2 : Int32)] [(.int (10 : Int32)), (.int (2 : Int32))])
  refine go (fun _ => XS.icmpYes X0.here hx rfl (pc0 := 3) (pc' := 11) rfl (hb hby d10_3) rfl (XT.ii_ne_t ((by decide) : ¬ ((2 : Int32) = (10 : Int32)))) (by decide) (by decide)) ?_
  show Ends p e below _ T0 (mkF m 11 #[rv a, rv x, rv b, iv (2 : Int32)] [])
  refine go (fun _ => XS.aloadN X0.here hx rfl (hb hby d10_11) rfl rfl) ?_
  refine go (fun _ => XS.iloadN X0.here hx rfl (hb hby d10_12) rfl) ?_
  refine go (fun _ => XS.aloadN X0.here hx rfl (hb hby d10_13) rfl rfl) ?_
  show Ends p e below _ T0 (mkF m 14 #[rv a, rv x, rv b, iv (2 : Int32)] [(.ref x), (.int (2 : Int32)), (.ref b)])
  obtain ⟨cl149, A149, q149, S149, M149, H149, G149⟩ := id Vb
  obtain ⟨T149, h149, X149, e149, W149, s149⟩ := stR X0 hx hZ e0 A149 (j := (2 : Int32)) (inb_of S149 (by decide)) rfl (Sto.ofV A149 q149 Ok.1 (Ins.of_exa Ex (hwi hw 106 rfl))) (g := (mkF m 14 #[rv a, rv x, rv b, iv (2 : Int32)] [(.ref x), (.int (2 : Int32)), (.ref b)])) rfl rfl (hb hby d10_14)
  have N149 := Fr.snoc X149 (Fr.nil _) fb
  have V149 : Arv Z h149 b k (.object "java/lang/Object") (10 : Int32) [(.ref x0), (.ref x1), (.ref x), .null, .null, .null, .null, .null, .null, .null] .null := Arv.set A149 q149 S149 M149 H149 G149 rfl W149 2 (by decide) (Nat.le_of_ble_eq_true rfl)
  refine go s149 ?_
  show Ends p e below _ T149 (mkF m 15 #[rv a, rv x, rv b, iv (2 : Int32)] [])
  refine go (fun _ => XS.aloadN X149.here hx rfl (hb hby d10_15) rfl rfl) ?_
  refine go (fun _ => XS.iloadN X149.here hx rfl (hb hby d10_16) rfl) ?_
  refine go (fun _ => XT.iconstV X149.here hx rfl (1 : Int32) (hb hby d10_17) (by decide)) ?_
  refine go (fun _ => XS.iadd X149.here hx rfl (hb hby d10_18) rfl) ?_
  show Ends p e below _ T149 (mkF m 19 #[rv a, rv x, rv b, iv (2 : Int32)] [(.int (3 : Int32)), (.ref a)])
  have F151 := (Exa.wr W149 E0)
  have F152 := (Fld.other W149 F3 (Or.inl nab))
  obtain ⟨T153, h153, X153, e153, W153, s153⟩ := putF X149 hx hZ hown (host := "") (Or.inl (hwi hw 83 rfl)) Via.refl e149 F152 F151 (Or.inl (hwi hw 84 rfl)) (hwi hw 53 rfl) (ty := .int) (by decide) rfl rfl (g := (mkF m 19 #[rv a, rv x, rv b, iv (2 : Int32)] [(.int (3 : Int32)), (.ref a)])) rfl rfl (hb hby d10_19)
  have N153 := Fr.snoc X153 N149 f0
  refine go s153 ?_
  show Ends p e below _ T153 (mkF m 22 #[rv a, rv x, rv b, iv (2 : Int32)] [])
  have K155 : Keep h0 h153 [a, b] := (Keep.wr (Keep.wr (Keep.refl _ _) W149 (Or.inl (List.mem_of_getElem? (i := 1) rfl))) W153 (Or.inl (List.mem_of_getElem? (i := 0) rfl)))
  have F156 := (Fld.other W153 (Fld.other W149 F1 (Or.inl nab)) (Or.inr (slot_ne (a0 := a0) (Or.inl (hwi hw 72 rfl)) (Or.inl (hwi hw 84 rfl)) (by decide) (t := .int) (t' := .int) (by decide) (by decide))))
  have F157 := (Fld.other W153 (Fld.other W149 F2 (Or.inl nab)) (Or.inr (slot_ne (a0 := a0) (Or.inl (hwi hw 75 rfl)) (Or.inl (hwi hw 84 rfl)) (by decide) (t := (.array (.object "java/lang/Object"))) (t' := .int) (by decide) (by decide))))
  have F158 := (Fld.same W153 F152)
  have F159 := (Arv.other V149 W153 (Ne.symm nab))
  exact endV X153 hx hret (hb hby d10_22) (lvN X153 hlk e153 (fun _ => rfl) ⟨rfl, N153, K155, F156, F157, F158, F159⟩ (by decide) (by decide))
set_option maxRecDepth 65536 in
set_option maxHeartbeats 40000000 in
theorem rm_add_2 {l : Launch} {Z : State} {a0 : Array Value} (hw : ∀ d ∈ tables_1, d.before a0 Z = true) (a x b : Addr) (k : ClassId) (mc : Int32) (x0 x1 : Addr) (h0 : Heap) (O0 : Ext Z.heap h0) (f0 : Z.heap.size ≤ a) (E0 : Exa Z h0 a "java/util/ArrayList") (F1 : Fld Z h0 a "java/util/AbstractList" "modCount" "I" (.int mc)) (F2 : Fld Z h0 a "java/util/ArrayList" "elementData" "[Ljava/lang/Object;" (.ref b)) (F3 : Fld Z h0 a "java/util/ArrayList" "size" "I" (.int 2)) (fb : Z.heap.size ≤ b) (nab : a ≠ b) (Ok : OvO Z k) (Vb : Arv Z h0 b k (.object "java/lang/Object") (10 : Int32) [(.ref x0), (.ref x1), .null, .null, .null, .null, .null, .null, .null, .null] .null) (Ex : Exa Z h0 x "com/example/scopa/scopa/schema/Column") (nax : a ≠ x) (nbx : b ≠ x) :
    Con l (⟨"java/util/ArrayList", "add", "(Ljava/lang/Object;)Z"⟩ : MethodName) jdk_38_method_25_code 2 (some .boolean) ({ frames := 1, cells := 0, slots := 0, locals := 15 } : Room) Z #[(.ref a), (.ref x)] h0 (fun v h L => v = some (.int 1) ∧ Fr Z.heap.size L ∧ Keep h0 h [a, b] ∧ Fld Z h a "java/util/AbstractList" "modCount" "I" (.int (mc + (1 : Int32))) ∧ Fld Z h a "java/util/ArrayList" "elementData" "[Ljava/lang/Object;" (.ref b) ∧ Fld Z h a "java/util/ArrayList" "size" "I" (.int 3) ∧ Arv Z h b k (.object "java/lang/Object") (10 : Int32) [(.ref x0), (.ref x1), (.ref x), .null, .null, .null, .null, .null, .null, .null] .null) := by
  refine Con.of (plainFor_of_name pn_8) (Ls := #[rv a, rv x]) (fun m => efOf rfl) ?_
  intro p e s m below meth c T0 X0 hx hZ hby hml hown hnm hret hlk e0
  refine go (fun _ => XS.aloadN X0.here hx rfl (hb hby d11_0) rfl rfl) ?_
  refine go (fun _ => XS.dup X0.here hx rfl (hb hby d11_1) rfl rfl) ?_
  show Ends p e below _ T0 (mkF m 2 #[rv a, rv x] [(.ref a), (.ref a)])
  obtain ⟨T160, X160, e160, s160⟩ := getF X0 hx hZ hown (host := "") (Or.inl (hwi hw 81 rfl)) (Via.of (hwi hw 82 rfl)) e0 F1 (g := (mkF m 2 #[rv a, rv x] [(.ref a), (.ref a)])) rfl rfl (hb hby d11_2)
  refine go s160 ?_
  show Ends p e below _ T160 (mkF m 5 #[rv a, rv x] [(.int mc), (.ref a)])
  refine go (fun _ => XT.iconstV X160.here hx rfl (1 : Int32) (hb hby d11_5) (by decide)) ?_
  refine go (fun _ => XS.iadd X160.here hx rfl (hb hby d11_6) rfl) ?_
  show Ends p e below _ T160 (mkF m 7 #[rv a, rv x] [(.int (mc + (1 : Int32))), (.ref a)])
  obtain ⟨T161, h161, X161, e161, W161, s161⟩ := putF X160 hx hZ hown (host := "") (Or.inl (hwi hw 81 rfl)) (Via.of (hwi hw 82 rfl)) e160 F1 E0 (Or.inl (hwi hw 72 rfl)) (hwi hw 53 rfl) (ty := .int) (by decide) rfl rfl (g := (mkF m 7 #[rv a, rv x] [(.int (mc + (1 : Int32))), (.ref a)])) rfl rfl (hb hby d11_7)
  have N161 := Fr.snoc X161 (Fr.nil _) f0
  have O162 : Ext Z.heap h161 := xw O0 W161 f0
  refine go s161 ?_
  show Ends p e below _ T161 (mkF m 10 #[rv a, rv x] [])
  refine go (fun _ => XS.aloadN X161.here hx rfl (hb hby d11_10) rfl rfl) ?_
  refine go (fun _ => XS.aloadN X161.here hx rfl (hb hby d11_11) rfl rfl) ?_
  refine go (fun _ => XS.aloadN X161.here hx rfl (hb hby d11_12) rfl rfl) ?_
  show Ends p e below _ T161 (mkF m 13 #[rv a, rv x] [(.ref a), (.ref x), (.ref a)])
  have F163 := (Fld.other W161 F2 (Or.inr (slot_ne (a0 := a0) (Or.inl (hwi hw 75 rfl)) (Or.inl (hwi hw 72 rfl)) (by decide) (t := (.array (.object "java/lang/Object"))) (t' := .int) (by decide) (by decide))))
  obtain ⟨T164, X164, e164, s164⟩ := getF X161 hx hZ hown (host := "") (Or.inl (hwi hw 74 rfl)) Via.refl e161 F163 (g := (mkF m 13 #[rv a, rv x] [(.ref a), (.ref x), (.ref a)])) rfl rfl (hb hby d11_13)
  refine go s164 ?_
  show Ends p e below _ T164 (mkF m 16 #[rv a, rv x] [(.ref b), (.ref x), (.ref a)])
  refine go (fun _ => XS.aloadN X164.here hx rfl (hb hby d11_16) rfl rfl) ?_
  show Ends p e below _ T164 (mkF m 17 #[rv a, rv x] [(.ref a), (.ref b), (.ref x), (.ref a)])
  have F165 := (Fld.other W161 F3 (Or.inr (slot_ne (a0 := a0) (Or.inl (hwi hw 84 rfl)) (Or.inl (hwi hw 72 rfl)) (by decide) (t := .int) (t' := .int) (by decide) (by decide))))
  obtain ⟨T166, X166, e166, s166⟩ := getF X164 hx hZ hown (host := "") (Or.inl (hwi hw 83 rfl)) Via.refl e164 F165 (g := (mkF m 17 #[rv a, rv x] [(.ref a), (.ref b), (.ref x), (.ref a)])) rfl rfl (hb hby d11_17)
  refine go s166 ?_
  show Ends p e below _ T166 (mkF m 20 #[rv a, rv x] [(.int (2 : Int32)), (.ref b), (.ref x), (.ref a)])
  have F167 := (Exa.wr W161 E0)
  have F168 := (Fld.same W161 F1)
  have F169 := (Exa.wr W161 Ex)
  have F170 := (Arv.other Vb W161 (Ne.symm nab))
  refine cPriv X166 hx hZ hown (by rw [hml]; rfl) e166 (hwi hw 85 rfl) (hwi hw 86 rfl) (hwi hw 87 rfl) (hwi hw 53 rfl) (hwi hw 54 rfl) (hwi hw 89 rfl) a F167 [(.ref x), (.ref b), (.int (2 : Int32))] [] rfl (rm_add3_2 hw a x b k (mc + (1 : Int32)) x0 x1 _ O162 f0 F167 F168 F163 F165 fb nab Ok F170 F169 nax nbx) (hb hby d11_20) rfl (lenOf pd_12 rfl) (by decide) (by decide) (Nat.le_of_ble_eq_true rfl) (by decide) (by decide) ?_
  rintro v171 T171 h171 L171 X171 e171 ⟨rfl, N171, K171, F1171, F2171, F3171, V171⟩
  have N171a := Fr.app N161 N171
  show Ends p e below _ T171 (mkF m 23 #[rv a, rv x] [])
  refine go (fun _ => XT.iconstV X171.here hx rfl (1 : Int32) (hb hby d11_23) (by decide)) ?_
  show Ends p e below _ T171 (mkF m 24 #[rv a, rv x] [(.int (1 : Int32))])
  have K173 : Keep h0 h171 [a, b] := (Keep.trans (Keep.wr (Keep.refl _ _) W161 (Or.inl (List.mem_of_getElem? (i := 0) rfl))) K171 (allS (Or.inl (List.mem_of_getElem? (i := 0) rfl)) (allS (Or.inl (List.mem_of_getElem? (i := 1) rfl)) all0)))
  exact endN X171 hx hret (by simp) (hb hby d11_24) (lvN X171 hlk e171 (fun h => by rw [hret] at h; cases h) ⟨by simp [nar], N171a, K173, F1171, F2171, F3171, V171⟩ (by decide) (by decide))
set_option maxRecDepth 65536 in
set_option maxHeartbeats 40000000 in
theorem rm_record {l : Launch} {Z : State} {a0 : Array Value} (hw : ∀ d ∈ tables_1, d.before a0 Z = true) (a : Addr) (h0 : Heap)  :
    Con l (⟨"java/lang/Record", "<init>", "()V"⟩ : MethodName) jdk_30_method_1_code 1 none ({ frames := 1, cells := 0, slots := 0, locals := 12 } : Room) Z #[(.ref a)] h0 (fun v h L => v = none ∧ Fr Z.heap.size L ∧ h0 = h) := by
  refine Con.of (plainFor_of_name pn_13) (Ls := #[rv a]) (fun m => efOf rfl) ?_
  intro p e s m below meth c T0 X0 hx hZ hby hml hown hnm hret hlk e0
  refine go (fun _ => XS.aloadN X0.here hx rfl (hb hby d12_0) rfl rfl) ?_
  show Ends p e below _ T0 (mkF m 1 #[rv a] [(.ref a)])
  obtain ⟨T174, X174, e174, s174⟩ := initO X0 hx hZ hown (hwi hw 40 rfl) (hwi hw 23 rfl) (hwi hw 24 rfl) e0 (g := (mkF m 1 #[rv a] [(.ref a)])) rfl (by rw [hml]; rfl) rfl (hb hby d12_1) (by decide) (W := 0) (by show 2 * 0 + _ ≤ _; exact Nat.le_of_eq rfl) (by decide)
  refine go s174 ?_
  show Ends p e below _ T174 (mkF m 4 #[rv a] [])
  exact endV X174 hx hret (hb hby d12_4) (lvN X174 hlk e174 (fun _ => rfl) ⟨rfl, (Fr.nil _), rfl⟩ (by decide) (by decide))
set_option maxRecDepth 65536 in
set_option maxHeartbeats 40000000 in
theorem rm_col {l : Launch} {Z : State} {a0 : Array Value} (hw : ∀ d ∈ tables_1, d.before a0 Z = true) (a : Addr) (x y w : Addr) (h0 : Heap) (O0 : Ext Z.heap h0) (f0 : Z.heap.size ≤ a) (E0 : Exa Z h0 a "com/example/scopa/scopa/schema/Column") (F_name : Fld Z h0 a "com/example/scopa/scopa/schema/Column" "name" "Ljava/lang/String;" .null) (F_baseType : Fld Z h0 a "com/example/scopa/scopa/schema/Column" "baseType" "Ljava/lang/String;" .null) (F_storedType : Fld Z h0 a "com/example/scopa/scopa/schema/Column" "storedType" "Ljava/lang/String;" .null)   :
    Con l (⟨"com/example/scopa/scopa/schema/Column", "<init>", "(Ljava/lang/String;Ljava/lang/String;Ljava/lang/String;)V"⟩ : MethodName) prog_9_method_1_code 4 none ({ frames := 2, cells := 0, slots := 0, locals := 24 } : Room) Z #[(.ref a), (.ref x), (.ref y), (.ref w)] h0 (fun v h L => v = none ∧ Fr Z.heap.size L ∧ Keep h0 h [a] ∧ Fld Z h a "com/example/scopa/scopa/schema/Column" "name" "Ljava/lang/String;" (.ref x) ∧ Fld Z h a "com/example/scopa/scopa/schema/Column" "baseType" "Ljava/lang/String;" (.ref y) ∧ Fld Z h a "com/example/scopa/scopa/schema/Column" "storedType" "Ljava/lang/String;" (.ref w)) := by
  refine Con.of (plainFor_of_name pn_14) (Ls := #[rv a, rv x, rv y, rv w]) (fun m => efOf rfl) ?_
  intro p e s m below meth c T0 X0 hx hZ hby hml hown hnm hret hlk e0
  refine go (fun _ => XS.aloadN X0.here hx rfl (hb hby d13_0) rfl rfl) ?_
  show Ends p e below _ T0 (mkF m 1 #[rv a, rv x, rv y, rv w] [(.ref a)])
  refine cInit X0 hx hZ hown (by rw [hml]; rfl) e0 (hwi hw 35 rfl) (hwi hw 36 rfl) (hwi hw 38 rfl) (hwi hw 39 rfl) a [] [] rfl (rm_record hw a _) (hb hby d13_1) rfl (lenOf pd_7 rfl) rfl (by decide) (by decide) (Nat.le_of_ble_eq_true rfl) (by decide) (by decide) ?_
  rintro v175 T175 h175 L175 X175 e175 ⟨rfl, N175, rfl⟩
  have N175a := Fr.app (Fr.nil _) N175
  show Ends p e below _ T175 (mkF m 4 #[rv a, rv x, rv y, rv w] [])
  refine go (fun _ => XS.aloadN X175.here hx rfl (hb hby d13_4) rfl rfl) ?_
  refine go (fun _ => XS.aloadN X175.here hx rfl (hb hby d13_5) rfl rfl) ?_
  show Ends p e below _ T175 (mkF m 6 #[rv a, rv x, rv y, rv w] [(.ref x), (.ref a)])
  obtain ⟨T176, h176, X176, e176, W176, s176⟩ := putF X175 hx hZ hown (host := "") (Or.inl (hwi hw 41 rfl)) Via.refl e175 F_name E0 (Or.inr ⟨(hwi hw 42 rfl), rfl, hnm⟩) (hwi hw 1 rfl) (ty := (.object "java/lang/String")) (by decide) rfl rfl (g := (mkF m 6 #[rv a, rv x, rv y, rv w] [(.ref x), (.ref a)])) rfl rfl (hb hby d13_6)
  have N176 := Fr.snoc X176 N175a f0
  refine go s176 ?_
  show Ends p e below _ T176 (mkF m 9 #[rv a, rv x, rv y, rv w] [])
  refine go (fun _ => XS.aloadN X176.here hx rfl (hb hby d13_9) rfl rfl) ?_
  refine go (fun _ => XS.aloadN X176.here hx rfl (hb hby d13_10) rfl rfl) ?_
  show Ends p e below _ T176 (mkF m 11 #[rv a, rv x, rv y, rv w] [(.ref y), (.ref a)])
  have F178 := (Exa.wr W176 E0)
  have F179 := (Fld.other W176 F_baseType (Or.inr (slot_ne (a0 := a0) (Or.inr (hwi hw 44 rfl)) (Or.inr (hwi hw 42 rfl)) (by decide) (t := (.object "java/lang/String")) (t' := (.object "java/lang/String")) (by decide) (by decide))))
  obtain ⟨T180, h180, X180, e180, W180, s180⟩ := putF X176 hx hZ hown (host := "") (Or.inl (hwi hw 43 rfl)) Via.refl e176 F179 F178 (Or.inr ⟨(hwi hw 44 rfl), rfl, hnm⟩) (hwi hw 1 rfl) (ty := (.object "java/lang/String")) (by decide) rfl rfl (g := (mkF m 11 #[rv a, rv x, rv y, rv w] [(.ref y), (.ref a)])) rfl rfl (hb hby d13_11)
  have N180 := Fr.snoc X180 N176 f0
  refine go s180 ?_
  show Ends p e below _ T180 (mkF m 14 #[rv a, rv x, rv y, rv w] [])
  refine go (fun _ => XS.aloadN X180.here hx rfl (hb hby d13_14) rfl rfl) ?_
  refine go (fun _ => XS.aloadN X180.here hx rfl (hb hby d13_15) rfl rfl) ?_
  show Ends p e below _ T180 (mkF m 16 #[rv a, rv x, rv y, rv w] [(.ref w), (.ref a)])
  have F182 := (Exa.wr W180 F178)
  have F183 := (Fld.other W180 (Fld.other W176 F_storedType (Or.inr (slot_ne (a0 := a0) (Or.inr (hwi hw 46 rfl)) (Or.inr (hwi hw 42 rfl)) (by decide) (t := (.object "java/lang/String")) (t' := (.object "java/lang/String")) (by decide) (by decide)))) (Or.inr (slot_ne (a0 := a0) (Or.inr (hwi hw 46 rfl)) (Or.inr (hwi hw 44 rfl)) (by decide) (t := (.object "java/lang/String")) (t' := (.object "java/lang/String")) (by decide) (by decide))))
  obtain ⟨T184, h184, X184, e184, W184, s184⟩ := putF X180 hx hZ hown (host := "") (Or.inl (hwi hw 45 rfl)) Via.refl e180 F183 F182 (Or.inr ⟨(hwi hw 46 rfl), rfl, hnm⟩) (hwi hw 1 rfl) (ty := (.object "java/lang/String")) (by decide) rfl rfl (g := (mkF m 16 #[rv a, rv x, rv y, rv w] [(.ref w), (.ref a)])) rfl rfl (hb hby d13_16)
  have N184 := Fr.snoc X184 N180 f0
  refine go s184 ?_
  show Ends p e below _ T184 (mkF m 19 #[rv a, rv x, rv y, rv w] [])
  have K186 : Keep h0 h184 [a] := (Keep.wr (Keep.wr (Keep.wr (Keep.refl _ _) W176 (Or.inl (List.mem_of_getElem? (i := 0) rfl))) W180 (Or.inl (List.mem_of_getElem? (i := 0) rfl))) W184 (Or.inl (List.mem_of_getElem? (i := 0) rfl)))
  have F187 := (Fld.other W184 (Fld.other W180 (Fld.same W176 F_name) (Or.inr (slot_ne (a0 := a0) (Or.inr (hwi hw 42 rfl)) (Or.inr (hwi hw 44 rfl)) (by decide) (t := (.object "java/lang/String")) (t' := (.object "java/lang/String")) (by decide) (by decide)))) (Or.inr (slot_ne (a0 := a0) (Or.inr (hwi hw 42 rfl)) (Or.inr (hwi hw 46 rfl)) (by decide) (t := (.object "java/lang/String")) (t' := (.object "java/lang/String")) (by decide) (by decide))))
  have F188 := (Fld.other W184 (Fld.same W180 F179) (Or.inr (slot_ne (a0 := a0) (Or.inr (hwi hw 44 rfl)) (Or.inr (hwi hw 46 rfl)) (by decide) (t := (.object "java/lang/String")) (t' := (.object "java/lang/String")) (by decide) (by decide))))
  have F189 := (Fld.same W184 F183)
  exact endV X184 hx hret (hb hby d13_19) (lvN X184 hlk e184 (fun _ => rfl) ⟨rfl, N184, K186, F187, F188, F189⟩ (by decide) (by decide))
set_option maxRecDepth 65536 in
set_option maxHeartbeats 40000000 in
theorem rm_rnn {l : Launch} {Z : State} {a0 : Array Value} (hw : ∀ d ∈ tables_1, d.before a0 Z = true) (a : Addr) (h0 : Heap)  :
    Con l (⟨"java/util/Objects", "requireNonNull", "(Ljava/lang/Object;)Ljava/lang/Object;"⟩ : MethodName) jdk_31_method_10_code 1 (some (.object "java/lang/Object")) ({ frames := 0, cells := 0, slots := 0, locals := 0 } : Room) Z #[(.ref a)] h0 (fun v h L => v = some (.ref a) ∧ Fr Z.heap.size L ∧ h0 = h) := by
  refine Con.of (plainFor_of_name pn_15) (Ls := #[rv a]) (fun m => efOf rfl) ?_
  intro p e s m below meth c T0 X0 hx hZ hby hml hown hnm hret hlk e0
  refine go (fun _ => XS.aloadN X0.here hx rfl (hb hby d14_0) rfl rfl) ?_
  show Ends p e below _ T0 (mkF m 1 #[rv a] [(.ref a)])
  refine go (fun _ => XT.ifnonnullYes X0.here hx rfl (pc0 := 1) (pc' := 12) rfl (hb hby d14_1) rfl (by decide) (by decide)) ?_
  show Ends p e below _ T0 (mkF m 12 #[rv a] [])
  refine go (fun _ => XS.aloadN X0.here hx rfl (hb hby d14_12) rfl rfl) ?_
  show Ends p e below _ T0 (mkF m 13 #[rv a] [(.ref a)])
  exact endA X0 hx hret rfl rfl (hb hby d14_13) (lvN X0 hlk e0 (fun h => by rw [hret] at h; cases h) ⟨rfl, (Fr.nil _), rfl⟩ (by decide) (by decide))
set_option maxRecDepth 65536 in
set_option maxHeartbeats 40000000 in
theorem rm_aic {l : Launch} {Z : State} {a0 : Array Value} (hw : ∀ d ∈ tables_1, d.before a0 Z = true) (a : Addr) (h0 : Heap)  :
    Con l (⟨"java/util/ImmutableCollections$AbstractImmutableCollection", "<init>", "()V"⟩ : MethodName) jdk_47_method_1_code 1 none ({ frames := 2, cells := 0, slots := 0, locals := 24 } : Room) Z #[(.ref a)] h0 (fun v h L => v = none ∧ Fr Z.heap.size L ∧ h0 = h) := by
  refine Con.of (plainFor_of_name pn_16) (Ls := #[rv a]) (fun m => efOf rfl) ?_
  intro p e s m below meth c T0 X0 hx hZ hby hml hown hnm hret hlk e0
  refine go (fun _ => XS.aloadN X0.here hx rfl (hb hby d15_0) rfl rfl) ?_
  show Ends p e below _ T0 (mkF m 1 #[rv a] [(.ref a)])
  refine cInit X0 hx hZ hown (by rw [hml]; rfl) e0 (hwi hw 196 rfl) (hwi hw 65 rfl) (hwi hw 68 rfl) (hwi hw 69 rfl) a [] [] rfl (rm_abc hw a _) (hb hby d15_1) rfl (lenOf pd_7 rfl) rfl (by decide) (by decide) (Nat.le_of_ble_eq_true rfl) (by decide) (by decide) ?_
  rintro v190 T190 h190 L190 X190 e190 ⟨rfl, N190, rfl⟩
  have N190a := Fr.app (Fr.nil _) N190
  show Ends p e below _ T190 (mkF m 4 #[rv a] [])
  exact endV X190 hx hret (hb hby d15_4) (lvN X190 hlk e190 (fun _ => rfl) ⟨rfl, N190a, rfl⟩ (by decide) (by decide))
set_option maxRecDepth 65536 in
set_option maxHeartbeats 40000000 in
theorem rm_ail {l : Launch} {Z : State} {a0 : Array Value} (hw : ∀ d ∈ tables_1, d.before a0 Z = true) (a : Addr) (h0 : Heap)  :
    Con l (⟨"java/util/ImmutableCollections$AbstractImmutableList", "<init>", "()V"⟩ : MethodName) jdk_46_method_1_code 1 none ({ frames := 3, cells := 0, slots := 0, locals := 36 } : Room) Z #[(.ref a)] h0 (fun v h L => v = none ∧ Fr Z.heap.size L ∧ h0 = h) := by
  refine Con.of (plainFor_of_name pn_17) (Ls := #[rv a]) (fun m => efOf rfl) ?_
  intro p e s m below meth c T0 X0 hx hZ hby hml hown hnm hret hlk e0
  refine go (fun _ => XS.aloadN X0.here hx rfl (hb hby d16_0) rfl rfl) ?_
  show Ends p e below _ T0 (mkF m 1 #[rv a] [(.ref a)])
  refine cInit X0 hx hZ hown (by rw [hml]; rfl) e0 (hwi hw 190 rfl) (hwi hw 191 rfl) (hwi hw 194 rfl) (hwi hw 195 rfl) a [] [] rfl (rm_aic hw a _) (hb hby d16_1) rfl (lenOf pd_7 rfl) rfl (by decide) (by decide) (Nat.le_of_ble_eq_true rfl) (by decide) (by decide) ?_
  rintro v191 T191 h191 L191 X191 e191 ⟨rfl, N191, rfl⟩
  have N191a := Fr.app (Fr.nil _) N191
  show Ends p e below _ T191 (mkF m 4 #[rv a] [])
  exact endV X191 hx hret (hb hby d16_4) (lvN X191 hlk e191 (fun _ => rfl) ⟨rfl, N191a, rfl⟩ (by decide) (by decide))
set_option maxRecDepth 65536 in
set_option maxHeartbeats 40000000 in
theorem rm_l12b {l : Launch} {Z : State} {a0 : Array Value} (hw : ∀ d ∈ tables_1, d.before a0 Z = true) (a : Addr) (x y : Addr) (h0 : Heap) (O0 : Ext Z.heap h0) (f0 : Z.heap.size ≤ a) (E0 : Exa Z h0 a "java/util/ImmutableCollections$List12") (F_e0 : Fld Z h0 a "java/util/ImmutableCollections$List12" "e0" "Ljava/lang/Object;" .null) (F_e1 : Fld Z h0 a "java/util/ImmutableCollections$List12" "e1" "Ljava/lang/Object;" .null)   :
    Con l (⟨"java/util/ImmutableCollections$List12", "<init>", "(Ljava/lang/Object;Ljava/lang/Object;)V"⟩ : MethodName) jdk_44_method_2_code 3 none ({ frames := 4, cells := 0, slots := 0, locals := 48 } : Room) Z #[(.ref a), (.ref x), (.ref y)] h0 (fun v h L => v = none ∧ Fr Z.heap.size L ∧ Keep h0 h [a] ∧ Fld Z h a "java/util/ImmutableCollections$List12" "e0" "Ljava/lang/Object;" (.ref x) ∧ Fld Z h a "java/util/ImmutableCollections$List12" "e1" "Ljava/lang/Object;" (.ref y)) := by
  refine Con.of (plainFor_of_name pn_18) (Ls := #[rv a, rv x, rv y]) (fun m => efOf rfl) ?_
  intro p e s m below meth c T0 X0 hx hZ hby hml hown hnm hret hlk e0
  refine go (fun _ => XS.aloadN X0.here hx rfl (hb hby d17_0) rfl rfl) ?_
  show Ends p e below _ T0 (mkF m 1 #[rv a, rv x, rv y] [(.ref a)])
  refine cInit X0 hx hZ hown (by rw [hml]; rfl) e0 (hwi hw 235 rfl) (hwi hw 185 rfl) (hwi hw 188 rfl) (hwi hw 189 rfl) a [] [] rfl (rm_ail hw a _) (hb hby d17_1) rfl (lenOf pd_7 rfl) rfl (by decide) (by decide) (Nat.le_of_ble_eq_true rfl) (by decide) (by decide) ?_
  rintro v192 T192 h192 L192 X192 e192 ⟨rfl, N192, rfl⟩
  have N192a := Fr.app (Fr.nil _) N192
  show Ends p e below _ T192 (mkF m 4 #[rv a, rv x, rv y] [])
  refine go (fun _ => XS.aloadN X192.here hx rfl (hb hby d17_4) rfl rfl) ?_
  refine go (fun _ => XS.aloadN X192.here hx rfl (hb hby d17_5) rfl rfl) ?_
  show Ends p e below _ T192 (mkF m 6 #[rv a, rv x, rv y] [(.ref x), (.ref a)])
  refine cStat X192 hx hZ hown (by rw [hml]; rfl) e192 (hwi hw 239 rfl) (hwi hw 175 rfl) (hwi hw 176 rfl) (hwi hw 177 rfl) [(.ref x)] [(.ref a)] rfl (rm_rnn hw x _) (hb hby d17_6) rfl (lenOf pd_19 rfl) (by decide) (by decide) (Nat.le_of_ble_eq_true rfl) (by decide) (by decide) ?_
  rintro v193 T193 h193 L193 X193 e193 ⟨rfl, N193, rfl⟩
  have N193a := Fr.app N192a N193
  show Ends p e below _ T193 (mkF m 9 #[rv a, rv x, rv y] [(.ref x), (.ref a)])
  obtain ⟨T194, h194, X194, e194, W194, s194⟩ := putF X193 hx hZ hown (host := "") (Or.inl (hwi hw 240 rfl)) Via.refl e193 F_e0 E0 (Or.inr ⟨(hwi hw 241 rfl), rfl, hnm⟩) (hwi hw 229 rfl) (ty := (.object "java/lang/Object")) (by decide) rfl rfl (g := (mkF m 9 #[rv a, rv x, rv y] [(.ref x), (.ref a)])) rfl rfl (hb hby d17_9)
  have N194 := Fr.snoc X194 N193a f0
  refine go s194 ?_
  show Ends p e below _ T194 (mkF m 12 #[rv a, rv x, rv y] [])
  refine go (fun _ => XS.aloadN X194.here hx rfl (hb hby d17_12) rfl rfl) ?_
  refine go (fun _ => XS.aloadN X194.here hx rfl (hb hby d17_13) rfl rfl) ?_
  show Ends p e below _ T194 (mkF m 14 #[rv a, rv x, rv y] [(.ref y), (.ref a)])
  refine cStat X194 hx hZ hown (by rw [hml]; rfl) e194 (hwi hw 239 rfl) (hwi hw 175 rfl) (hwi hw 176 rfl) (hwi hw 177 rfl) [(.ref y)] [(.ref a)] rfl (rm_rnn hw y _) (hb hby d17_14) rfl (lenOf pd_19 rfl) (by decide) (by decide) (Nat.le_of_ble_eq_true rfl) (by decide) (by decide) ?_
  rintro v196 T196 h196 L196 X196 e196 ⟨rfl, N196, rfl⟩
  have N196a := Fr.app N194 N196
  show Ends p e below _ T196 (mkF m 17 #[rv a, rv x, rv y] [(.ref y), (.ref a)])
  have F197 := (Exa.wr W194 E0)
  have F198 := (Fld.other W194 F_e1 (Or.inr (slot_ne (a0 := a0) (Or.inr (hwi hw 243 rfl)) (Or.inr (hwi hw 241 rfl)) (by decide) (t := (.object "java/lang/Object")) (t' := (.object "java/lang/Object")) (by decide) (by decide))))
  obtain ⟨T199, h199, X199, e199, W199, s199⟩ := putF X196 hx hZ hown (host := "") (Or.inl (hwi hw 242 rfl)) Via.refl e196 F198 F197 (Or.inr ⟨(hwi hw 243 rfl), rfl, hnm⟩) (hwi hw 229 rfl) (ty := (.object "java/lang/Object")) (by decide) rfl rfl (g := (mkF m 17 #[rv a, rv x, rv y] [(.ref y), (.ref a)])) rfl rfl (hb hby d17_17)
  have N199 := Fr.snoc X199 N196a f0
  refine go s199 ?_
  show Ends p e below _ T199 (mkF m 20 #[rv a, rv x, rv y] [])
  have K201 : Keep h0 h199 [a] := (Keep.wr (Keep.wr (Keep.refl _ _) W194 (Or.inl (List.mem_of_getElem? (i := 0) rfl))) W199 (Or.inl (List.mem_of_getElem? (i := 0) rfl)))
  have F202 := (Fld.other W199 (Fld.same W194 F_e0) (Or.inr (slot_ne (a0 := a0) (Or.inr (hwi hw 241 rfl)) (Or.inr (hwi hw 243 rfl)) (by decide) (t := (.object "java/lang/Object")) (t' := (.object "java/lang/Object")) (by decide) (by decide))))
  have F203 := (Fld.same W199 F198)
  exact endV X199 hx hret (hb hby d17_20) (lvN X199 hlk e199 (fun _ => rfl) ⟨rfl, N199, K201, F202, F203⟩ (by decide) (by decide))
set_option maxRecDepth 65536 in
set_option maxHeartbeats 40000000 in
theorem rm_l12a {l : Launch} {Z : State} {a0 : Array Value} (hw : ∀ d ∈ tables_1, d.before a0 Z = true) (a : Addr) (x aE : Addr) (h0 : Heap) (O0 : Ext Z.heap h0) (f0 : Z.heap.size ≤ a) (E0 : Exa Z h0 a "java/util/ImmutableCollections$List12") (F_e0 : Fld Z h0 a "java/util/ImmutableCollections$List12" "e0" "Ljava/lang/Object;" .null) (F_e1 : Fld Z h0 a "java/util/ImmutableCollections$List12" "e1" "Ljava/lang/Object;" .null)  (SE : Sta Z Z.heap "java/util/ImmutableCollections" "EMPTY" "Ljava/lang/Object;" (.ref aE)) :
    Con l (⟨"java/util/ImmutableCollections$List12", "<init>", "(Ljava/lang/Object;)V"⟩ : MethodName) jdk_44_method_1_code 2 none ({ frames := 4, cells := 0, slots := 0, locals := 48 } : Room) Z #[(.ref a), (.ref x)] h0 (fun v h L => v = none ∧ Fr Z.heap.size L ∧ Keep h0 h [a] ∧ Fld Z h a "java/util/ImmutableCollections$List12" "e0" "Ljava/lang/Object;" (.ref x) ∧ Fld Z h a "java/util/ImmutableCollections$List12" "e1" "Ljava/lang/Object;" (.ref aE)) := by
  refine Con.of (plainFor_of_name pn_18) (Ls := #[rv a, rv x]) (fun m => efOf rfl) ?_
  intro p e s m below meth c T0 X0 hx hZ hby hml hown hnm hret hlk e0
  refine go (fun _ => XS.aloadN X0.here hx rfl (hb hby d18_0) rfl rfl) ?_
  show Ends p e below _ T0 (mkF m 1 #[rv a, rv x] [(.ref a)])
  refine cInit X0 hx hZ hown (by rw [hml]; rfl) e0 (hwi hw 235 rfl) (hwi hw 185 rfl) (hwi hw 188 rfl) (hwi hw 189 rfl) a [] [] rfl (rm_ail hw a _) (hb hby d18_1) rfl (lenOf pd_7 rfl) rfl (by decide) (by decide) (Nat.le_of_ble_eq_true rfl) (by decide) (by decide) ?_
  rintro v204 T204 h204 L204 X204 e204 ⟨rfl, N204, rfl⟩
  have N204a := Fr.app (Fr.nil _) N204
  show Ends p e below _ T204 (mkF m 4 #[rv a, rv x] [])
  refine go (fun _ => XS.aloadN X204.here hx rfl (hb hby d18_4) rfl rfl) ?_
  refine go (fun _ => XS.aloadN X204.here hx rfl (hb hby d18_5) rfl rfl) ?_
  show Ends p e below _ T204 (mkF m 6 #[rv a, rv x] [(.ref x), (.ref a)])
  refine cStat X204 hx hZ hown (by rw [hml]; rfl) e204 (hwi hw 239 rfl) (hwi hw 175 rfl) (hwi hw 176 rfl) (hwi hw 177 rfl) [(.ref x)] [(.ref a)] rfl (rm_rnn hw x _) (hb hby d18_6) rfl (lenOf pd_19 rfl) (by decide) (by decide) (Nat.le_of_ble_eq_true rfl) (by decide) (by decide) ?_
  rintro v205 T205 h205 L205 X205 e205 ⟨rfl, N205, rfl⟩
  have N205a := Fr.app N204a N205
  show Ends p e below _ T205 (mkF m 9 #[rv a, rv x] [(.ref x), (.ref a)])
  obtain ⟨T206, h206, X206, e206, W206, s206⟩ := putF X205 hx hZ hown (host := "") (Or.inl (hwi hw 240 rfl)) Via.refl e205 F_e0 E0 (Or.inr ⟨(hwi hw 241 rfl), rfl, hnm⟩) (hwi hw 229 rfl) (ty := (.object "java/lang/Object")) (by decide) rfl rfl (g := (mkF m 9 #[rv a, rv x] [(.ref x), (.ref a)])) rfl rfl (hb hby d18_9)
  have N206 := Fr.snoc X206 N205a f0
  have O207 : Ext Z.heap h206 := xw O0 W206 f0
  refine go s206 ?_
  show Ends p e below _ T206 (mkF m 12 #[rv a, rv x] [])
  refine go (fun _ => XS.aloadN X206.here hx rfl (hb hby d18_12) rfl rfl) ?_
  show Ends p e below _ T206 (mkF m 13 #[rv a, rv x] [(.ref a)])
  obtain ⟨T208, X208, e208, s208⟩ := getS2 X206 hx hZ hown (host := "java/util/ImmutableCollections") (Or.inr (hwi hw 253 rfl)) Via.refl e206 (Sta.ext O207 SE) (g := (mkF m 13 #[rv a, rv x] [(.ref a)])) rfl (hb hby d18_13)
  refine go s208 ?_
  show Ends p e below _ T208 (mkF m 16 #[rv a, rv x] [(.ref aE), (.ref a)])
  have F209 := (Exa.wr W206 E0)
  have F210 := (Fld.other W206 F_e1 (Or.inr (slot_ne (a0 := a0) (Or.inr (hwi hw 243 rfl)) (Or.inr (hwi hw 241 rfl)) (by decide) (t := (.object "java/lang/Object")) (t' := (.object "java/lang/Object")) (by decide) (by decide))))
  obtain ⟨T211, h211, X211, e211, W211, s211⟩ := putF X208 hx hZ hown (host := "") (Or.inl (hwi hw 242 rfl)) Via.refl e208 F210 F209 (Or.inr ⟨(hwi hw 243 rfl), rfl, hnm⟩) (hwi hw 229 rfl) (ty := (.object "java/lang/Object")) (by decide) rfl rfl (g := (mkF m 16 #[rv a, rv x] [(.ref aE), (.ref a)])) rfl rfl (hb hby d18_16)
  have N211 := Fr.snoc X211 N206 f0
  refine go s211 ?_
  show Ends p e below _ T211 (mkF m 19 #[rv a, rv x] [])
  have K213 : Keep h0 h211 [a] := (Keep.wr (Keep.wr (Keep.refl _ _) W206 (Or.inl (List.mem_of_getElem? (i := 0) rfl))) W211 (Or.inl (List.mem_of_getElem? (i := 0) rfl)))
  have F214 := (Fld.other W211 (Fld.same W206 F_e0) (Or.inr (slot_ne (a0 := a0) (Or.inr (hwi hw 241 rfl)) (Or.inr (hwi hw 243 rfl)) (by decide) (t := (.object "java/lang/Object")) (t' := (.object "java/lang/Object")) (by decide) (by decide))))
  have F215 := (Fld.same W211 F210)
  exact endV X211 hx hret (hb hby d18_19) (lvN X211 hlk e211 (fun _ => rfl) ⟨rfl, N211, K213, F214, F215⟩ (by decide) (by decide))
set_option maxRecDepth 65536 in
set_option maxHeartbeats 40000000 in
theorem rm_lni {l : Launch} {Z : State} {a0 : Array Value} (hw : ∀ d ∈ tables_1, d.before a0 Z = true) (a : Addr) (x : Addr) (h0 : Heap) (O0 : Ext Z.heap h0) (f0 : Z.heap.size ≤ a) (E0 : Exa Z h0 a "java/util/ImmutableCollections$ListN") (F_elements : Fld Z h0 a "java/util/ImmutableCollections$ListN" "elements" "[Ljava/lang/Object;" .null) (F_allowNulls : Fld Z h0 a "java/util/ImmutableCollections$ListN" "allowNulls" "Z" (.int (0 : Int32)))   :
    Con l (⟨"java/util/ImmutableCollections$ListN", "<init>", "([Ljava/lang/Object;Z)V"⟩ : MethodName) jdk_45_method_1_code 3 none ({ frames := 4, cells := 0, slots := 0, locals := 48 } : Room) Z #[(.ref a), (.ref x), (.int (0 : Int32))] h0 (fun v h L => v = none ∧ Fr Z.heap.size L ∧ Keep h0 h [a] ∧ Fld Z h a "java/util/ImmutableCollections$ListN" "elements" "[Ljava/lang/Object;" (.ref x) ∧ Fld Z h a "java/util/ImmutableCollections$ListN" "allowNulls" "Z" (.int (0 : Int32))) := by
  refine Con.of (plainFor_of_name pn_20) (Ls := #[rv a, rv x, iv (0 : Int32)]) (fun m => efOf rfl) ?_
  intro p e s m below meth c T0 X0 hx hZ hby hml hown hnm hret hlk e0
  refine go (fun _ => XS.aloadN X0.here hx rfl (hb hby d19_0) rfl rfl) ?_
  show Ends p e below _ T0 (mkF m 1 #[rv a, rv x, iv (0 : Int32)] [(.ref a)])
  refine cInit X0 hx hZ hown (by rw [hml]; rfl) e0 (hwi hw 184 rfl) (hwi hw 185 rfl) (hwi hw 188 rfl) (hwi hw 189 rfl) a [] [] rfl (rm_ail hw a _) (hb hby d19_1) rfl (lenOf pd_7 rfl) rfl (by decide) (by decide) (Nat.le_of_ble_eq_true rfl) (by decide) (by decide) ?_
  rintro v216 T216 h216 L216 X216 e216 ⟨rfl, N216, rfl⟩
  have N216a := Fr.app (Fr.nil _) N216
  show Ends p e below _ T216 (mkF m 4 #[rv a, rv x, iv (0 : Int32)] [])
  refine go (fun _ => XS.aloadN X216.here hx rfl (hb hby d19_4) rfl rfl) ?_
  refine go (fun _ => XS.aloadN X216.here hx rfl (hb hby d19_5) rfl rfl) ?_
  show Ends p e below _ T216 (mkF m 6 #[rv a, rv x, iv (0 : Int32)] [(.ref x), (.ref a)])
  obtain ⟨T217, h217, X217, e217, W217, s217⟩ := putF X216 hx hZ hown (host := "") (Or.inl (hwi hw 198 rfl)) Via.refl e216 F_elements E0 (Or.inr ⟨(hwi hw 199 rfl), rfl, hnm⟩) (hwi hw 178 rfl) (ty := (.array (.object "java/lang/Object"))) (by decide) rfl rfl (g := (mkF m 6 #[rv a, rv x, iv (0 : Int32)] [(.ref x), (.ref a)])) rfl rfl (hb hby d19_6)
  have N217 := Fr.snoc X217 N216a f0
  refine go s217 ?_
  show Ends p e below _ T217 (mkF m 9 #[rv a, rv x, iv (0 : Int32)] [])
  refine go (fun _ => XS.aloadN X217.here hx rfl (hb hby d19_9) rfl rfl) ?_
  refine go (fun _ => XS.iloadN X217.here hx rfl (hb hby d19_10) rfl) ?_
  show Ends p e below _ T217 (mkF m 11 #[rv a, rv x, iv (0 : Int32)] [(.int (0 : Int32)), (.ref a)])
  have F219 := (Exa.wr W217 E0)
  have F220 := (Fld.other W217 F_allowNulls (Or.inr (slot_ne (a0 := a0) (Or.inr (hwi hw 201 rfl)) (Or.inr (hwi hw 199 rfl)) (by decide) (t := .boolean) (t' := (.array (.object "java/lang/Object"))) (by decide) (by decide))))
  obtain ⟨T221, h221, X221, e221, W221, s221⟩ := putF X217 hx hZ hown (host := "") (Or.inl (hwi hw 200 rfl)) Via.refl e217 F220 F219 (Or.inr ⟨(hwi hw 201 rfl), rfl, hnm⟩) (hwi hw 178 rfl) (ty := .boolean) (by decide) rfl rfl (g := (mkF m 11 #[rv a, rv x, iv (0 : Int32)] [(.int (0 : Int32)), (.ref a)])) rfl rfl (hb hby d19_11)
  have N221 := Fr.snoc X221 N217 f0
  refine go s221 ?_
  show Ends p e below _ T221 (mkF m 14 #[rv a, rv x, iv (0 : Int32)] [])
  have K223 : Keep h0 h221 [a] := (Keep.wr (Keep.wr (Keep.refl _ _) W217 (Or.inl (List.mem_of_getElem? (i := 0) rfl))) W221 (Or.inl (List.mem_of_getElem? (i := 0) rfl)))
  have F224 := (Fld.other W221 (Fld.same W217 F_elements) (Or.inr (slot_ne (a0 := a0) (Or.inr (hwi hw 199 rfl)) (Or.inr (hwi hw 201 rfl)) (by decide) (t := (.array (.object "java/lang/Object"))) (t' := .boolean) (by decide) (by decide))))
  have F225 := (Fld.same W221 F220)
  exact endV X221 hx hret (hb hby d19_14) (lvN X221 hlk e221 (fun _ => rfl) ⟨rfl, N221, K223, F224, F225⟩ (by decide) (by decide))
set_option maxRecDepth 65536 in
set_option maxHeartbeats 40000000 in
theorem rm_aie_0 {l : Launch} {Z : State} {a0 : Array Value} (hw : ∀ d ∈ tables_1, d.before a0 Z = true) (a : Addr) (h0 : Heap) (F3 : Fld Z h0 a "java/util/ArrayList" "size" "I" (.int 0)) :
    Con l (⟨"java/util/ArrayList", "isEmpty", "()Z"⟩ : MethodName) jdk_38_method_9_code 1 (some .boolean) ({ frames := 0, cells := 0, slots := 0, locals := 0 } : Room) Z #[(.ref a)] h0 (fun v h L => v = some (.int 1) ∧ Fr Z.heap.size L ∧ h0 = h) := by
  refine Con.of (plainFor_of_name pn_8) (Ls := #[rv a]) (fun m => efOf rfl) ?_
  intro p e s m below meth c T0 X0 hx hZ hby hml hown hnm hret hlk e0
  refine go (fun _ => XS.aloadN X0.here hx rfl (hb hby d20_0) rfl rfl) ?_
  show Ends p e below _ T0 (mkF m 1 #[rv a] [(.ref a)])
  obtain ⟨T226, X226, e226, s226⟩ := getF X0 hx hZ hown (host := "") (Or.inl (hwi hw 83 rfl)) Via.refl e0 F3 (g := (mkF m 1 #[rv a] [(.ref a)])) rfl rfl (hb hby d20_1)
  refine go s226 ?_
  show Ends p e below _ T226 (mkF m 4 #[rv a] [(.int (0 : Int32))])
  refine go (fun _ => XS.ifNo X226.here hx rfl (hb hby d20_4) rfl (XT.i0_ne_f ((by decide) : (0 : Int32) = (0 : Int32)))) ?_
  show Ends p e below _ T226 (mkF m 7 #[rv a] [])
  refine go (fun _ => XT.iconstV X226.here hx rfl (1 : Int32) (hb hby d20_7) (by decide)) ?_
  refine go (fun _ => XS.goto X226.here hx rfl (pc0 := 8) (pc' := 12) rfl (hb hby d20_8) (by decide) (by decide)) ?_
  show Ends p e below _ T226 (mkF m 12 #[rv a] [(.int (1 : Int32))])
  exact endN X226 hx hret (by simp) (hb hby d20_12) (lvN X226 hlk e226 (fun h => by rw [hret] at h; cases h) ⟨by simp [nar], (Fr.nil _), rfl⟩ (by decide) (by decide))
set_option maxRecDepth 65536 in
set_option maxHeartbeats 40000000 in
theorem rm_lof {l : Launch} {Z : State} {a0 : Array Value} (hw : ∀ d ∈ tables_1, d.before a0 Z = true) (aL aN aE : Addr) (kN : ClassId) (h0 : Heap) (O0 : Ext Z.heap h0) (SL : Sta Z Z.heap "java/util/ImmutableCollections" "EMPTY_LIST" "Ljava/util/ImmutableCollections$ListN;" (.ref aL)) (XL : Exa Z Z.heap aL "java/util/ImmutableCollections$ListN") (FL : Fld Z Z.heap aL "java/util/ImmutableCollections$ListN" "elements" "[Ljava/lang/Object;" (.ref aN)) (VN : Arv Z Z.heap aN kN (.object "java/lang/Object") (0 : Int32) [] .null) (SE : Sta Z Z.heap "java/util/ImmutableCollections" "EMPTY" "Ljava/lang/Object;" (.ref aE)) :
    Con l (⟨"java/util/List", "of", "()Ljava/util/List;"⟩ : MethodName) jdk_40_method_36_code 0 (some (.object "java/util/List")) ({ frames := 0, cells := 0, slots := 0, locals := 0 } : Room) Z #[] h0 (fun v h L => v = some (.ref aL) ∧ Fr Z.heap.size L ∧ h0 = h) := by
  refine Con.of (plainFor_of_name pn_21) (Ls := #[]) (fun m => efOf rfl) ?_
  intro p e s m below meth c T0 X0 hx hZ hby hml hown hnm hret hlk e0
  obtain ⟨T227, X227, e227, s227⟩ := getS2 X0 hx hZ hown (host := "") (Or.inl (hwi hw 205 rfl)) Via.refl e0 (Sta.ext O0 SL) (g := (mkF m 0 #[] [])) rfl (hb hby d21_0)
  refine go s227 ?_
  show Ends p e below _ T227 (mkF m 3 #[] [(.ref aL)])
  exact endA X227 hx hret rfl rfl (hb hby d21_3) (lvN X227 hlk e227 (fun h => by rw [hret] at h; cases h) ⟨rfl, (Fr.nil _), rfl⟩ (by decide) (by decide))
set_option maxRecDepth 65536 in
set_option maxHeartbeats 40000000 in
theorem rm_lc_0 {l : Launch} {Z : State} {a0 : Array Value} (hw : ∀ d ∈ tables_1, d.before a0 Z = true) (a : Addr) (mr : Addr) (aL aN aE : Addr) (kN : ClassId) (h0 : Heap) (O0 : Ext Z.heap h0) (MM : Mid Z "[Ljava/lang/Object;" mr) (SL : Sta Z Z.heap "java/util/ImmutableCollections" "EMPTY_LIST" "Ljava/util/ImmutableCollections$ListN;" (.ref aL)) (XL : Exa Z Z.heap aL "java/util/ImmutableCollections$ListN") (FL : Fld Z Z.heap aL "java/util/ImmutableCollections$ListN" "elements" "[Ljava/lang/Object;" (.ref aN)) (VN : Arv Z Z.heap aN kN (.object "java/lang/Object") (0 : Int32) [] .null) (SE : Sta Z Z.heap "java/util/ImmutableCollections" "EMPTY" "Ljava/lang/Object;" (.ref aE)) (E0 : Exa Z h0 a "java/util/ArrayList") (F3 : Fld Z h0 a "java/util/ArrayList" "size" "I" (.int 0)) :
    Con l (⟨"java/util/ImmutableCollections", "listCopy", "(Ljava/util/Collection;)Ljava/util/List;"⟩ : MethodName) jdk_56_method_3_code 2 (some (.object "java/util/List")) ({ frames := 1, cells := 0, slots := 0, locals := 12 } : Room) Z #[(.ref a)] h0 (fun v h L => v = some (.ref aL) ∧ Fr Z.heap.size L ∧ h0 = h) := by
  refine Con.of (plainFor_of_name pn_22) (Ls := #[rv a, .unset]) (fun m => efOf rfl) ?_
  intro p e s m below meth c T0 X0 hx hZ hby hml hown hnm hret hlk e0
  refine go (fun _ => XS.aloadN X0.here hx rfl (hb hby d22_0) rfl rfl) ?_
  show Ends p e below _ T0 (mkF m 1 #[rv a, .unset] [(.ref a)])
  obtain ⟨T228, X228, e228, s228⟩ := instNo X0 hx hZ hown (hwi hw 122 rfl) e0 E0 (own_nsno (hwi hw 123 rfl) (hwi hw 229 rfl) (NS.step (hwi hw 123 rfl) (NS.step (hwi hw 124 rfl) (NS.step (hwi hw 125 rfl) (own_nsroot (hwi hw 126 rfl) (hwi hw 229 rfl) (by decide)) (by decide)) (by decide)) (by decide)) (by decide)) (g := (mkF m 1 #[rv a, .unset] [(.ref a)])) rfl rfl (hb hby d22_1)
  refine go s228 ?_
  show Ends p e below _ T228 (mkF m 4 #[rv a, .unset] [(.int (0 : Int32))])
  refine go (fun _ => XS.ifNo X228.here hx rfl (hb hby d22_4) rfl (XT.i0_ne_f ((by decide) : (0 : Int32) = (0 : Int32)))) ?_
  show Ends p e below _ T228 (mkF m 7 #[rv a, .unset] [])
  refine go (fun _ => XS.aloadN X228.here hx rfl (hb hby d22_7) rfl rfl) ?_
  show Ends p e below _ T228 (mkF m 8 #[rv a, .unset] [(.ref a)])
  obtain ⟨T229, X229, e229, s229⟩ := instNo X228 hx hZ hown (hwi hw 127 rfl) e228 E0 (own_nsno (hwi hw 123 rfl) (hwi hw 178 rfl) (NS.step (hwi hw 123 rfl) (NS.step (hwi hw 124 rfl) (NS.step (hwi hw 125 rfl) (own_nsroot (hwi hw 126 rfl) (hwi hw 178 rfl) (by decide)) (by decide)) (by decide)) (by decide)) (by decide)) (g := (mkF m 8 #[rv a, .unset] [(.ref a)])) rfl rfl (hb hby d22_8)
  refine go s229 ?_
  show Ends p e below _ T229 (mkF m 11 #[rv a, .unset] [(.int (0 : Int32))])
  refine go (fun _ => XS.ifYes X229.here hx rfl (pc0 := 11) (pc' := 31) rfl (hb hby d22_11) rfl (XT.i0_eq_t ((by decide) : (0 : Int32) = (0 : Int32))) (by decide) (by decide)) ?_
  show Ends p e below _ T229 (mkF m 31 #[rv a, .unset] [])
  refine go (fun _ => XS.aloadN X229.here hx rfl (hb hby d22_31) rfl rfl) ?_
  show Ends p e below _ T229 (mkF m 32 #[rv a, .unset] [(.ref a)])
  refine cFace X229 hx hZ hown (by rw [hml]; rfl) e229 (hwi hw 128 rfl) (hwi hw 129 rfl) (mvT hZ (hwi hw 130 rfl)) (hwi hw 131 rfl) (hwi hw 132 rfl) (hwi hw 133 rfl) (mvT hZ (hwi hw 134 rfl)) (hwi hw 135 rfl) (hwi hw 54 rfl) (hwi hw 136 rfl) a E0 [] [] rfl (rm_aie_0 hw a _ F3) (hb hby d22_32) rfl (lenOf pd_23 rfl) (by decide) (by decide) (Nat.le_of_ble_eq_true rfl) (by decide) (by decide) ?_
  rintro v230 T230 h230 L230 X230 e230 ⟨rfl, N230, rfl⟩
  have N230a := Fr.app (Fr.nil _) N230
  show Ends p e below _ T230 (mkF m 37 #[rv a, .unset] [(.int (1 : Int32))])
  refine go (fun _ => XS.ifNo X230.here hx rfl (hb hby d22_37) rfl (XT.i0_eq_f ((by decide) : ¬ ((1 : Int32) = (0 : Int32))))) ?_
  show Ends p e below _ T230 (mkF m 40 #[rv a, .unset] [])
  refine cStat X230 hx hZ hown (by rw [hml]; rfl) e230 (hwi hw 202 rfl) (hwi hw 203 rfl) (hwi hw 116 rfl) (hwi hw 204 rfl) [] [] rfl (rm_lof hw aL aN aE kN _ O0 SL XL FL VN SE) (hb hby d22_40) rfl (lenOf pd_24 rfl) (by decide) (by decide) (Nat.le_of_ble_eq_true rfl) (by decide) (by decide) ?_
  rintro v231 T231 h231 L231 X231 e231 ⟨rfl, N231, rfl⟩
  have N231a := Fr.app N230a N231
  show Ends p e below _ T231 (mkF m 43 #[rv a, .unset] [(.ref aL)])
  exact endA X231 hx hret rfl rfl (hb hby d22_43) (lvN X231 hlk e231 (fun h => by rw [hret] at h; cases h) ⟨rfl, N231a, rfl⟩ (by decide) (by decide))
set_option maxRecDepth 65536 in
set_option maxHeartbeats 40000000 in
theorem rm_co_0 {l : Launch} {Z : State} {a0 : Array Value} (hw : ∀ d ∈ tables_1, d.before a0 Z = true) (a : Addr) (mr : Addr) (aL aN aE : Addr) (kN : ClassId) (h0 : Heap) (O0 : Ext Z.heap h0) (MM : Mid Z "[Ljava/lang/Object;" mr) (SL : Sta Z Z.heap "java/util/ImmutableCollections" "EMPTY_LIST" "Ljava/util/ImmutableCollections$ListN;" (.ref aL)) (XL : Exa Z Z.heap aL "java/util/ImmutableCollections$ListN") (FL : Fld Z Z.heap aL "java/util/ImmutableCollections$ListN" "elements" "[Ljava/lang/Object;" (.ref aN)) (VN : Arv Z Z.heap aN kN (.object "java/lang/Object") (0 : Int32) [] .null) (SE : Sta Z Z.heap "java/util/ImmutableCollections" "EMPTY" "Ljava/lang/Object;" (.ref aE)) (E0 : Exa Z h0 a "java/util/ArrayList") (F3 : Fld Z h0 a "java/util/ArrayList" "size" "I" (.int 0)) :
    Con l (⟨"java/util/List", "copyOf", "(Ljava/util/Collection;)Ljava/util/List;"⟩ : MethodName) jdk_40_method_48_code 1 (some (.object "java/util/List")) ({ frames := 2, cells := 0, slots := 0, locals := 25 } : Room) Z #[(.ref a)] h0 (fun v h L => v = some (.ref aL) ∧ Fr Z.heap.size L ∧ h0 = h) := by
  refine Con.of (plainFor_of_name pn_21) (Ls := #[rv a]) (fun m => efOf rfl) ?_
  intro p e s m below meth c T0 X0 hx hZ hby hml hown hnm hret hlk e0
  refine go (fun _ => XS.aloadN X0.here hx rfl (hb hby d23_0) rfl rfl) ?_
  show Ends p e below _ T0 (mkF m 1 #[rv a] [(.ref a)])
  refine cStat X0 hx hZ hown (by rw [hml]; rfl) e0 (hwi hw 118 rfl) (hwi hw 119 rfl) (hwi hw 120 rfl) (hwi hw 121 rfl) [(.ref a)] [] rfl (rm_lc_0 hw a mr aL aN aE kN _ O0 MM SL XL FL VN SE E0 F3) (hb hby d23_1) rfl (lenOf pd_25 rfl) (by decide) (by decide) (Nat.le_of_ble_eq_true rfl) (by decide) (by decide) ?_
  rintro v232 T232 h232 L232 X232 e232 ⟨rfl, N232, rfl⟩
  have N232a := Fr.app (Fr.nil _) N232
  show Ends p e below _ T232 (mkF m 4 #[rv a] [(.ref aL)])
  exact endA X232 hx hret rfl rfl (hb hby d23_4) (lvN X232 hlk e232 (fun h => by rw [hret] at h; cases h) ⟨rfl, N232a, rfl⟩ (by decide) (by decide))
set_option maxRecDepth 65536 in
set_option maxHeartbeats 40000000 in
theorem rm_aie_1 {l : Launch} {Z : State} {a0 : Array Value} (hw : ∀ d ∈ tables_1, d.before a0 Z = true) (a : Addr) (h0 : Heap) (F3 : Fld Z h0 a "java/util/ArrayList" "size" "I" (.int 1)) :
    Con l (⟨"java/util/ArrayList", "isEmpty", "()Z"⟩ : MethodName) jdk_38_method_9_code 1 (some .boolean) ({ frames := 0, cells := 0, slots := 0, locals := 0 } : Room) Z #[(.ref a)] h0 (fun v h L => v = some (.int 0) ∧ Fr Z.heap.size L ∧ h0 = h) := by
  refine Con.of (plainFor_of_name pn_8) (Ls := #[rv a]) (fun m => efOf rfl) ?_
  intro p e s m below meth c T0 X0 hx hZ hby hml hown hnm hret hlk e0
  refine go (fun _ => XS.aloadN X0.here hx rfl (hb hby d20_0) rfl rfl) ?_
  show Ends p e below _ T0 (mkF m 1 #[rv a] [(.ref a)])
  obtain ⟨T233, X233, e233, s233⟩ := getF X0 hx hZ hown (host := "") (Or.inl (hwi hw 83 rfl)) Via.refl e0 F3 (g := (mkF m 1 #[rv a] [(.ref a)])) rfl rfl (hb hby d20_1)
  refine go s233 ?_
  show Ends p e below _ T233 (mkF m 4 #[rv a] [(.int (1 : Int32))])
  refine go (fun _ => XS.ifYes X233.here hx rfl (pc0 := 4) (pc' := 11) rfl (hb hby d20_4) rfl (XT.i0_ne_t ((by decide) : ¬ ((1 : Int32) = (0 : Int32)))) (by decide) (by decide)) ?_
  show Ends p e below _ T233 (mkF m 11 #[rv a] [])
  refine go (fun _ => XT.iconstV X233.here hx rfl (0 : Int32) (hb hby d20_11) (by decide)) ?_
  show Ends p e below _ T233 (mkF m 12 #[rv a] [(.int (0 : Int32))])
  exact endN X233 hx hret (by simp) (hb hby d20_12) (lvN X233 hlk e233 (fun h => by rw [hret] at h; cases h) ⟨by simp [nar], (Fr.nil _), rfl⟩ (by decide) (by decide))
set_option maxRecDepth 65536 in
set_option maxHeartbeats 40000000 in
theorem rm_min_1 {l : Launch} {Z : State} {a0 : Array Value} (hw : ∀ d ∈ tables_1, d.before a0 Z = true)  (h0 : Heap)  :
    Con l (⟨"java/lang/Math", "min", "(II)I"⟩ : MethodName) jdk_29_method_69_code 2 (some .int) ({ frames := 0, cells := 0, slots := 0, locals := 0 } : Room) Z #[(.int (10 : Int32)), (.int (1 : Int32))] h0 (fun v h L => v = some (.int 1) ∧ Fr Z.heap.size L ∧ h0 = h) := by
  refine Con.of (Jvm.Free.JP.mathPlain rfl (by decide +kernel)) (Ls := #[iv (10 : Int32), iv (1 : Int32)]) (fun m => efOf rfl) ?_
  intro p e s m below meth c T0 X0 hx hZ hby hml hown hnm hret hlk e0
  refine go (fun _ => XS.iloadN X0.here hx rfl (hb hby d24_0) rfl) ?_
  refine go (fun _ => XS.iloadN X0.here hx rfl (hb hby d24_1) rfl) ?_
  show Ends p e below _ T0 (mkF m 2 #[iv (10 : Int32), iv (1 : Int32)] [(.int (1 : Int32)), (.int (10 : Int32))])
  refine go (fun _ => XS.icmpYes X0.here hx rfl (pc0 := 2) (pc' := 9) rfl (hb hby d24_2) rfl (XT.ii_gt_t ((by decide) : (1 : Int32) < (10 : Int32))) (by decide) (by decide)) ?_
  show Ends p e below _ T0 (mkF m 9 #[iv (10 : Int32), iv (1 : Int32)] [])
  refine go (fun _ => XS.iloadN X0.here hx rfl (hb hby d24_9) rfl) ?_
  show Ends p e below _ T0 (mkF m 10 #[iv (10 : Int32), iv (1 : Int32)] [(.int (1 : Int32))])
  exact endI X0 hx hret (hb hby d24_10) (lvN X0 hlk e0 (fun h => by rw [hret] at h; cases h) ⟨rfl, (Fr.nil _), rfl⟩ (by decide) (by decide))
set_option maxRecDepth 65536 in
set_option maxHeartbeats 40000000 in
theorem rm_cp3_1 {l : Launch} {Z : State} {a0 : Array Value} (hw : ∀ d ∈ tables_1, d.before a0 Z = true) (b : Addr) (k : ClassId) (x0 : Addr) (mr : Addr) (h0 : Heap) (O0 : Ext Z.heap h0) (MM : Mid Z "[Ljava/lang/Object;" mr) (Vb : Arv Z h0 b k (.object "java/lang/Object") (10 : Int32) [(.ref x0), .null, .null, .null, .null, .null, .null, .null, .null, .null] .null) (Ez0 : Exa Z h0 x0 "com/example/scopa/scopa/schema/Column") :
    Con l (⟨"java/util/Arrays", "copyOf", "([Ljava/lang/Object;ILjava/lang/Class;)[Ljava/lang/Object;"⟩ : MethodName) jdk_65_method_120_code 4 (some (.array (.object "java/lang/Object"))) ({ frames := 1, cells := 1, slots := 1, locals := 18 } : Room) Z #[(.ref b), (.int (1 : Int32)), (.ref mr)] h0 (fun v h L => ∃ (q_ : Addr) (kq : ClassId), v = some (.ref q_) ∧ Fr Z.heap.size L ∧ Keep h0 h [] ∧ h0.size ≤ q_ ∧ OvO Z kq ∧ Arv Z h q_ kq (.object "java/lang/Object") (1 : Int32) [(.ref x0)] .null) := by
  refine Con.of (plainFor_of_name pn_26) (Ls := #[rv b, iv (1 : Int32), rv mr, .unset]) (fun m => efOf rfl) ?_
  intro p e s m below meth c T0 X0 hx hZ hby hml hown hnm hret hlk e0
  refine go (fun _ => XS.aloadN X0.here hx rfl (hb hby d25_0) rfl rfl) ?_
  show Ends p e below _ T0 (mkF m 1 #[rv b, iv (1 : Int32), rv mr, .unset] [(.ref mr)])
  obtain ⟨T234, X234, e234, s234⟩ := own_ldcc X0 hx hZ hown (hwi hw 158 rfl) e0 MM (g := (mkF m 1 #[rv b, iv (1 : Int32), rv mr, .unset] [(.ref mr)])) rfl (hb hby d25_1)
  refine go s234 ?_
  show Ends p e below _ T234 (mkF m 3 #[rv b, iv (1 : Int32), rv mr, .unset] [(.ref mr), (.ref mr)])
  refine go (fun _ => XT.acmpNo X234.here hx rfl (hb hby d25_3) rfl rfl rfl (XT.aa_ne_f (rfl : ((.ref mr) : Value) = (.ref mr)))) ?_
  show Ends p e below _ T234 (mkF m 6 #[rv b, iv (1 : Int32), rv mr, .unset] [])
  refine go (fun _ => XS.iloadN X234.here hx rfl (hb hby d25_6) rfl) ?_
  show Ends p e below _ T234 (mkF m 7 #[rv b, iv (1 : Int32), rv mr, .unset] [(.int (1 : Int32))])
  obtain ⟨T235, h235, k235, X235, e235, E235, A235, O235, s235⟩ := own_newR X234 hx hZ hown (hwi hw 159 rfl) (hwi hw 105 rfl) e234 (g := (mkF m 7 #[rv b, iv (1 : Int32), rv mr, .unset] [(.int (1 : Int32))])) rfl (hb hby d25_7) rfl (by decide) (cap := 1) (by decide) (by decide) (by decide) (by decide)
  obtain ⟨a235, g235⟩ : ∃ z : Addr, z = h0.size := ⟨_, rfl⟩
  have f235 : Z.heap.size ≤ a235 := by rw [g235]; exact (O0).1
  have K238 : Keep h0 h0 [] := (Keep.refl _ _)
  have b235 : h0.size ≤ a235 := by rw [g235]; exact (K238).1
  rw [← g235] at A235 s235
  have V235 : Arv Z h235 a235 k235 (.object "java/lang/Object") (1 : Int32) [.null] .null := Arv.pad (Arv.new A235 (by decide)) (pad_rep [] _ 1)
  refine go s235 ?_
  show Ends p e below _ T235 (mkF m 10 #[rv b, iv (1 : Int32), rv mr, .unset] [(.ref a235)])
  refine go (fun _ => XS.goto X235.here hx rfl (pc0 := 10) (pc' := 24) rfl (hb hby d25_10) (by decide) (by decide)) ?_
  refine go (fun _ => XS.astoreN X235.here hx rfl (hb hby d25_24) rfl rfl (l' := #[rv b, iv (1 : Int32), rv mr, rv a235]) rfl) ?_
  refine go (fun _ => XS.aloadN X235.here hx rfl (hb hby d25_25) rfl rfl) ?_
  refine go (fun _ => XT.iconstV X235.here hx rfl (0 : Int32) (hb hby d25_26) (by decide)) ?_
  refine go (fun _ => XS.aloadN X235.here hx rfl (hb hby d25_27) rfl rfl) ?_
  refine go (fun _ => XT.iconstV X235.here hx rfl (0 : Int32) (hb hby d25_28) (by decide)) ?_
  show Ends p e below _ T235 (mkF m 29 #[rv b, iv (1 : Int32), rv mr, rv a235] [(.int (0 : Int32)), (.ref a235), (.int (0 : Int32)), (.ref b)])
  refine go (fun _ => XS.aloadN X235.here hx rfl (hb hby d25_29) rfl rfl) ?_
  show Ends p e below _ T235 (mkF m 30 #[rv b, iv (1 : Int32), rv mr, rv a235] [(.ref b), (.int (0 : Int32)), (.ref a235), (.int (0 : Int32)), (.ref b)])
  have F240 := (Arv.ext Vb E235)
  obtain ⟨cl241, A241, -, S241, M241, -⟩ := id F240
  refine go (fun _ => X235.arraylength hx (cell := cl241) (by rw [e235]; exact A241.1) (State.isArrayOf_alike hZ.alike A241.2.1) (g := (mkF m 30 #[rv b, iv (1 : Int32), rv mr, rv a235] [(.ref b), (.int (0 : Int32)), (.ref a235), (.int (0 : Int32)), (.ref b)])) rfl rfl (hb hby d25_30) _) ?_
  rw [len_of S241 M241]
  show Ends p e below _ T235 (mkF m 31 #[rv b, iv (1 : Int32), rv mr, rv a235] [(.int (10 : Int32)), (.int (0 : Int32)), (.ref a235), (.int (0 : Int32)), (.ref b)])
  refine go (fun _ => XS.iloadN X235.here hx rfl (hb hby d25_31) rfl) ?_
  show Ends p e below _ T235 (mkF m 32 #[rv b, iv (1 : Int32), rv mr, rv a235] [(.int (1 : Int32)), (.int (10 : Int32)), (.int (0 : Int32)), (.ref a235), (.int (0 : Int32)), (.ref b)])
  refine cStat X235 hx hZ hown (by rw [hml]; rfl) e235 (hwi hw 160 rfl) (hwi hw 161 rfl) (hwi hw 102 rfl) (hwi hw 162 rfl) [(.int (10 : Int32)), (.int (1 : Int32))] [(.int (0 : Int32)), (.ref a235), (.int (0 : Int32)), (.ref b)] rfl (rm_min_1 hw _) (hb hby d25_32) rfl (lenOf pd_9 rfl) (by decide) (by decide) (Nat.le_of_ble_eq_true rfl) (by decide) (by decide) ?_
  rintro v242 T242 h242 L242 X242 e242 ⟨rfl, N242, rfl⟩
  have N242a := Fr.app (Fr.nil _) N242
  show Ends p e below _ T242 (mkF m 35 #[rv b, iv (1 : Int32), rv mr, rv a235] [(.int (1 : Int32)), (.int (0 : Int32)), (.ref a235), (.int (0 : Int32)), (.ref b)])
  obtain ⟨cl243, A243, q243, -⟩ := id V235
  have F244 := (Exa.ext E235 Ez0)
  have G243 : StoL Z h235 a235 [(.ref x0)] := ⟨Sto.ofV A243 q243 O235.1 (Ins.of_exa F244 (hwi hw 106 rfl)), trivial⟩
  obtain ⟨T243, h243, L243, X243, e243, N243, K243, V243, s243⟩ := cpA X242 hx hZ hown (hwi hw 163 rfl) (hwi hw 166 rfl) (hwi hw 164 rfl) (hwi hw 165 rfl) e242 F240 V235 (us := [(.ref x0)]) (Or.inr ⟨rfl, rfl, G243⟩) (sp := (0 : Int32)) (dp := (0 : Int32)) (nn := (1 : Int32)) (by decide) (by decide) (by decide) (by decide) (by decide) rfl (Nat.le_of_ble_eq_true rfl) N242a f235 (g := (mkF m 35 #[rv b, iv (1 : Int32), rv mr, rv a235] [(.int (1 : Int32)), (.int (0 : Int32)), (.ref a235), (.int (0 : Int32)), (.ref b)])) rfl (by rw [hml]; rfl) rfl (hb hby d25_35) (by decide) (W := 0) (by show 2 * 0 + _ ≤ _; exact Nat.le_of_eq rfl) (by decide)
  have V243l : Arv Z h243 a235 k235 (.object "java/lang/Object") (1 : Int32) [(.ref x0)] .null := V243
  refine go s243 ?_
  show Ends p e below _ T243 (mkF m 38 #[rv b, iv (1 : Int32), rv mr, rv a235] [])
  refine go (fun _ => XS.aloadN X243.here hx rfl (hb hby d25_38) rfl rfl) ?_
  show Ends p e below _ T243 (mkF m 39 #[rv b, iv (1 : Int32), rv mr, rv a235] [(.ref a235)])
  have K246 : Keep h0 h243 [] := (Keep.trans (Keep.ext K238 E235) K243 (allS (Or.inr b235) all0))
  exact endA X243 hx hret rfl rfl (hb hby d25_39) (lvN X243 hlk e243 (fun h => by rw [hret] at h; cases h) ⟨a235, _, rfl, N243, K246, b235, O235, V243l⟩ (by decide) (by decide))
set_option maxRecDepth 65536 in
set_option maxHeartbeats 40000000 in
theorem rm_cp2_1 {l : Launch} {Z : State} {a0 : Array Value} (hw : ∀ d ∈ tables_1, d.before a0 Z = true) (b : Addr) (k : ClassId) (x0 : Addr) (mr : Addr) (h0 : Heap) (O0 : Ext Z.heap h0) (MM : Mid Z "[Ljava/lang/Object;" mr) (Ok : OvO Z k) (Vb : Arv Z h0 b k (.object "java/lang/Object") (10 : Int32) [(.ref x0), .null, .null, .null, .null, .null, .null, .null, .null, .null] .null) (Ez0 : Exa Z h0 x0 "com/example/scopa/scopa/schema/Column") :
    Con l (⟨"java/util/Arrays", "copyOf", "([Ljava/lang/Object;I)[Ljava/lang/Object;"⟩ : MethodName) jdk_65_method_119_code 2 (some (.array (.object "java/lang/Object"))) ({ frames := 2, cells := 1, slots := 1, locals := 33 } : Room) Z #[(.ref b), (.int (1 : Int32))] h0 (fun v h L => ∃ (q_ : Addr) (kq : ClassId), v = some (.ref q_) ∧ Fr Z.heap.size L ∧ Keep h0 h [] ∧ h0.size ≤ q_ ∧ OvO Z kq ∧ Arv Z h q_ kq (.object "java/lang/Object") (1 : Int32) [(.ref x0)] .null) := by
  refine Con.of (plainFor_of_name pn_26) (Ls := #[rv b, iv (1 : Int32)]) (fun m => efOf rfl) ?_
  intro p e s m below meth c T0 X0 hx hZ hby hml hown hnm hret hlk e0
  refine go (fun _ => XS.aloadN X0.here hx rfl (hb hby d26_0) rfl rfl) ?_
  refine go (fun _ => XS.iloadN X0.here hx rfl (hb hby d26_1) rfl) ?_
  refine go (fun _ => XS.aloadN X0.here hx rfl (hb hby d26_2) rfl rfl) ?_
  show Ends p e below _ T0 (mkF m 3 #[rv b, iv (1 : Int32)] [(.ref b), (.int (1 : Int32)), (.ref b)])
  have F248 := (own_oexa Vb Ok)
  obtain ⟨T247, X247, e247, s247⟩ := own_gcls X0 hx hZ hown (hwi hw 149 rfl) (hwi hw 150 rfl) (hwi hw 126 rfl) (hwi hw 152 rfl) (hwi hw 151 rfl) (hwi hw 153 rfl) e0 F248 MM (g := (mkF m 3 #[rv b, iv (1 : Int32)] [(.ref b), (.int (1 : Int32)), (.ref b)])) rfl (by rw [hml]; rfl) rfl (hb hby d26_3) (by decide) (W := 2) (by show 2 * 0 + _ ≤ _; exact Nat.le_of_eq rfl) (by decide)
  refine go s247 ?_
  show Ends p e below _ T247 (mkF m 6 #[rv b, iv (1 : Int32)] [(.ref mr), (.int (1 : Int32)), (.ref b)])
  refine cStat X247 hx hZ hown (by rw [hml]; rfl) e247 (hwi hw 155 rfl) (hwi hw 156 rfl) (hwi hw 147 rfl) (hwi hw 157 rfl) [(.ref b), (.int (1 : Int32)), (.ref mr)] [] rfl (rm_cp3_1 hw b k x0 mr _ O0 MM Vb Ez0) (hb hby d26_6) rfl (lenOf pd_27 rfl) (by decide) (by decide) (Nat.le_of_ble_eq_true rfl) (by decide) (by decide) ?_
  rintro v249 T249 h249 L249 X249 e249 ⟨q249, kq249, rfl, N249, K249, g249, O249, V249⟩
  have N249a := Fr.app (Fr.nil _) N249
  have K253 : Keep h0 h0 [] := (Keep.refl _ _)
  have b252 : h0.size ≤ q249 := Nat.le_trans (K253).1 g249
  show Ends p e below _ T249 (mkF m 9 #[rv b, iv (1 : Int32)] [(.ref q249)])
  have K255 : Keep h0 h249 [] := (Keep.trans K253 K249 all0)
  exact endA X249 hx hret rfl rfl (hb hby d26_9) (lvN X249 hlk e249 (fun h => by rw [hret] at h; cases h) ⟨q249, _, rfl, N249a, K255, b252, O249, V249⟩ (by decide) (by decide))
set_option maxRecDepth 65536 in
set_option maxHeartbeats 40000000 in
theorem rm_ta_1 {l : Launch} {Z : State} {a0 : Array Value} (hw : ∀ d ∈ tables_1, d.before a0 Z = true) (a : Addr) (b : Addr) (k : ClassId) (x0 : Addr) (mr : Addr) (h0 : Heap) (O0 : Ext Z.heap h0) (MM : Mid Z "[Ljava/lang/Object;" mr) (Ok : OvO Z k) (Vb : Arv Z h0 b k (.object "java/lang/Object") (10 : Int32) [(.ref x0), .null, .null, .null, .null, .null, .null, .null, .null, .null] .null) (Ez0 : Exa Z h0 x0 "com/example/scopa/scopa/schema/Column") (F2 : Fld Z h0 a "java/util/ArrayList" "elementData" "[Ljava/lang/Object;" (.ref b)) (F3 : Fld Z h0 a "java/util/ArrayList" "size" "I" (.int 1)) :
    Con l (⟨"java/util/ArrayList", "toArray", "()[Ljava/lang/Object;"⟩ : MethodName) jdk_38_method_16_code 1 (some (.array (.object "java/lang/Object"))) ({ frames := 3, cells := 1, slots := 1, locals := 46 } : Room) Z #[(.ref a)] h0 (fun v h L => ∃ (q_ : Addr) (kq : ClassId), v = some (.ref q_) ∧ Fr Z.heap.size L ∧ Keep h0 h [] ∧ h0.size ≤ q_ ∧ OvO Z kq ∧ Arv Z h q_ kq (.object "java/lang/Object") (1 : Int32) [(.ref x0)] .null) := by
  refine Con.of (plainFor_of_name pn_8) (Ls := #[rv a]) (fun m => efOf rfl) ?_
  intro p e s m below meth c T0 X0 hx hZ hby hml hown hnm hret hlk e0
  refine go (fun _ => XS.aloadN X0.here hx rfl (hb hby d27_0) rfl rfl) ?_
  show Ends p e below _ T0 (mkF m 1 #[rv a] [(.ref a)])
  obtain ⟨T256, X256, e256, s256⟩ := getF X0 hx hZ hown (host := "") (Or.inl (hwi hw 74 rfl)) Via.refl e0 F2 (g := (mkF m 1 #[rv a] [(.ref a)])) rfl rfl (hb hby d27_1)
  refine go s256 ?_
  show Ends p e below _ T256 (mkF m 4 #[rv a] [(.ref b)])
  refine go (fun _ => XS.aloadN X256.here hx rfl (hb hby d27_4) rfl rfl) ?_
  show Ends p e below _ T256 (mkF m 5 #[rv a] [(.ref a), (.ref b)])
  obtain ⟨T257, X257, e257, s257⟩ := getF X256 hx hZ hown (host := "") (Or.inl (hwi hw 83 rfl)) Via.refl e256 F3 (g := (mkF m 5 #[rv a] [(.ref a), (.ref b)])) rfl rfl (hb hby d27_5)
  refine go s257 ?_
  show Ends p e below _ T257 (mkF m 8 #[rv a] [(.int (1 : Int32)), (.ref b)])
  refine cStat X257 hx hZ hown (by rw [hml]; rfl) e257 (hwi hw 145 rfl) (hwi hw 146 rfl) (hwi hw 147 rfl) (hwi hw 148 rfl) [(.ref b), (.int (1 : Int32))] [] rfl (rm_cp2_1 hw b k x0 mr _ O0 MM Ok Vb Ez0) (hb hby d27_8) rfl (lenOf pd_28 rfl) (by decide) (by decide) (Nat.le_of_ble_eq_true rfl) (by decide) (by decide) ?_
  rintro v258 T258 h258 L258 X258 e258 ⟨q258, kq258, rfl, N258, K258, g258, O258, V258⟩
  have N258a := Fr.app (Fr.nil _) N258
  have K263 : Keep h0 h0 [] := (Keep.refl _ _)
  have b262 : h0.size ≤ q258 := Nat.le_trans (K263).1 g258
  show Ends p e below _ T258 (mkF m 11 #[rv a] [(.ref q258)])
  have K265 : Keep h0 h258 [] := (Keep.trans K263 K258 all0)
  exact endA X258 hx hret rfl rfl (hb hby d27_11) (lvN X258 hlk e258 (fun h => by rw [hret] at h; cases h) ⟨q258, _, rfl, N258a, K265, b262, O258, V258⟩ (by decide) (by decide))
set_option maxRecDepth 65536 in
set_option maxHeartbeats 40000000 in
theorem rm_lofa_1 {l : Launch} {Z : State} {a0 : Array Value} (hw : ∀ d ∈ tables_1, d.before a0 Z = true) (q_ : Addr) (kq : ClassId) (x0 : Addr) (aL aN aE : Addr) (kN : ClassId) (h0 : Heap) (O0 : Ext Z.heap h0) (SL : Sta Z Z.heap "java/util/ImmutableCollections" "EMPTY_LIST" "Ljava/util/ImmutableCollections$ListN;" (.ref aL)) (XL : Exa Z Z.heap aL "java/util/ImmutableCollections$ListN") (FL : Fld Z Z.heap aL "java/util/ImmutableCollections$ListN" "elements" "[Ljava/lang/Object;" (.ref aN)) (VN : Arv Z Z.heap aN kN (.object "java/lang/Object") (0 : Int32) [] .null) (SE : Sta Z Z.heap "java/util/ImmutableCollections" "EMPTY" "Ljava/lang/Object;" (.ref aE)) (Vq : Arv Z h0 q_ kq (.object "java/lang/Object") (1 : Int32) [(.ref x0)] .null) (Ez0 : Exa Z h0 x0 "com/example/scopa/scopa/schema/Column") :
    Con l (⟨"java/util/List", "of", "([Ljava/lang/Object;)Ljava/util/List;"⟩ : MethodName) jdk_40_method_47_code 2 (some (.object "java/util/List")) ({ frames := 5, cells := 1, slots := 2, locals := 62 } : Room) Z #[(.ref q_)] h0 (fun v h L => ∃ (o_ : Addr), v = some (.ref o_) ∧ Fr Z.heap.size L ∧ Keep h0 h [] ∧ h0.size ≤ o_ ∧ Exa Z h o_ "java/util/ImmutableCollections$List12" ∧ Fld Z h o_ "java/util/ImmutableCollections$List12" "e0" "Ljava/lang/Object;" (.ref x0) ∧ Fld Z h o_ "java/util/ImmutableCollections$List12" "e1" "Ljava/lang/Object;" (.ref aE)) := by
  refine Con.of (plainFor_of_name pn_21) (Ls := #[rv q_, .unset]) (fun m => efOf rfl) ?_
  intro p e s m below meth c T0 X0 hx hZ hby hml hown hnm hret hlk e0
  refine go (fun _ => XS.aloadN X0.here hx rfl (hb hby d28_0) rfl rfl) ?_
  show Ends p e below _ T0 (mkF m 1 #[rv q_, .unset] [(.ref q_)])
  obtain ⟨cl266, A266, -, S266, M266, -⟩ := id Vq
  refine go (fun _ => X0.arraylength hx (cell := cl266) (by rw [e0]; exact A266.1) (State.isArrayOf_alike hZ.alike A266.2.1) (g := (mkF m 1 #[rv q_, .unset] [(.ref q_)])) rfl rfl (hb hby d28_1) _) ?_
  rw [len_of S266 M266]
  show Ends p e below _ T0 (mkF m 2 #[rv q_, .unset] [(.int (1 : Int32))])
  refine go (fun _ => own_tsIn X0 hx (g := (mkF m 2 #[rv q_, .unset] [(.int (1 : Int32))])) rfl (k := (1 : Int32)) (rest := []) rfl (hb hby d28_2) (by decide) (off := 32) (by decide) (pc0 := 2) rfl (pc' := 34) (by decide) _) ?_
  show Ends p e below _ T0 (mkF m 34 #[rv q_, .unset] [])
  obtain ⟨T267, h267, X267, e267, E267, A267, D267, U267, s267⟩ := newO X0 hx hZ hown (hwi hw 228 rfl) (hwi hw 229 rfl) (hwi hw 230 rfl) e0 (g := (mkF m 34 #[rv q_, .unset] [])) rfl (hb hby d28_34) (by decide) (by decide)
  obtain ⟨a267, g267⟩ : ∃ z : Addr, z = h0.size := ⟨_, rfl⟩
  have f267 : Z.heap.size ≤ a267 := by rw [g267]; exact (O0).1
  have K270 : Keep h0 h0 [] := (Keep.refl _ _)
  have b267 : h0.size ≤ a267 := by rw [g267]; exact (K270).1
  rw [← g267] at A267 D267 U267 s267
  have O271 : Ext Z.heap h267 := xx O0 E267
  refine go s267 ?_
  show Ends p e below _ T267 (mkF m 37 #[rv q_, .unset] [(.ref a267)])
  refine go (fun _ => XS.dup X267.here hx rfl (hb hby d28_37) rfl rfl) ?_
  refine go (fun _ => XS.aloadN X267.here hx rfl (hb hby d28_38) rfl rfl) ?_
  refine go (fun _ => XT.iconstV X267.here hx rfl (0 : Int32) (hb hby d28_39) (by decide)) ?_
  show Ends p e below _ T267 (mkF m 40 #[rv q_, .unset] [(.int (0 : Int32)), (.ref q_), (.ref a267), (.ref a267)])
  have F272 := (Arv.ext Vq E267)
  obtain ⟨cl273, A273, -, S273, M273, H273, -⟩ := id F272
  have B273 := inb_of S273 (j := (0 : Int32)) (by decide)
  refine go (fun _ => X267.aaload hx (j := (0 : Int32)) (v := (.ref x0)) (by rw [e267]; exact A273.1) (State.isArrayOf_alike hZ.alike A273.2.1) rfl A273.2.2 B273 (H273.at B273 rfl) (g := (mkF m 40 #[rv q_, .unset] [(.int (0 : Int32)), (.ref q_), (.ref a267), (.ref a267)])) rfl rfl (hb hby d28_40) _) ?_
  show Ends p e below _ T267 (mkF m 41 #[rv q_, .unset] [(.ref x0), (.ref a267), (.ref a267)])
  have F274 := (D267 (Or.inr (hwi hw 241 rfl)) (ty := (.object "java/lang/Object")) (by decide))
  have F275 := (D267 (Or.inr (hwi hw 243 rfl)) (ty := (.object "java/lang/Object")) (by decide))
  refine cInit X267 hx hZ hown (by rw [hml]; rfl) e267 (hwi hw 250 rfl) (hwi hw 251 rfl) (hwi hw 230 rfl) (hwi hw 252 rfl) a267 [(.ref x0)] [(.ref a267)] rfl (rm_l12a hw a267 x0 aE _ O271 f267 A267 F274 F275  SE) (hb hby d28_41) rfl (lenOf pd_29 rfl) rfl (by decide) (by decide) (Nat.le_of_ble_eq_true rfl) (by decide) (by decide) ?_
  rintro v276 T276 h276 L276 X276 e276 ⟨rfl, N276, K276, F276_0, F276_1⟩
  have N276a := Fr.app (Fr.nil _) N276
  show Ends p e below _ T276 (mkF m 44 #[rv q_, .unset] [(.ref a267)])
  have K278 : Keep h0 h276 [] := (Keep.trans (Keep.ext K270 E267) K276 (allS (Or.inr b267) all0))
  have F279 := (Exa.keep A267 K276)
  exact endA X276 hx hret rfl rfl (hb hby d28_44) (lvN X276 hlk e276 (fun h => by rw [hret] at h; cases h) ⟨a267, rfl, N276a, K278, b267, F279, F276_0, F276_1⟩ (by decide) (by decide))
set_option maxRecDepth 65536 in
set_option maxHeartbeats 40000000 in
theorem rm_lc_1 {l : Launch} {Z : State} {a0 : Array Value} (hw : ∀ d ∈ tables_1, d.before a0 Z = true) (a b : Addr) (k : ClassId) (x0 : Addr) (mr : Addr) (aL aN aE : Addr) (kN : ClassId) (h0 : Heap) (O0 : Ext Z.heap h0) (MM : Mid Z "[Ljava/lang/Object;" mr) (SL : Sta Z Z.heap "java/util/ImmutableCollections" "EMPTY_LIST" "Ljava/util/ImmutableCollections$ListN;" (.ref aL)) (XL : Exa Z Z.heap aL "java/util/ImmutableCollections$ListN") (FL : Fld Z Z.heap aL "java/util/ImmutableCollections$ListN" "elements" "[Ljava/lang/Object;" (.ref aN)) (VN : Arv Z Z.heap aN kN (.object "java/lang/Object") (0 : Int32) [] .null) (SE : Sta Z Z.heap "java/util/ImmutableCollections" "EMPTY" "Ljava/lang/Object;" (.ref aE)) (E0 : Exa Z h0 a "java/util/ArrayList") (Ok : OvO Z k) (Vb : Arv Z h0 b k (.object "java/lang/Object") (10 : Int32) [(.ref x0), .null, .null, .null, .null, .null, .null, .null, .null, .null] .null) (Ez0 : Exa Z h0 x0 "com/example/scopa/scopa/schema/Column") (F2 : Fld Z h0 a "java/util/ArrayList" "elementData" "[Ljava/lang/Object;" (.ref b)) (F3 : Fld Z h0 a "java/util/ArrayList" "size" "I" (.int 1)) :
    Con l (⟨"java/util/ImmutableCollections", "listCopy", "(Ljava/util/Collection;)Ljava/util/List;"⟩ : MethodName) jdk_56_method_3_code 2 (some (.object "java/util/List")) ({ frames := 6, cells := 2, slots := 3, locals := 75 } : Room) Z #[(.ref a)] h0 (fun v h L => ∃ (o_ : Addr), v = some (.ref o_) ∧ Fr Z.heap.size L ∧ Keep h0 h [] ∧ h0.size ≤ o_ ∧ Exa Z h o_ "java/util/ImmutableCollections$List12" ∧ Fld Z h o_ "java/util/ImmutableCollections$List12" "e0" "Ljava/lang/Object;" (.ref x0) ∧ Fld Z h o_ "java/util/ImmutableCollections$List12" "e1" "Ljava/lang/Object;" (.ref aE)) := by
  refine Con.of (plainFor_of_name pn_22) (Ls := #[rv a, .unset]) (fun m => efOf rfl) ?_
  intro p e s m below meth c T0 X0 hx hZ hby hml hown hnm hret hlk e0
  refine go (fun _ => XS.aloadN X0.here hx rfl (hb hby d22_0) rfl rfl) ?_
  show Ends p e below _ T0 (mkF m 1 #[rv a, .unset] [(.ref a)])
  obtain ⟨T280, X280, e280, s280⟩ := instNo X0 hx hZ hown (hwi hw 122 rfl) e0 E0 (own_nsno (hwi hw 123 rfl) (hwi hw 229 rfl) (NS.step (hwi hw 123 rfl) (NS.step (hwi hw 124 rfl) (NS.step (hwi hw 125 rfl) (own_nsroot (hwi hw 126 rfl) (hwi hw 229 rfl) (by decide)) (by decide)) (by decide)) (by decide)) (by decide)) (g := (mkF m 1 #[rv a, .unset] [(.ref a)])) rfl rfl (hb hby d22_1)
  refine go s280 ?_
  show Ends p e below _ T280 (mkF m 4 #[rv a, .unset] [(.int (0 : Int32))])
  refine go (fun _ => XS.ifNo X280.here hx rfl (hb hby d22_4) rfl (XT.i0_ne_f ((by decide) : (0 : Int32) = (0 : Int32)))) ?_
  show Ends p e below _ T280 (mkF m 7 #[rv a, .unset] [])
  refine go (fun _ => XS.aloadN X280.here hx rfl (hb hby d22_7) rfl rfl) ?_
  show Ends p e below _ T280 (mkF m 8 #[rv a, .unset] [(.ref a)])
  obtain ⟨T281, X281, e281, s281⟩ := instNo X280 hx hZ hown (hwi hw 127 rfl) e280 E0 (own_nsno (hwi hw 123 rfl) (hwi hw 178 rfl) (NS.step (hwi hw 123 rfl) (NS.step (hwi hw 124 rfl) (NS.step (hwi hw 125 rfl) (own_nsroot (hwi hw 126 rfl) (hwi hw 178 rfl) (by decide)) (by decide)) (by decide)) (by decide)) (by decide)) (g := (mkF m 8 #[rv a, .unset] [(.ref a)])) rfl rfl (hb hby d22_8)
  refine go s281 ?_
  show Ends p e below _ T281 (mkF m 11 #[rv a, .unset] [(.int (0 : Int32))])
  refine go (fun _ => XS.ifYes X281.here hx rfl (pc0 := 11) (pc' := 31) rfl (hb hby d22_11) rfl (XT.i0_eq_t ((by decide) : (0 : Int32) = (0 : Int32))) (by decide) (by decide)) ?_
  show Ends p e below _ T281 (mkF m 31 #[rv a, .unset] [])
  refine go (fun _ => XS.aloadN X281.here hx rfl (hb hby d22_31) rfl rfl) ?_
  show Ends p e below _ T281 (mkF m 32 #[rv a, .unset] [(.ref a)])
  refine cFace X281 hx hZ hown (by rw [hml]; rfl) e281 (hwi hw 128 rfl) (hwi hw 129 rfl) (mvT hZ (hwi hw 130 rfl)) (hwi hw 131 rfl) (hwi hw 132 rfl) (hwi hw 133 rfl) (mvT hZ (hwi hw 134 rfl)) (hwi hw 135 rfl) (hwi hw 54 rfl) (hwi hw 136 rfl) a E0 [] [] rfl (rm_aie_1 hw a _ F3) (hb hby d22_32) rfl (lenOf pd_23 rfl) (by decide) (by decide) (Nat.le_of_ble_eq_true rfl) (by decide) (by decide) ?_
  rintro v282 T282 h282 L282 X282 e282 ⟨rfl, N282, rfl⟩
  have N282a := Fr.app (Fr.nil _) N282
  show Ends p e below _ T282 (mkF m 37 #[rv a, .unset] [(.int (0 : Int32))])
  refine go (fun _ => XS.ifYes X282.here hx rfl (pc0 := 37) (pc' := 44) rfl (hb hby d22_37) rfl (XT.i0_eq_t ((by decide) : (0 : Int32) = (0 : Int32))) (by decide) (by decide)) ?_
  show Ends p e below _ T282 (mkF m 44 #[rv a, .unset] [])
  refine go (fun _ => XS.aloadN X282.here hx rfl (hb hby d22_44) rfl rfl) ?_
  show Ends p e below _ T282 (mkF m 45 #[rv a, .unset] [(.ref a)])
  refine cFace X282 hx hZ hown (by rw [hml]; rfl) e282 (hwi hw 137 rfl) (hwi hw 138 rfl) (mvT hZ (hwi hw 139 rfl)) (hwi hw 140 rfl) (hwi hw 141 rfl) (hwi hw 142 rfl) (mvT hZ (hwi hw 143 rfl)) (hwi hw 135 rfl) (hwi hw 54 rfl) (hwi hw 144 rfl) a E0 [] [] rfl (rm_ta_1 hw a b k x0 mr _ O0 MM Ok Vb Ez0 F2 F3) (hb hby d22_45) rfl (lenOf pd_11 rfl) (by decide) (by decide) (Nat.le_of_ble_eq_true rfl) (by decide) (by decide) ?_
  rintro v283 T283 h283 L283 X283 e283 ⟨q283, kq283, rfl, N283, K283, g283, O283, V283⟩
  have N283a := Fr.app N282a N283
  have K288 : Keep h0 h0 [] := (Keep.refl _ _)
  have O289 : Ext Z.heap h283 := xk O0 K283 all0
  show Ends p e below _ T283 (mkF m 50 #[rv a, .unset] [(.ref q283)])
  have F290 := (Exa.keep Ez0 K283)
  refine cStat X283 hx hZ hown (by rw [hml]; rfl) e283 (hwi hw 167 rfl) (hwi hw 168 rfl) (hwi hw 116 rfl) (hwi hw 169 rfl) [(.ref q283)] [] rfl (rm_lofa_1 hw q283 kq283 x0 aL aN aE kN _ O289 SL XL FL VN SE V283 F290) (hb hby d22_50) rfl (lenOf pd_30 rfl) (by decide) (by decide) (Nat.le_of_ble_eq_true rfl) (by decide) (by decide) ?_
  rintro v291 T291 h291 L291 X291 e291 ⟨o291, rfl, N291, K291, g291, E291, Fa291, Fb291⟩
  have N291a := Fr.app N283a N291
  have K299 : Keep h0 h283 [] := (Keep.trans K288 K283 all0)
  have b298 : h0.size ≤ o291 := Nat.le_trans (K299).1 g291
  show Ends p e below _ T291 (mkF m 53 #[rv a, .unset] [(.ref o291)])
  have K301 : Keep h0 h291 [] := (Keep.trans K299 K291 all0)
  exact endA X291 hx hret rfl rfl (hb hby d22_53) (lvN X291 hlk e291 (fun h => by rw [hret] at h; cases h) ⟨o291, rfl, N291a, K301, b298, E291, Fa291, Fb291⟩ (by decide) (by decide))
set_option maxRecDepth 65536 in
set_option maxHeartbeats 40000000 in
theorem rm_co_1 {l : Launch} {Z : State} {a0 : Array Value} (hw : ∀ d ∈ tables_1, d.before a0 Z = true) (a b : Addr) (k : ClassId) (x0 : Addr) (mr : Addr) (aL aN aE : Addr) (kN : ClassId) (h0 : Heap) (O0 : Ext Z.heap h0) (MM : Mid Z "[Ljava/lang/Object;" mr) (SL : Sta Z Z.heap "java/util/ImmutableCollections" "EMPTY_LIST" "Ljava/util/ImmutableCollections$ListN;" (.ref aL)) (XL : Exa Z Z.heap aL "java/util/ImmutableCollections$ListN") (FL : Fld Z Z.heap aL "java/util/ImmutableCollections$ListN" "elements" "[Ljava/lang/Object;" (.ref aN)) (VN : Arv Z Z.heap aN kN (.object "java/lang/Object") (0 : Int32) [] .null) (SE : Sta Z Z.heap "java/util/ImmutableCollections" "EMPTY" "Ljava/lang/Object;" (.ref aE)) (E0 : Exa Z h0 a "java/util/ArrayList") (Ok : OvO Z k) (Vb : Arv Z h0 b k (.object "java/lang/Object") (10 : Int32) [(.ref x0), .null, .null, .null, .null, .null, .null, .null, .null, .null] .null) (Ez0 : Exa Z h0 x0 "com/example/scopa/scopa/schema/Column") (F2 : Fld Z h0 a "java/util/ArrayList" "elementData" "[Ljava/lang/Object;" (.ref b)) (F3 : Fld Z h0 a "java/util/ArrayList" "size" "I" (.int 1)) :
    Con l (⟨"java/util/List", "copyOf", "(Ljava/util/Collection;)Ljava/util/List;"⟩ : MethodName) jdk_40_method_48_code 1 (some (.object "java/util/List")) ({ frames := 7, cells := 2, slots := 3, locals := 88 } : Room) Z #[(.ref a)] h0 (fun v h L => ∃ (o_ : Addr), v = some (.ref o_) ∧ Fr Z.heap.size L ∧ Keep h0 h [] ∧ h0.size ≤ o_ ∧ Exa Z h o_ "java/util/ImmutableCollections$List12" ∧ Fld Z h o_ "java/util/ImmutableCollections$List12" "e0" "Ljava/lang/Object;" (.ref x0) ∧ Fld Z h o_ "java/util/ImmutableCollections$List12" "e1" "Ljava/lang/Object;" (.ref aE)) := by
  refine Con.of (plainFor_of_name pn_21) (Ls := #[rv a]) (fun m => efOf rfl) ?_
  intro p e s m below meth c T0 X0 hx hZ hby hml hown hnm hret hlk e0
  refine go (fun _ => XS.aloadN X0.here hx rfl (hb hby d23_0) rfl rfl) ?_
  show Ends p e below _ T0 (mkF m 1 #[rv a] [(.ref a)])
  refine cStat X0 hx hZ hown (by rw [hml]; rfl) e0 (hwi hw 118 rfl) (hwi hw 119 rfl) (hwi hw 120 rfl) (hwi hw 121 rfl) [(.ref a)] [] rfl (rm_lc_1 hw a b k x0 mr aL aN aE kN _ O0 MM SL XL FL VN SE E0 Ok Vb Ez0 F2 F3) (hb hby d23_1) rfl (lenOf pd_25 rfl) (by decide) (by decide) (Nat.le_of_ble_eq_true rfl) (by decide) (by decide) ?_
  rintro v302 T302 h302 L302 X302 e302 ⟨o302, rfl, N302, K302, g302, E302, Fa302, Fb302⟩
  have N302a := Fr.app (Fr.nil _) N302
  have K307 : Keep h0 h0 [] := (Keep.refl _ _)
  have b306 : h0.size ≤ o302 := Nat.le_trans (K307).1 g302
  show Ends p e below _ T302 (mkF m 4 #[rv a] [(.ref o302)])
  have K309 : Keep h0 h302 [] := (Keep.trans K307 K302 all0)
  exact endA X302 hx hret rfl rfl (hb hby d23_4) (lvN X302 hlk e302 (fun h => by rw [hret] at h; cases h) ⟨o302, rfl, N302a, K309, b306, E302, Fa302, Fb302⟩ (by decide) (by decide))
set_option maxRecDepth 65536 in
set_option maxHeartbeats 40000000 in
theorem rm_aie_2 {l : Launch} {Z : State} {a0 : Array Value} (hw : ∀ d ∈ tables_1, d.before a0 Z = true) (a : Addr) (h0 : Heap) (F3 : Fld Z h0 a "java/util/ArrayList" "size" "I" (.int 2)) :
    Con l (⟨"java/util/ArrayList", "isEmpty", "()Z"⟩ : MethodName) jdk_38_method_9_code 1 (some .boolean) ({ frames := 0, cells := 0, slots := 0, locals := 0 } : Room) Z #[(.ref a)] h0 (fun v h L => v = some (.int 0) ∧ Fr Z.heap.size L ∧ h0 = h) := by
  refine Con.of (plainFor_of_name pn_8) (Ls := #[rv a]) (fun m => efOf rfl) ?_
  intro p e s m below meth c T0 X0 hx hZ hby hml hown hnm hret hlk e0
  refine go (fun _ => XS.aloadN X0.here hx rfl (hb hby d20_0) rfl rfl) ?_
  show Ends p e below _ T0 (mkF m 1 #[rv a] [(.ref a)])
  obtain ⟨T310, X310, e310, s310⟩ := getF X0 hx hZ hown (host := "") (Or.inl (hwi hw 83 rfl)) Via.refl e0 F3 (g := (mkF m 1 #[rv a] [(.ref a)])) rfl rfl (hb hby d20_1)
  refine go s310 ?_
  show Ends p e below _ T310 (mkF m 4 #[rv a] [(.int (2 : Int32))])
  refine go (fun _ => XS.ifYes X310.here hx rfl (pc0 := 4) (pc' := 11) rfl (hb hby d20_4) rfl (XT.i0_ne_t ((by decide) : ¬ ((2 : Int32) = (0 : Int32)))) (by decide) (by decide)) ?_
  show Ends p e below _ T310 (mkF m 11 #[rv a] [])
  refine go (fun _ => XT.iconstV X310.here hx rfl (0 : Int32) (hb hby d20_11) (by decide)) ?_
  show Ends p e below _ T310 (mkF m 12 #[rv a] [(.int (0 : Int32))])
  exact endN X310 hx hret (by simp) (hb hby d20_12) (lvN X310 hlk e310 (fun h => by rw [hret] at h; cases h) ⟨by simp [nar], (Fr.nil _), rfl⟩ (by decide) (by decide))
set_option maxRecDepth 65536 in
set_option maxHeartbeats 40000000 in
theorem rm_min_2 {l : Launch} {Z : State} {a0 : Array Value} (hw : ∀ d ∈ tables_1, d.before a0 Z = true)  (h0 : Heap)  :
    Con l (⟨"java/lang/Math", "min", "(II)I"⟩ : MethodName) jdk_29_method_69_code 2 (some .int) ({ frames := 0, cells := 0, slots := 0, locals := 0 } : Room) Z #[(.int (10 : Int32)), (.int (2 : Int32))] h0 (fun v h L => v = some (.int 2) ∧ Fr Z.heap.size L ∧ h0 = h) := by
  refine Con.of (Jvm.Free.JP.mathPlain rfl (by decide +kernel)) (Ls := #[iv (10 : Int32), iv (2 : Int32)]) (fun m => efOf rfl) ?_
  intro p e s m below meth c T0 X0 hx hZ hby hml hown hnm hret hlk e0
  refine go (fun _ => XS.iloadN X0.here hx rfl (hb hby d24_0) rfl) ?_
  refine go (fun _ => XS.iloadN X0.here hx rfl (hb hby d24_1) rfl) ?_
  show Ends p e below _ T0 (mkF m 2 #[iv (10 : Int32), iv (2 : Int32)] [(.int (2 : Int32)), (.int (10 : Int32))])
  refine go (fun _ => XS.icmpYes X0.here hx rfl (pc0 := 2) (pc' := 9) rfl (hb hby d24_2) rfl (XT.ii_gt_t ((by decide) : (2 : Int32) < (10 : Int32))) (by decide) (by decide)) ?_
  show Ends p e below _ T0 (mkF m 9 #[iv (10 : Int32), iv (2 : Int32)] [])
  refine go (fun _ => XS.iloadN X0.here hx rfl (hb hby d24_9) rfl) ?_
  show Ends p e below _ T0 (mkF m 10 #[iv (10 : Int32), iv (2 : Int32)] [(.int (2 : Int32))])
  exact endI X0 hx hret (hb hby d24_10) (lvN X0 hlk e0 (fun h => by rw [hret] at h; cases h) ⟨rfl, (Fr.nil _), rfl⟩ (by decide) (by decide))
set_option maxRecDepth 65536 in
set_option maxHeartbeats 40000000 in
theorem rm_cp3_2 {l : Launch} {Z : State} {a0 : Array Value} (hw : ∀ d ∈ tables_1, d.before a0 Z = true) (b : Addr) (k : ClassId) (x0 x1 : Addr) (mr : Addr) (h0 : Heap) (O0 : Ext Z.heap h0) (MM : Mid Z "[Ljava/lang/Object;" mr) (Vb : Arv Z h0 b k (.object "java/lang/Object") (10 : Int32) [(.ref x0), (.ref x1), .null, .null, .null, .null, .null, .null, .null, .null] .null) (Ez0 : Exa Z h0 x0 "com/example/scopa/scopa/schema/Column") (Ez1 : Exa Z h0 x1 "com/example/scopa/scopa/schema/Column") :
    Con l (⟨"java/util/Arrays", "copyOf", "([Ljava/lang/Object;ILjava/lang/Class;)[Ljava/lang/Object;"⟩ : MethodName) jdk_65_method_120_code 4 (some (.array (.object "java/lang/Object"))) ({ frames := 1, cells := 1, slots := 2, locals := 18 } : Room) Z #[(.ref b), (.int (2 : Int32)), (.ref mr)] h0 (fun v h L => ∃ (q_ : Addr) (kq : ClassId), v = some (.ref q_) ∧ Fr Z.heap.size L ∧ Keep h0 h [] ∧ h0.size ≤ q_ ∧ OvO Z kq ∧ Arv Z h q_ kq (.object "java/lang/Object") (2 : Int32) [(.ref x0), (.ref x1)] .null) := by
  refine Con.of (plainFor_of_name pn_26) (Ls := #[rv b, iv (2 : Int32), rv mr, .unset]) (fun m => efOf rfl) ?_
  intro p e s m below meth c T0 X0 hx hZ hby hml hown hnm hret hlk e0
  refine go (fun _ => XS.aloadN X0.here hx rfl (hb hby d25_0) rfl rfl) ?_
  show Ends p e below _ T0 (mkF m 1 #[rv b, iv (2 : Int32), rv mr, .unset] [(.ref mr)])
  obtain ⟨T311, X311, e311, s311⟩ := own_ldcc X0 hx hZ hown (hwi hw 158 rfl) e0 MM (g := (mkF m 1 #[rv b, iv (2 : Int32), rv mr, .unset] [(.ref mr)])) rfl (hb hby d25_1)
  refine go s311 ?_
  show Ends p e below _ T311 (mkF m 3 #[rv b, iv (2 : Int32), rv mr, .unset] [(.ref mr), (.ref mr)])
  refine go (fun _ => XT.acmpNo X311.here hx rfl (hb hby d25_3) rfl rfl rfl (XT.aa_ne_f (rfl : ((.ref mr) : Value) = (.ref mr)))) ?_
  show Ends p e below _ T311 (mkF m 6 #[rv b, iv (2 : Int32), rv mr, .unset] [])
  refine go (fun _ => XS.iloadN X311.here hx rfl (hb hby d25_6) rfl) ?_
  show Ends p e below _ T311 (mkF m 7 #[rv b, iv (2 : Int32), rv mr, .unset] [(.int (2 : Int32))])
  obtain ⟨T312, h312, k312, X312, e312, E312, A312, O312, s312⟩ := own_newR X311 hx hZ hown (hwi hw 159 rfl) (hwi hw 105 rfl) e311 (g := (mkF m 7 #[rv b, iv (2 : Int32), rv mr, .unset] [(.int (2 : Int32))])) rfl (hb hby d25_7) rfl (by decide) (cap := 2) (by decide) (by decide) (by decide) (by decide)
  obtain ⟨a312, g312⟩ : ∃ z : Addr, z = h0.size := ⟨_, rfl⟩
  have f312 : Z.heap.size ≤ a312 := by rw [g312]; exact (O0).1
  have K316 : Keep h0 h0 [] := (Keep.refl _ _)
  have b312 : h0.size ≤ a312 := by rw [g312]; exact (K316).1
  rw [← g312] at A312 s312
  have V312 : Arv Z h312 a312 k312 (.object "java/lang/Object") (2 : Int32) [.null, .null] .null := Arv.pad (Arv.new A312 (by decide)) (pad_rep [] _ 2)
  refine go s312 ?_
  show Ends p e below _ T312 (mkF m 10 #[rv b, iv (2 : Int32), rv mr, .unset] [(.ref a312)])
  refine go (fun _ => XS.goto X312.here hx rfl (pc0 := 10) (pc' := 24) rfl (hb hby d25_10) (by decide) (by decide)) ?_
  refine go (fun _ => XS.astoreN X312.here hx rfl (hb hby d25_24) rfl rfl (l' := #[rv b, iv (2 : Int32), rv mr, rv a312]) rfl) ?_
  refine go (fun _ => XS.aloadN X312.here hx rfl (hb hby d25_25) rfl rfl) ?_
  refine go (fun _ => XT.iconstV X312.here hx rfl (0 : Int32) (hb hby d25_26) (by decide)) ?_
  refine go (fun _ => XS.aloadN X312.here hx rfl (hb hby d25_27) rfl rfl) ?_
  refine go (fun _ => XT.iconstV X312.here hx rfl (0 : Int32) (hb hby d25_28) (by decide)) ?_
  show Ends p e below _ T312 (mkF m 29 #[rv b, iv (2 : Int32), rv mr, rv a312] [(.int (0 : Int32)), (.ref a312), (.int (0 : Int32)), (.ref b)])
  refine go (fun _ => XS.aloadN X312.here hx rfl (hb hby d25_29) rfl rfl) ?_
  show Ends p e below _ T312 (mkF m 30 #[rv b, iv (2 : Int32), rv mr, rv a312] [(.ref b), (.int (0 : Int32)), (.ref a312), (.int (0 : Int32)), (.ref b)])
  have F318 := (Arv.ext Vb E312)
  obtain ⟨cl319, A319, -, S319, M319, -⟩ := id F318
  refine go (fun _ => X312.arraylength hx (cell := cl319) (by rw [e312]; exact A319.1) (State.isArrayOf_alike hZ.alike A319.2.1) (g := (mkF m 30 #[rv b, iv (2 : Int32), rv mr, rv a312] [(.ref b), (.int (0 : Int32)), (.ref a312), (.int (0 : Int32)), (.ref b)])) rfl rfl (hb hby d25_30) _) ?_
  rw [len_of S319 M319]
  show Ends p e below _ T312 (mkF m 31 #[rv b, iv (2 : Int32), rv mr, rv a312] [(.int (10 : Int32)), (.int (0 : Int32)), (.ref a312), (.int (0 : Int32)), (.ref b)])
  refine go (fun _ => XS.iloadN X312.here hx rfl (hb hby d25_31) rfl) ?_
  show Ends p e below _ T312 (mkF m 32 #[rv b, iv (2 : Int32), rv mr, rv a312] [(.int (2 : Int32)), (.int (10 : Int32)), (.int (0 : Int32)), (.ref a312), (.int (0 : Int32)), (.ref b)])
  refine cStat X312 hx hZ hown (by rw [hml]; rfl) e312 (hwi hw 160 rfl) (hwi hw 161 rfl) (hwi hw 102 rfl) (hwi hw 162 rfl) [(.int (10 : Int32)), (.int (2 : Int32))] [(.int (0 : Int32)), (.ref a312), (.int (0 : Int32)), (.ref b)] rfl (rm_min_2 hw _) (hb hby d25_32) rfl (lenOf pd_9 rfl) (by decide) (by decide) (Nat.le_of_ble_eq_true rfl) (by decide) (by decide) ?_
  rintro v320 T320 h320 L320 X320 e320 ⟨rfl, N320, rfl⟩
  have N320a := Fr.app (Fr.nil _) N320
  show Ends p e below _ T320 (mkF m 35 #[rv b, iv (2 : Int32), rv mr, rv a312] [(.int (2 : Int32)), (.int (0 : Int32)), (.ref a312), (.int (0 : Int32)), (.ref b)])
  obtain ⟨cl321, A321, q321, -⟩ := id V312
  have F322 := (Exa.ext E312 Ez1)
  have F323 := (Exa.ext E312 Ez0)
  have G321 : StoL Z h312 a312 [(.ref x0), (.ref x1)] := ⟨Sto.ofV A321 q321 O312.1 (Ins.of_exa F323 (hwi hw 106 rfl)), ⟨Sto.ofV A321 q321 O312.1 (Ins.of_exa F322 (hwi hw 106 rfl)), trivial⟩⟩
  obtain ⟨T321, h321, L321, X321, e321, N321, K321, V321, s321⟩ := cpA X320 hx hZ hown (hwi hw 163 rfl) (hwi hw 166 rfl) (hwi hw 164 rfl) (hwi hw 165 rfl) e320 F318 V312 (us := [(.ref x0), (.ref x1)]) (Or.inr ⟨rfl, rfl, G321⟩) (sp := (0 : Int32)) (dp := (0 : Int32)) (nn := (2 : Int32)) (by decide) (by decide) (by decide) (by decide) (by decide) rfl (Nat.le_of_ble_eq_true rfl) N320a f312 (g := (mkF m 35 #[rv b, iv (2 : Int32), rv mr, rv a312] [(.int (2 : Int32)), (.int (0 : Int32)), (.ref a312), (.int (0 : Int32)), (.ref b)])) rfl (by rw [hml]; rfl) rfl (hb hby d25_35) (by decide) (W := 0) (by show 2 * 0 + _ ≤ _; exact Nat.le_of_eq rfl) (by decide)
  have V321l : Arv Z h321 a312 k312 (.object "java/lang/Object") (2 : Int32) [(.ref x0), (.ref x1)] .null := V321
  refine go s321 ?_
  show Ends p e below _ T321 (mkF m 38 #[rv b, iv (2 : Int32), rv mr, rv a312] [])
  refine go (fun _ => XS.aloadN X321.here hx rfl (hb hby d25_38) rfl rfl) ?_
  show Ends p e below _ T321 (mkF m 39 #[rv b, iv (2 : Int32), rv mr, rv a312] [(.ref a312)])
  have K325 : Keep h0 h321 [] := (Keep.trans (Keep.ext K316 E312) K321 (allS (Or.inr b312) all0))
  exact endA X321 hx hret rfl rfl (hb hby d25_39) (lvN X321 hlk e321 (fun h => by rw [hret] at h; cases h) ⟨a312, _, rfl, N321, K325, b312, O312, V321l⟩ (by decide) (by decide))
set_option maxRecDepth 65536 in
set_option maxHeartbeats 40000000 in
theorem rm_cp2_2 {l : Launch} {Z : State} {a0 : Array Value} (hw : ∀ d ∈ tables_1, d.before a0 Z = true) (b : Addr) (k : ClassId) (x0 x1 : Addr) (mr : Addr) (h0 : Heap) (O0 : Ext Z.heap h0) (MM : Mid Z "[Ljava/lang/Object;" mr) (Ok : OvO Z k) (Vb : Arv Z h0 b k (.object "java/lang/Object") (10 : Int32) [(.ref x0), (.ref x1), .null, .null, .null, .null, .null, .null, .null, .null] .null) (Ez0 : Exa Z h0 x0 "com/example/scopa/scopa/schema/Column") (Ez1 : Exa Z h0 x1 "com/example/scopa/scopa/schema/Column") :
    Con l (⟨"java/util/Arrays", "copyOf", "([Ljava/lang/Object;I)[Ljava/lang/Object;"⟩ : MethodName) jdk_65_method_119_code 2 (some (.array (.object "java/lang/Object"))) ({ frames := 2, cells := 1, slots := 2, locals := 33 } : Room) Z #[(.ref b), (.int (2 : Int32))] h0 (fun v h L => ∃ (q_ : Addr) (kq : ClassId), v = some (.ref q_) ∧ Fr Z.heap.size L ∧ Keep h0 h [] ∧ h0.size ≤ q_ ∧ OvO Z kq ∧ Arv Z h q_ kq (.object "java/lang/Object") (2 : Int32) [(.ref x0), (.ref x1)] .null) := by
  refine Con.of (plainFor_of_name pn_26) (Ls := #[rv b, iv (2 : Int32)]) (fun m => efOf rfl) ?_
  intro p e s m below meth c T0 X0 hx hZ hby hml hown hnm hret hlk e0
  refine go (fun _ => XS.aloadN X0.here hx rfl (hb hby d26_0) rfl rfl) ?_
  refine go (fun _ => XS.iloadN X0.here hx rfl (hb hby d26_1) rfl) ?_
  refine go (fun _ => XS.aloadN X0.here hx rfl (hb hby d26_2) rfl rfl) ?_
  show Ends p e below _ T0 (mkF m 3 #[rv b, iv (2 : Int32)] [(.ref b), (.int (2 : Int32)), (.ref b)])
  have F327 := (own_oexa Vb Ok)
  obtain ⟨T326, X326, e326, s326⟩ := own_gcls X0 hx hZ hown (hwi hw 149 rfl) (hwi hw 150 rfl) (hwi hw 126 rfl) (hwi hw 152 rfl) (hwi hw 151 rfl) (hwi hw 153 rfl) e0 F327 MM (g := (mkF m 3 #[rv b, iv (2 : Int32)] [(.ref b), (.int (2 : Int32)), (.ref b)])) rfl (by rw [hml]; rfl) rfl (hb hby d26_3) (by decide) (W := 2) (by show 2 * 0 + _ ≤ _; exact Nat.le_of_eq rfl) (by decide)
  refine go s326 ?_
  show Ends p e below _ T326 (mkF m 6 #[rv b, iv (2 : Int32)] [(.ref mr), (.int (2 : Int32)), (.ref b)])
  refine cStat X326 hx hZ hown (by rw [hml]; rfl) e326 (hwi hw 155 rfl) (hwi hw 156 rfl) (hwi hw 147 rfl) (hwi hw 157 rfl) [(.ref b), (.int (2 : Int32)), (.ref mr)] [] rfl (rm_cp3_2 hw b k x0 x1 mr _ O0 MM Vb Ez0 Ez1) (hb hby d26_6) rfl (lenOf pd_27 rfl) (by decide) (by decide) (Nat.le_of_ble_eq_true rfl) (by decide) (by decide) ?_
  rintro v328 T328 h328 L328 X328 e328 ⟨q328, kq328, rfl, N328, K328, g328, O328, V328⟩
  have N328a := Fr.app (Fr.nil _) N328
  have K333 : Keep h0 h0 [] := (Keep.refl _ _)
  have b332 : h0.size ≤ q328 := Nat.le_trans (K333).1 g328
  show Ends p e below _ T328 (mkF m 9 #[rv b, iv (2 : Int32)] [(.ref q328)])
  have K335 : Keep h0 h328 [] := (Keep.trans K333 K328 all0)
  exact endA X328 hx hret rfl rfl (hb hby d26_9) (lvN X328 hlk e328 (fun h => by rw [hret] at h; cases h) ⟨q328, _, rfl, N328a, K335, b332, O328, V328⟩ (by decide) (by decide))
set_option maxRecDepth 65536 in
set_option maxHeartbeats 40000000 in
theorem rm_ta_2 {l : Launch} {Z : State} {a0 : Array Value} (hw : ∀ d ∈ tables_1, d.before a0 Z = true) (a : Addr) (b : Addr) (k : ClassId) (x0 x1 : Addr) (mr : Addr) (h0 : Heap) (O0 : Ext Z.heap h0) (MM : Mid Z "[Ljava/lang/Object;" mr) (Ok : OvO Z k) (Vb : Arv Z h0 b k (.object "java/lang/Object") (10 : Int32) [(.ref x0), (.ref x1), .null, .null, .null, .null, .null, .null, .null, .null] .null) (Ez0 : Exa Z h0 x0 "com/example/scopa/scopa/schema/Column") (Ez1 : Exa Z h0 x1 "com/example/scopa/scopa/schema/Column") (F2 : Fld Z h0 a "java/util/ArrayList" "elementData" "[Ljava/lang/Object;" (.ref b)) (F3 : Fld Z h0 a "java/util/ArrayList" "size" "I" (.int 2)) :
    Con l (⟨"java/util/ArrayList", "toArray", "()[Ljava/lang/Object;"⟩ : MethodName) jdk_38_method_16_code 1 (some (.array (.object "java/lang/Object"))) ({ frames := 3, cells := 1, slots := 2, locals := 46 } : Room) Z #[(.ref a)] h0 (fun v h L => ∃ (q_ : Addr) (kq : ClassId), v = some (.ref q_) ∧ Fr Z.heap.size L ∧ Keep h0 h [] ∧ h0.size ≤ q_ ∧ OvO Z kq ∧ Arv Z h q_ kq (.object "java/lang/Object") (2 : Int32) [(.ref x0), (.ref x1)] .null) := by
  refine Con.of (plainFor_of_name pn_8) (Ls := #[rv a]) (fun m => efOf rfl) ?_
  intro p e s m below meth c T0 X0 hx hZ hby hml hown hnm hret hlk e0
  refine go (fun _ => XS.aloadN X0.here hx rfl (hb hby d27_0) rfl rfl) ?_
  show Ends p e below _ T0 (mkF m 1 #[rv a] [(.ref a)])
  obtain ⟨T336, X336, e336, s336⟩ := getF X0 hx hZ hown (host := "") (Or.inl (hwi hw 74 rfl)) Via.refl e0 F2 (g := (mkF m 1 #[rv a] [(.ref a)])) rfl rfl (hb hby d27_1)
  refine go s336 ?_
  show Ends p e below _ T336 (mkF m 4 #[rv a] [(.ref b)])
  refine go (fun _ => XS.aloadN X336.here hx rfl (hb hby d27_4) rfl rfl) ?_
  show Ends p e below _ T336 (mkF m 5 #[rv a] [(.ref a), (.ref b)])
  obtain ⟨T337, X337, e337, s337⟩ := getF X336 hx hZ hown (host := "") (Or.inl (hwi hw 83 rfl)) Via.refl e336 F3 (g := (mkF m 5 #[rv a] [(.ref a), (.ref b)])) rfl rfl (hb hby d27_5)
  refine go s337 ?_
  show Ends p e below _ T337 (mkF m 8 #[rv a] [(.int (2 : Int32)), (.ref b)])
  refine cStat X337 hx hZ hown (by rw [hml]; rfl) e337 (hwi hw 145 rfl) (hwi hw 146 rfl) (hwi hw 147 rfl) (hwi hw 148 rfl) [(.ref b), (.int (2 : Int32))] [] rfl (rm_cp2_2 hw b k x0 x1 mr _ O0 MM Ok Vb Ez0 Ez1) (hb hby d27_8) rfl (lenOf pd_28 rfl) (by decide) (by decide) (Nat.le_of_ble_eq_true rfl) (by decide) (by decide) ?_
  rintro v338 T338 h338 L338 X338 e338 ⟨q338, kq338, rfl, N338, K338, g338, O338, V338⟩
  have N338a := Fr.app (Fr.nil _) N338
  have K344 : Keep h0 h0 [] := (Keep.refl _ _)
  have b343 : h0.size ≤ q338 := Nat.le_trans (K344).1 g338
  show Ends p e below _ T338 (mkF m 11 #[rv a] [(.ref q338)])
  have K346 : Keep h0 h338 [] := (Keep.trans K344 K338 all0)
  exact endA X338 hx hret rfl rfl (hb hby d27_11) (lvN X338 hlk e338 (fun h => by rw [hret] at h; cases h) ⟨q338, _, rfl, N338a, K346, b343, O338, V338⟩ (by decide) (by decide))
set_option maxRecDepth 65536 in
set_option maxHeartbeats 40000000 in
theorem rm_lofa_2 {l : Launch} {Z : State} {a0 : Array Value} (hw : ∀ d ∈ tables_1, d.before a0 Z = true) (q_ : Addr) (kq : ClassId) (x0 x1 : Addr) (aL aN aE : Addr) (kN : ClassId) (h0 : Heap) (O0 : Ext Z.heap h0) (SL : Sta Z Z.heap "java/util/ImmutableCollections" "EMPTY_LIST" "Ljava/util/ImmutableCollections$ListN;" (.ref aL)) (XL : Exa Z Z.heap aL "java/util/ImmutableCollections$ListN") (FL : Fld Z Z.heap aL "java/util/ImmutableCollections$ListN" "elements" "[Ljava/lang/Object;" (.ref aN)) (VN : Arv Z Z.heap aN kN (.object "java/lang/Object") (0 : Int32) [] .null) (SE : Sta Z Z.heap "java/util/ImmutableCollections" "EMPTY" "Ljava/lang/Object;" (.ref aE)) (Vq : Arv Z h0 q_ kq (.object "java/lang/Object") (2 : Int32) [(.ref x0), (.ref x1)] .null) (Ez0 : Exa Z h0 x0 "com/example/scopa/scopa/schema/Column") (Ez1 : Exa Z h0 x1 "com/example/scopa/scopa/schema/Column") :
    Con l (⟨"java/util/List", "of", "([Ljava/lang/Object;)Ljava/util/List;"⟩ : MethodName) jdk_40_method_47_code 2 (some (.object "java/util/List")) ({ frames := 5, cells := 1, slots := 2, locals := 63 } : Room) Z #[(.ref q_)] h0 (fun v h L => ∃ (o_ : Addr), v = some (.ref o_) ∧ Fr Z.heap.size L ∧ Keep h0 h [] ∧ h0.size ≤ o_ ∧ Exa Z h o_ "java/util/ImmutableCollections$List12" ∧ Fld Z h o_ "java/util/ImmutableCollections$List12" "e0" "Ljava/lang/Object;" (.ref x0) ∧ Fld Z h o_ "java/util/ImmutableCollections$List12" "e1" "Ljava/lang/Object;" (.ref x1)) := by
  refine Con.of (plainFor_of_name pn_21) (Ls := #[rv q_, .unset]) (fun m => efOf rfl) ?_
  intro p e s m below meth c T0 X0 hx hZ hby hml hown hnm hret hlk e0
  refine go (fun _ => XS.aloadN X0.here hx rfl (hb hby d28_0) rfl rfl) ?_
  show Ends p e below _ T0 (mkF m 1 #[rv q_, .unset] [(.ref q_)])
  obtain ⟨cl347, A347, -, S347, M347, -⟩ := id Vq
  refine go (fun _ => X0.arraylength hx (cell := cl347) (by rw [e0]; exact A347.1) (State.isArrayOf_alike hZ.alike A347.2.1) (g := (mkF m 1 #[rv q_, .unset] [(.ref q_)])) rfl rfl (hb hby d28_1) _) ?_
  rw [len_of S347 M347]
  show Ends p e below _ T0 (mkF m 2 #[rv q_, .unset] [(.int (2 : Int32))])
  refine go (fun _ => own_tsIn X0 hx (g := (mkF m 2 #[rv q_, .unset] [(.int (2 : Int32))])) rfl (k := (2 : Int32)) (rest := []) rfl (hb hby d28_2) (by decide) (off := 43) (by decide) (pc0 := 2) rfl (pc' := 45) (by decide) _) ?_
  show Ends p e below _ T0 (mkF m 45 #[rv q_, .unset] [])
  obtain ⟨T348, h348, X348, e348, E348, A348, D348, U348, s348⟩ := newO X0 hx hZ hown (hwi hw 228 rfl) (hwi hw 229 rfl) (hwi hw 230 rfl) e0 (g := (mkF m 45 #[rv q_, .unset] [])) rfl (hb hby d28_45) (by decide) (by decide)
  obtain ⟨a348, g348⟩ : ∃ z : Addr, z = h0.size := ⟨_, rfl⟩
  have f348 : Z.heap.size ≤ a348 := by rw [g348]; exact (O0).1
  have K352 : Keep h0 h0 [] := (Keep.refl _ _)
  have b348 : h0.size ≤ a348 := by rw [g348]; exact (K352).1
  rw [← g348] at A348 D348 U348 s348
  have O353 : Ext Z.heap h348 := xx O0 E348
  refine go s348 ?_
  show Ends p e below _ T348 (mkF m 48 #[rv q_, .unset] [(.ref a348)])
  refine go (fun _ => XS.dup X348.here hx rfl (hb hby d28_48) rfl rfl) ?_
  refine go (fun _ => XS.aloadN X348.here hx rfl (hb hby d28_49) rfl rfl) ?_
  refine go (fun _ => XT.iconstV X348.here hx rfl (0 : Int32) (hb hby d28_50) (by decide)) ?_
  show Ends p e below _ T348 (mkF m 51 #[rv q_, .unset] [(.int (0 : Int32)), (.ref q_), (.ref a348), (.ref a348)])
  have F354 := (Arv.ext Vq E348)
  obtain ⟨cl355, A355, -, S355, M355, H355, -⟩ := id F354
  have B355 := inb_of S355 (j := (0 : Int32)) (by decide)
  refine go (fun _ => X348.aaload hx (j := (0 : Int32)) (v := (.ref x0)) (by rw [e348]; exact A355.1) (State.isArrayOf_alike hZ.alike A355.2.1) rfl A355.2.2 B355 (H355.at B355 rfl) (g := (mkF m 51 #[rv q_, .unset] [(.int (0 : Int32)), (.ref q_), (.ref a348), (.ref a348)])) rfl rfl (hb hby d28_51) _) ?_
  show Ends p e below _ T348 (mkF m 52 #[rv q_, .unset] [(.ref x0), (.ref a348), (.ref a348)])
  refine go (fun _ => XS.aloadN X348.here hx rfl (hb hby d28_52) rfl rfl) ?_
  refine go (fun _ => XT.iconstV X348.here hx rfl (1 : Int32) (hb hby d28_53) (by decide)) ?_
  show Ends p e below _ T348 (mkF m 54 #[rv q_, .unset] [(.int (1 : Int32)), (.ref q_), (.ref x0), (.ref a348), (.ref a348)])
  obtain ⟨cl356, A356, -, S356, M356, H356, -⟩ := id F354
  have B356 := inb_of S356 (j := (1 : Int32)) (by decide)
  refine go (fun _ => X348.aaload hx (j := (1 : Int32)) (v := (.ref x1)) (by rw [e348]; exact A356.1) (State.isArrayOf_alike hZ.alike A356.2.1) rfl A356.2.2 B356 (H356.at B356 rfl) (g := (mkF m 54 #[rv q_, .unset] [(.int (1 : Int32)), (.ref q_), (.ref x0), (.ref a348), (.ref a348)])) rfl rfl (hb hby d28_54) _) ?_
  show Ends p e below _ T348 (mkF m 55 #[rv q_, .unset] [(.ref x1), (.ref x0), (.ref a348), (.ref a348)])
  have F357 := (D348 (Or.inr (hwi hw 241 rfl)) (ty := (.object "java/lang/Object")) (by decide))
  have F358 := (D348 (Or.inr (hwi hw 243 rfl)) (ty := (.object "java/lang/Object")) (by decide))
  refine cInit X348 hx hZ hown (by rw [hml]; rfl) e348 (hwi hw 231 rfl) (hwi hw 232 rfl) (hwi hw 230 rfl) (hwi hw 234 rfl) a348 [(.ref x0), (.ref x1)] [(.ref a348)] rfl (rm_l12b hw a348 x0 x1 _ O353 f348 A348 F357 F358  ) (hb hby d28_55) rfl (lenOf pd_31 rfl) rfl (by decide) (by decide) (Nat.le_of_ble_eq_true rfl) (by decide) (by decide) ?_
  rintro v359 T359 h359 L359 X359 e359 ⟨rfl, N359, K359, F359_0, F359_1⟩
  have N359a := Fr.app (Fr.nil _) N359
  show Ends p e below _ T359 (mkF m 58 #[rv q_, .unset] [(.ref a348)])
  have K361 : Keep h0 h359 [] := (Keep.trans (Keep.ext K352 E348) K359 (allS (Or.inr b348) all0))
  have F362 := (Exa.keep A348 K359)
  exact endA X359 hx hret rfl rfl (hb hby d28_58) (lvN X359 hlk e359 (fun h => by rw [hret] at h; cases h) ⟨a348, rfl, N359a, K361, b348, F362, F359_0, F359_1⟩ (by decide) (by decide))
set_option maxRecDepth 65536 in
set_option maxHeartbeats 40000000 in
theorem rm_lc_2 {l : Launch} {Z : State} {a0 : Array Value} (hw : ∀ d ∈ tables_1, d.before a0 Z = true) (a b : Addr) (k : ClassId) (x0 x1 : Addr) (mr : Addr) (aL aN aE : Addr) (kN : ClassId) (h0 : Heap) (O0 : Ext Z.heap h0) (MM : Mid Z "[Ljava/lang/Object;" mr) (SL : Sta Z Z.heap "java/util/ImmutableCollections" "EMPTY_LIST" "Ljava/util/ImmutableCollections$ListN;" (.ref aL)) (XL : Exa Z Z.heap aL "java/util/ImmutableCollections$ListN") (FL : Fld Z Z.heap aL "java/util/ImmutableCollections$ListN" "elements" "[Ljava/lang/Object;" (.ref aN)) (VN : Arv Z Z.heap aN kN (.object "java/lang/Object") (0 : Int32) [] .null) (SE : Sta Z Z.heap "java/util/ImmutableCollections" "EMPTY" "Ljava/lang/Object;" (.ref aE)) (E0 : Exa Z h0 a "java/util/ArrayList") (Ok : OvO Z k) (Vb : Arv Z h0 b k (.object "java/lang/Object") (10 : Int32) [(.ref x0), (.ref x1), .null, .null, .null, .null, .null, .null, .null, .null] .null) (Ez0 : Exa Z h0 x0 "com/example/scopa/scopa/schema/Column") (Ez1 : Exa Z h0 x1 "com/example/scopa/scopa/schema/Column") (F2 : Fld Z h0 a "java/util/ArrayList" "elementData" "[Ljava/lang/Object;" (.ref b)) (F3 : Fld Z h0 a "java/util/ArrayList" "size" "I" (.int 2)) :
    Con l (⟨"java/util/ImmutableCollections", "listCopy", "(Ljava/util/Collection;)Ljava/util/List;"⟩ : MethodName) jdk_56_method_3_code 2 (some (.object "java/util/List")) ({ frames := 6, cells := 2, slots := 4, locals := 76 } : Room) Z #[(.ref a)] h0 (fun v h L => ∃ (o_ : Addr), v = some (.ref o_) ∧ Fr Z.heap.size L ∧ Keep h0 h [] ∧ h0.size ≤ o_ ∧ Exa Z h o_ "java/util/ImmutableCollections$List12" ∧ Fld Z h o_ "java/util/ImmutableCollections$List12" "e0" "Ljava/lang/Object;" (.ref x0) ∧ Fld Z h o_ "java/util/ImmutableCollections$List12" "e1" "Ljava/lang/Object;" (.ref x1)) := by
  refine Con.of (plainFor_of_name pn_22) (Ls := #[rv a, .unset]) (fun m => efOf rfl) ?_
  intro p e s m below meth c T0 X0 hx hZ hby hml hown hnm hret hlk e0
  refine go (fun _ => XS.aloadN X0.here hx rfl (hb hby d22_0) rfl rfl) ?_
  show Ends p e below _ T0 (mkF m 1 #[rv a, .unset] [(.ref a)])
  obtain ⟨T363, X363, e363, s363⟩ := instNo X0 hx hZ hown (hwi hw 122 rfl) e0 E0 (own_nsno (hwi hw 123 rfl) (hwi hw 229 rfl) (NS.step (hwi hw 123 rfl) (NS.step (hwi hw 124 rfl) (NS.step (hwi hw 125 rfl) (own_nsroot (hwi hw 126 rfl) (hwi hw 229 rfl) (by decide)) (by decide)) (by decide)) (by decide)) (by decide)) (g := (mkF m 1 #[rv a, .unset] [(.ref a)])) rfl rfl (hb hby d22_1)
  refine go s363 ?_
  show Ends p e below _ T363 (mkF m 4 #[rv a, .unset] [(.int (0 : Int32))])
  refine go (fun _ => XS.ifNo X363.here hx rfl (hb hby d22_4) rfl (XT.i0_ne_f ((by decide) : (0 : Int32) = (0 : Int32)))) ?_
  show Ends p e below _ T363 (mkF m 7 #[rv a, .unset] [])
  refine go (fun _ => XS.aloadN X363.here hx rfl (hb hby d22_7) rfl rfl) ?_
  show Ends p e below _ T363 (mkF m 8 #[rv a, .unset] [(.ref a)])
  obtain ⟨T364, X364, e364, s364⟩ := instNo X363 hx hZ hown (hwi hw 127 rfl) e363 E0 (own_nsno (hwi hw 123 rfl) (hwi hw 178 rfl) (NS.step (hwi hw 123 rfl) (NS.step (hwi hw 124 rfl) (NS.step (hwi hw 125 rfl) (own_nsroot (hwi hw 126 rfl) (hwi hw 178 rfl) (by decide)) (by decide)) (by decide)) (by decide)) (by decide)) (g := (mkF m 8 #[rv a, .unset] [(.ref a)])) rfl rfl (hb hby d22_8)
  refine go s364 ?_
  show Ends p e below _ T364 (mkF m 11 #[rv a, .unset] [(.int (0 : Int32))])
  refine go (fun _ => XS.ifYes X364.here hx rfl (pc0 := 11) (pc' := 31) rfl (hb hby d22_11) rfl (XT.i0_eq_t ((by decide) : (0 : Int32) = (0 : Int32))) (by decide) (by decide)) ?_
  show Ends p e below _ T364 (mkF m 31 #[rv a, .unset] [])
  refine go (fun _ => XS.aloadN X364.here hx rfl (hb hby d22_31) rfl rfl) ?_
  show Ends p e below _ T364 (mkF m 32 #[rv a, .unset] [(.ref a)])
  refine cFace X364 hx hZ hown (by rw [hml]; rfl) e364 (hwi hw 128 rfl) (hwi hw 129 rfl) (mvT hZ (hwi hw 130 rfl)) (hwi hw 131 rfl) (hwi hw 132 rfl) (hwi hw 133 rfl) (mvT hZ (hwi hw 134 rfl)) (hwi hw 135 rfl) (hwi hw 54 rfl) (hwi hw 136 rfl) a E0 [] [] rfl (rm_aie_2 hw a _ F3) (hb hby d22_32) rfl (lenOf pd_23 rfl) (by decide) (by decide) (Nat.le_of_ble_eq_true rfl) (by decide) (by decide) ?_
  rintro v365 T365 h365 L365 X365 e365 ⟨rfl, N365, rfl⟩
  have N365a := Fr.app (Fr.nil _) N365
  show Ends p e below _ T365 (mkF m 37 #[rv a, .unset] [(.int (0 : Int32))])
  refine go (fun _ => XS.ifYes X365.here hx rfl (pc0 := 37) (pc' := 44) rfl (hb hby d22_37) rfl (XT.i0_eq_t ((by decide) : (0 : Int32) = (0 : Int32))) (by decide) (by decide)) ?_
  show Ends p e below _ T365 (mkF m 44 #[rv a, .unset] [])
  refine go (fun _ => XS.aloadN X365.here hx rfl (hb hby d22_44) rfl rfl) ?_
  show Ends p e below _ T365 (mkF m 45 #[rv a, .unset] [(.ref a)])
  refine cFace X365 hx hZ hown (by rw [hml]; rfl) e365 (hwi hw 137 rfl) (hwi hw 138 rfl) (mvT hZ (hwi hw 139 rfl)) (hwi hw 140 rfl) (hwi hw 141 rfl) (hwi hw 142 rfl) (mvT hZ (hwi hw 143 rfl)) (hwi hw 135 rfl) (hwi hw 54 rfl) (hwi hw 144 rfl) a E0 [] [] rfl (rm_ta_2 hw a b k x0 x1 mr _ O0 MM Ok Vb Ez0 Ez1 F2 F3) (hb hby d22_45) rfl (lenOf pd_11 rfl) (by decide) (by decide) (Nat.le_of_ble_eq_true rfl) (by decide) (by decide) ?_
  rintro v366 T366 h366 L366 X366 e366 ⟨q366, kq366, rfl, N366, K366, g366, O366, V366⟩
  have N366a := Fr.app N365a N366
  have K372 : Keep h0 h0 [] := (Keep.refl _ _)
  have O373 : Ext Z.heap h366 := xk O0 K366 all0
  show Ends p e below _ T366 (mkF m 50 #[rv a, .unset] [(.ref q366)])
  have F374 := (Exa.keep Ez0 K366)
  have F375 := (Exa.keep Ez1 K366)
  refine cStat X366 hx hZ hown (by rw [hml]; rfl) e366 (hwi hw 167 rfl) (hwi hw 168 rfl) (hwi hw 116 rfl) (hwi hw 169 rfl) [(.ref q366)] [] rfl (rm_lofa_2 hw q366 kq366 x0 x1 aL aN aE kN _ O373 SL XL FL VN SE V366 F374 F375) (hb hby d22_50) rfl (lenOf pd_30 rfl) (by decide) (by decide) (Nat.le_of_ble_eq_true rfl) (by decide) (by decide) ?_
  rintro v376 T376 h376 L376 X376 e376 ⟨o376, rfl, N376, K376, g376, E376, Fa376, Fb376⟩
  have N376a := Fr.app N366a N376
  have K385 : Keep h0 h366 [] := (Keep.trans K372 K366 all0)
  have b384 : h0.size ≤ o376 := Nat.le_trans (K385).1 g376
  show Ends p e below _ T376 (mkF m 53 #[rv a, .unset] [(.ref o376)])
  have K387 : Keep h0 h376 [] := (Keep.trans K385 K376 all0)
  exact endA X376 hx hret rfl rfl (hb hby d22_53) (lvN X376 hlk e376 (fun h => by rw [hret] at h; cases h) ⟨o376, rfl, N376a, K387, b384, E376, Fa376, Fb376⟩ (by decide) (by decide))
set_option maxRecDepth 65536 in
set_option maxHeartbeats 40000000 in
theorem rm_co_2 {l : Launch} {Z : State} {a0 : Array Value} (hw : ∀ d ∈ tables_1, d.before a0 Z = true) (a b : Addr) (k : ClassId) (x0 x1 : Addr) (mr : Addr) (aL aN aE : Addr) (kN : ClassId) (h0 : Heap) (O0 : Ext Z.heap h0) (MM : Mid Z "[Ljava/lang/Object;" mr) (SL : Sta Z Z.heap "java/util/ImmutableCollections" "EMPTY_LIST" "Ljava/util/ImmutableCollections$ListN;" (.ref aL)) (XL : Exa Z Z.heap aL "java/util/ImmutableCollections$ListN") (FL : Fld Z Z.heap aL "java/util/ImmutableCollections$ListN" "elements" "[Ljava/lang/Object;" (.ref aN)) (VN : Arv Z Z.heap aN kN (.object "java/lang/Object") (0 : Int32) [] .null) (SE : Sta Z Z.heap "java/util/ImmutableCollections" "EMPTY" "Ljava/lang/Object;" (.ref aE)) (E0 : Exa Z h0 a "java/util/ArrayList") (Ok : OvO Z k) (Vb : Arv Z h0 b k (.object "java/lang/Object") (10 : Int32) [(.ref x0), (.ref x1), .null, .null, .null, .null, .null, .null, .null, .null] .null) (Ez0 : Exa Z h0 x0 "com/example/scopa/scopa/schema/Column") (Ez1 : Exa Z h0 x1 "com/example/scopa/scopa/schema/Column") (F2 : Fld Z h0 a "java/util/ArrayList" "elementData" "[Ljava/lang/Object;" (.ref b)) (F3 : Fld Z h0 a "java/util/ArrayList" "size" "I" (.int 2)) :
    Con l (⟨"java/util/List", "copyOf", "(Ljava/util/Collection;)Ljava/util/List;"⟩ : MethodName) jdk_40_method_48_code 1 (some (.object "java/util/List")) ({ frames := 7, cells := 2, slots := 4, locals := 89 } : Room) Z #[(.ref a)] h0 (fun v h L => ∃ (o_ : Addr), v = some (.ref o_) ∧ Fr Z.heap.size L ∧ Keep h0 h [] ∧ h0.size ≤ o_ ∧ Exa Z h o_ "java/util/ImmutableCollections$List12" ∧ Fld Z h o_ "java/util/ImmutableCollections$List12" "e0" "Ljava/lang/Object;" (.ref x0) ∧ Fld Z h o_ "java/util/ImmutableCollections$List12" "e1" "Ljava/lang/Object;" (.ref x1)) := by
  refine Con.of (plainFor_of_name pn_21) (Ls := #[rv a]) (fun m => efOf rfl) ?_
  intro p e s m below meth c T0 X0 hx hZ hby hml hown hnm hret hlk e0
  refine go (fun _ => XS.aloadN X0.here hx rfl (hb hby d23_0) rfl rfl) ?_
  show Ends p e below _ T0 (mkF m 1 #[rv a] [(.ref a)])
  refine cStat X0 hx hZ hown (by rw [hml]; rfl) e0 (hwi hw 118 rfl) (hwi hw 119 rfl) (hwi hw 120 rfl) (hwi hw 121 rfl) [(.ref a)] [] rfl (rm_lc_2 hw a b k x0 x1 mr aL aN aE kN _ O0 MM SL XL FL VN SE E0 Ok Vb Ez0 Ez1 F2 F3) (hb hby d23_1) rfl (lenOf pd_25 rfl) (by decide) (by decide) (Nat.le_of_ble_eq_true rfl) (by decide) (by decide) ?_
  rintro v388 T388 h388 L388 X388 e388 ⟨o388, rfl, N388, K388, g388, E388, Fa388, Fb388⟩
  have N388a := Fr.app (Fr.nil _) N388
  have K394 : Keep h0 h0 [] := (Keep.refl _ _)
  have b393 : h0.size ≤ o388 := Nat.le_trans (K394).1 g388
  show Ends p e below _ T388 (mkF m 4 #[rv a] [(.ref o388)])
  have K396 : Keep h0 h388 [] := (Keep.trans K394 K388 all0)
  exact endA X388 hx hret rfl rfl (hb hby d23_4) (lvN X388 hlk e388 (fun h => by rw [hret] at h; cases h) ⟨o388, rfl, N388a, K396, b393, E388, Fa388, Fb388⟩ (by decide) (by decide))
set_option maxRecDepth 65536 in
set_option maxHeartbeats 40000000 in
theorem rm_aie_3 {l : Launch} {Z : State} {a0 : Array Value} (hw : ∀ d ∈ tables_1, d.before a0 Z = true) (a : Addr) (h0 : Heap) (F3 : Fld Z h0 a "java/util/ArrayList" "size" "I" (.int 3)) :
    Con l (⟨"java/util/ArrayList", "isEmpty", "()Z"⟩ : MethodName) jdk_38_method_9_code 1 (some .boolean) ({ frames := 0, cells := 0, slots := 0, locals := 0 } : Room) Z #[(.ref a)] h0 (fun v h L => v = some (.int 0) ∧ Fr Z.heap.size L ∧ h0 = h) := by
  refine Con.of (plainFor_of_name pn_8) (Ls := #[rv a]) (fun m => efOf rfl) ?_
  intro p e s m below meth c T0 X0 hx hZ hby hml hown hnm hret hlk e0
  refine go (fun _ => XS.aloadN X0.here hx rfl (hb hby d20_0) rfl rfl) ?_
  show Ends p e below _ T0 (mkF m 1 #[rv a] [(.ref a)])
  obtain ⟨T397, X397, e397, s397⟩ := getF X0 hx hZ hown (host := "") (Or.inl (hwi hw 83 rfl)) Via.refl e0 F3 (g := (mkF m 1 #[rv a] [(.ref a)])) rfl rfl (hb hby d20_1)
  refine go s397 ?_
  show Ends p e below _ T397 (mkF m 4 #[rv a] [(.int (3 : Int32))])
  refine go (fun _ => XS.ifYes X397.here hx rfl (pc0 := 4) (pc' := 11) rfl (hb hby d20_4) rfl (XT.i0_ne_t ((by decide) : ¬ ((3 : Int32) = (0 : Int32)))) (by decide) (by decide)) ?_
  show Ends p e below _ T397 (mkF m 11 #[rv a] [])
  refine go (fun _ => XT.iconstV X397.here hx rfl (0 : Int32) (hb hby d20_11) (by decide)) ?_
  show Ends p e below _ T397 (mkF m 12 #[rv a] [(.int (0 : Int32))])
  exact endN X397 hx hret (by simp) (hb hby d20_12) (lvN X397 hlk e397 (fun h => by rw [hret] at h; cases h) ⟨by simp [nar], (Fr.nil _), rfl⟩ (by decide) (by decide))
set_option maxRecDepth 65536 in
set_option maxHeartbeats 40000000 in
theorem rm_min_3 {l : Launch} {Z : State} {a0 : Array Value} (hw : ∀ d ∈ tables_1, d.before a0 Z = true)  (h0 : Heap)  :
    Con l (⟨"java/lang/Math", "min", "(II)I"⟩ : MethodName) jdk_29_method_69_code 2 (some .int) ({ frames := 0, cells := 0, slots := 0, locals := 0 } : Room) Z #[(.int (10 : Int32)), (.int (3 : Int32))] h0 (fun v h L => v = some (.int 3) ∧ Fr Z.heap.size L ∧ h0 = h) := by
  refine Con.of (Jvm.Free.JP.mathPlain rfl (by decide +kernel)) (Ls := #[iv (10 : Int32), iv (3 : Int32)]) (fun m => efOf rfl) ?_
  intro p e s m below meth c T0 X0 hx hZ hby hml hown hnm hret hlk e0
  refine go (fun _ => XS.iloadN X0.here hx rfl (hb hby d24_0) rfl) ?_
  refine go (fun _ => XS.iloadN X0.here hx rfl (hb hby d24_1) rfl) ?_
  show Ends p e below _ T0 (mkF m 2 #[iv (10 : Int32), iv (3 : Int32)] [(.int (3 : Int32)), (.int (10 : Int32))])
  refine go (fun _ => XS.icmpYes X0.here hx rfl (pc0 := 2) (pc' := 9) rfl (hb hby d24_2) rfl (XT.ii_gt_t ((by decide) : (3 : Int32) < (10 : Int32))) (by decide) (by decide)) ?_
  show Ends p e below _ T0 (mkF m 9 #[iv (10 : Int32), iv (3 : Int32)] [])
  refine go (fun _ => XS.iloadN X0.here hx rfl (hb hby d24_9) rfl) ?_
  show Ends p e below _ T0 (mkF m 10 #[iv (10 : Int32), iv (3 : Int32)] [(.int (3 : Int32))])
  exact endI X0 hx hret (hb hby d24_10) (lvN X0 hlk e0 (fun h => by rw [hret] at h; cases h) ⟨rfl, (Fr.nil _), rfl⟩ (by decide) (by decide))
set_option maxRecDepth 65536 in
set_option maxHeartbeats 40000000 in
theorem rm_cp3_3 {l : Launch} {Z : State} {a0 : Array Value} (hw : ∀ d ∈ tables_1, d.before a0 Z = true) (b : Addr) (k : ClassId) (x0 x1 x2 : Addr) (mr : Addr) (h0 : Heap) (O0 : Ext Z.heap h0) (MM : Mid Z "[Ljava/lang/Object;" mr) (Vb : Arv Z h0 b k (.object "java/lang/Object") (10 : Int32) [(.ref x0), (.ref x1), (.ref x2), .null, .null, .null, .null, .null, .null, .null] .null) (Ez0 : Exa Z h0 x0 "com/example/scopa/scopa/schema/Column") (Ez1 : Exa Z h0 x1 "com/example/scopa/scopa/schema/Column") (Ez2 : Exa Z h0 x2 "com/example/scopa/scopa/schema/Column") :
    Con l (⟨"java/util/Arrays", "copyOf", "([Ljava/lang/Object;ILjava/lang/Class;)[Ljava/lang/Object;"⟩ : MethodName) jdk_65_method_120_code 4 (some (.array (.object "java/lang/Object"))) ({ frames := 1, cells := 1, slots := 3, locals := 18 } : Room) Z #[(.ref b), (.int (3 : Int32)), (.ref mr)] h0 (fun v h L => ∃ (q_ : Addr) (kq : ClassId), v = some (.ref q_) ∧ Fr Z.heap.size L ∧ Keep h0 h [] ∧ h0.size ≤ q_ ∧ OvO Z kq ∧ Arv Z h q_ kq (.object "java/lang/Object") (3 : Int32) [(.ref x0), (.ref x1), (.ref x2)] .null) := by
  refine Con.of (plainFor_of_name pn_26) (Ls := #[rv b, iv (3 : Int32), rv mr, .unset]) (fun m => efOf rfl) ?_
  intro p e s m below meth c T0 X0 hx hZ hby hml hown hnm hret hlk e0
  refine go (fun _ => XS.aloadN X0.here hx rfl (hb hby d25_0) rfl rfl) ?_
  show Ends p e below _ T0 (mkF m 1 #[rv b, iv (3 : Int32), rv mr, .unset] [(.ref mr)])
  obtain ⟨T398, X398, e398, s398⟩ := own_ldcc X0 hx hZ hown (hwi hw 158 rfl) e0 MM (g := (mkF m 1 #[rv b, iv (3 : Int32), rv mr, .unset] [(.ref mr)])) rfl (hb hby d25_1)
  refine go s398 ?_
  show Ends p e below _ T398 (mkF m 3 #[rv b, iv (3 : Int32), rv mr, .unset] [(.ref mr), (.ref mr)])
  refine go (fun _ => XT.acmpNo X398.here hx rfl (hb hby d25_3) rfl rfl rfl (XT.aa_ne_f (rfl : ((.ref mr) : Value) = (.ref mr)))) ?_
  show Ends p e below _ T398 (mkF m 6 #[rv b, iv (3 : Int32), rv mr, .unset] [])
  refine go (fun _ => XS.iloadN X398.here hx rfl (hb hby d25_6) rfl) ?_
  show Ends p e below _ T398 (mkF m 7 #[rv b, iv (3 : Int32), rv mr, .unset] [(.int (3 : Int32))])
  obtain ⟨T399, h399, k399, X399, e399, E399, A399, O399, s399⟩ := own_newR X398 hx hZ hown (hwi hw 159 rfl) (hwi hw 105 rfl) e398 (g := (mkF m 7 #[rv b, iv (3 : Int32), rv mr, .unset] [(.int (3 : Int32))])) rfl (hb hby d25_7) rfl (by decide) (cap := 3) (by decide) (by decide) (by decide) (by decide)
  obtain ⟨a399, g399⟩ : ∃ z : Addr, z = h0.size := ⟨_, rfl⟩
  have f399 : Z.heap.size ≤ a399 := by rw [g399]; exact (O0).1
  have K404 : Keep h0 h0 [] := (Keep.refl _ _)
  have b399 : h0.size ≤ a399 := by rw [g399]; exact (K404).1
  rw [← g399] at A399 s399
  have V399 : Arv Z h399 a399 k399 (.object "java/lang/Object") (3 : Int32) [.null, .null, .null] .null := Arv.pad (Arv.new A399 (by decide)) (pad_rep [] _ 3)
  refine go s399 ?_
  show Ends p e below _ T399 (mkF m 10 #[rv b, iv (3 : Int32), rv mr, .unset] [(.ref a399)])
  refine go (fun _ => XS.goto X399.here hx rfl (pc0 := 10) (pc' := 24) rfl (hb hby d25_10) (by decide) (by decide)) ?_
  refine go (fun _ => XS.astoreN X399.here hx rfl (hb hby d25_24) rfl rfl (l' := #[rv b, iv (3 : Int32), rv mr, rv a399]) rfl) ?_
  refine go (fun _ => XS.aloadN X399.here hx rfl (hb hby d25_25) rfl rfl) ?_
  refine go (fun _ => XT.iconstV X399.here hx rfl (0 : Int32) (hb hby d25_26) (by decide)) ?_
  refine go (fun _ => XS.aloadN X399.here hx rfl (hb hby d25_27) rfl rfl) ?_
  refine go (fun _ => XT.iconstV X399.here hx rfl (0 : Int32) (hb hby d25_28) (by decide)) ?_
  show Ends p e below _ T399 (mkF m 29 #[rv b, iv (3 : Int32), rv mr, rv a399] [(.int (0 : Int32)), (.ref a399), (.int (0 : Int32)), (.ref b)])
  refine go (fun _ => XS.aloadN X399.here hx rfl (hb hby d25_29) rfl rfl) ?_
  show Ends p e below _ T399 (mkF m 30 #[rv b, iv (3 : Int32), rv mr, rv a399] [(.ref b), (.int (0 : Int32)), (.ref a399), (.int (0 : Int32)), (.ref b)])
  have F406 := (Arv.ext Vb E399)
  obtain ⟨cl407, A407, -, S407, M407, -⟩ := id F406
  refine go (fun _ => X399.arraylength hx (cell := cl407) (by rw [e399]; exact A407.1) (State.isArrayOf_alike hZ.alike A407.2.1) (g := (mkF m 30 #[rv b, iv (3 : Int32), rv mr, rv a399] [(.ref b), (.int (0 : Int32)), (.ref a399), (.int (0 : Int32)), (.ref b)])) rfl rfl (hb hby d25_30) _) ?_
  rw [len_of S407 M407]
  show Ends p e below _ T399 (mkF m 31 #[rv b, iv (3 : Int32), rv mr, rv a399] [(.int (10 : Int32)), (.int (0 : Int32)), (.ref a399), (.int (0 : Int32)), (.ref b)])
  refine go (fun _ => XS.iloadN X399.here hx rfl (hb hby d25_31) rfl) ?_
  show Ends p e below _ T399 (mkF m 32 #[rv b, iv (3 : Int32), rv mr, rv a399] [(.int (3 : Int32)), (.int (10 : Int32)), (.int (0 : Int32)), (.ref a399), (.int (0 : Int32)), (.ref b)])
  refine cStat X399 hx hZ hown (by rw [hml]; rfl) e399 (hwi hw 160 rfl) (hwi hw 161 rfl) (hwi hw 102 rfl) (hwi hw 162 rfl) [(.int (10 : Int32)), (.int (3 : Int32))] [(.int (0 : Int32)), (.ref a399), (.int (0 : Int32)), (.ref b)] rfl (rm_min_3 hw _) (hb hby d25_32) rfl (lenOf pd_9 rfl) (by decide) (by decide) (Nat.le_of_ble_eq_true rfl) (by decide) (by decide) ?_
  rintro v408 T408 h408 L408 X408 e408 ⟨rfl, N408, rfl⟩
  have N408a := Fr.app (Fr.nil _) N408
  show Ends p e below _ T408 (mkF m 35 #[rv b, iv (3 : Int32), rv mr, rv a399] [(.int (3 : Int32)), (.int (0 : Int32)), (.ref a399), (.int (0 : Int32)), (.ref b)])
  obtain ⟨cl409, A409, q409, -⟩ := id V399
  have F410 := (Exa.ext E399 Ez2)
  have F411 := (Exa.ext E399 Ez1)
  have F412 := (Exa.ext E399 Ez0)
  have G409 : StoL Z h399 a399 [(.ref x0), (.ref x1), (.ref x2)] := ⟨Sto.ofV A409 q409 O399.1 (Ins.of_exa F412 (hwi hw 106 rfl)), ⟨Sto.ofV A409 q409 O399.1 (Ins.of_exa F411 (hwi hw 106 rfl)), ⟨Sto.ofV A409 q409 O399.1 (Ins.of_exa F410 (hwi hw 106 rfl)), trivial⟩⟩⟩
  obtain ⟨T409, h409, L409, X409, e409, N409, K409, V409, s409⟩ := cpA X408 hx hZ hown (hwi hw 163 rfl) (hwi hw 166 rfl) (hwi hw 164 rfl) (hwi hw 165 rfl) e408 F406 V399 (us := [(.ref x0), (.ref x1), (.ref x2)]) (Or.inr ⟨rfl, rfl, G409⟩) (sp := (0 : Int32)) (dp := (0 : Int32)) (nn := (3 : Int32)) (by decide) (by decide) (by decide) (by decide) (by decide) rfl (Nat.le_of_ble_eq_true rfl) N408a f399 (g := (mkF m 35 #[rv b, iv (3 : Int32), rv mr, rv a399] [(.int (3 : Int32)), (.int (0 : Int32)), (.ref a399), (.int (0 : Int32)), (.ref b)])) rfl (by rw [hml]; rfl) rfl (hb hby d25_35) (by decide) (W := 0) (by show 2 * 0 + _ ≤ _; exact Nat.le_of_eq rfl) (by decide)
  have V409l : Arv Z h409 a399 k399 (.object "java/lang/Object") (3 : Int32) [(.ref x0), (.ref x1), (.ref x2)] .null := V409
  refine go s409 ?_
  show Ends p e below _ T409 (mkF m 38 #[rv b, iv (3 : Int32), rv mr, rv a399] [])
  refine go (fun _ => XS.aloadN X409.here hx rfl (hb hby d25_38) rfl rfl) ?_
  show Ends p e below _ T409 (mkF m 39 #[rv b, iv (3 : Int32), rv mr, rv a399] [(.ref a399)])
  have K414 : Keep h0 h409 [] := (Keep.trans (Keep.ext K404 E399) K409 (allS (Or.inr b399) all0))
  exact endA X409 hx hret rfl rfl (hb hby d25_39) (lvN X409 hlk e409 (fun h => by rw [hret] at h; cases h) ⟨a399, _, rfl, N409, K414, b399, O399, V409l⟩ (by decide) (by decide))
set_option maxRecDepth 65536 in
set_option maxHeartbeats 40000000 in
theorem rm_cp2_3 {l : Launch} {Z : State} {a0 : Array Value} (hw : ∀ d ∈ tables_1, d.before a0 Z = true) (b : Addr) (k : ClassId) (x0 x1 x2 : Addr) (mr : Addr) (h0 : Heap) (O0 : Ext Z.heap h0) (MM : Mid Z "[Ljava/lang/Object;" mr) (Ok : OvO Z k) (Vb : Arv Z h0 b k (.object "java/lang/Object") (10 : Int32) [(.ref x0), (.ref x1), (.ref x2), .null, .null, .null, .null, .null, .null, .null] .null) (Ez0 : Exa Z h0 x0 "com/example/scopa/scopa/schema/Column") (Ez1 : Exa Z h0 x1 "com/example/scopa/scopa/schema/Column") (Ez2 : Exa Z h0 x2 "com/example/scopa/scopa/schema/Column") :
    Con l (⟨"java/util/Arrays", "copyOf", "([Ljava/lang/Object;I)[Ljava/lang/Object;"⟩ : MethodName) jdk_65_method_119_code 2 (some (.array (.object "java/lang/Object"))) ({ frames := 2, cells := 1, slots := 3, locals := 33 } : Room) Z #[(.ref b), (.int (3 : Int32))] h0 (fun v h L => ∃ (q_ : Addr) (kq : ClassId), v = some (.ref q_) ∧ Fr Z.heap.size L ∧ Keep h0 h [] ∧ h0.size ≤ q_ ∧ OvO Z kq ∧ Arv Z h q_ kq (.object "java/lang/Object") (3 : Int32) [(.ref x0), (.ref x1), (.ref x2)] .null) := by
  refine Con.of (plainFor_of_name pn_26) (Ls := #[rv b, iv (3 : Int32)]) (fun m => efOf rfl) ?_
  intro p e s m below meth c T0 X0 hx hZ hby hml hown hnm hret hlk e0
  refine go (fun _ => XS.aloadN X0.here hx rfl (hb hby d26_0) rfl rfl) ?_
  refine go (fun _ => XS.iloadN X0.here hx rfl (hb hby d26_1) rfl) ?_
  refine go (fun _ => XS.aloadN X0.here hx rfl (hb hby d26_2) rfl rfl) ?_
  show Ends p e below _ T0 (mkF m 3 #[rv b, iv (3 : Int32)] [(.ref b), (.int (3 : Int32)), (.ref b)])
  have F416 := (own_oexa Vb Ok)
  obtain ⟨T415, X415, e415, s415⟩ := own_gcls X0 hx hZ hown (hwi hw 149 rfl) (hwi hw 150 rfl) (hwi hw 126 rfl) (hwi hw 152 rfl) (hwi hw 151 rfl) (hwi hw 153 rfl) e0 F416 MM (g := (mkF m 3 #[rv b, iv (3 : Int32)] [(.ref b), (.int (3 : Int32)), (.ref b)])) rfl (by rw [hml]; rfl) rfl (hb hby d26_3) (by decide) (W := 2) (by show 2 * 0 + _ ≤ _; exact Nat.le_of_eq rfl) (by decide)
  refine go s415 ?_
  show Ends p e below _ T415 (mkF m 6 #[rv b, iv (3 : Int32)] [(.ref mr), (.int (3 : Int32)), (.ref b)])
  refine cStat X415 hx hZ hown (by rw [hml]; rfl) e415 (hwi hw 155 rfl) (hwi hw 156 rfl) (hwi hw 147 rfl) (hwi hw 157 rfl) [(.ref b), (.int (3 : Int32)), (.ref mr)] [] rfl (rm_cp3_3 hw b k x0 x1 x2 mr _ O0 MM Vb Ez0 Ez1 Ez2) (hb hby d26_6) rfl (lenOf pd_27 rfl) (by decide) (by decide) (Nat.le_of_ble_eq_true rfl) (by decide) (by decide) ?_
  rintro v417 T417 h417 L417 X417 e417 ⟨q417, kq417, rfl, N417, K417, g417, O417, V417⟩
  have N417a := Fr.app (Fr.nil _) N417
  have K423 : Keep h0 h0 [] := (Keep.refl _ _)
  have b422 : h0.size ≤ q417 := Nat.le_trans (K423).1 g417
  show Ends p e below _ T417 (mkF m 9 #[rv b, iv (3 : Int32)] [(.ref q417)])
  have K425 : Keep h0 h417 [] := (Keep.trans K423 K417 all0)
  exact endA X417 hx hret rfl rfl (hb hby d26_9) (lvN X417 hlk e417 (fun h => by rw [hret] at h; cases h) ⟨q417, _, rfl, N417a, K425, b422, O417, V417⟩ (by decide) (by decide))
set_option maxRecDepth 65536 in
set_option maxHeartbeats 40000000 in
theorem rm_ta_3 {l : Launch} {Z : State} {a0 : Array Value} (hw : ∀ d ∈ tables_1, d.before a0 Z = true) (a : Addr) (b : Addr) (k : ClassId) (x0 x1 x2 : Addr) (mr : Addr) (h0 : Heap) (O0 : Ext Z.heap h0) (MM : Mid Z "[Ljava/lang/Object;" mr) (Ok : OvO Z k) (Vb : Arv Z h0 b k (.object "java/lang/Object") (10 : Int32) [(.ref x0), (.ref x1), (.ref x2), .null, .null, .null, .null, .null, .null, .null] .null) (Ez0 : Exa Z h0 x0 "com/example/scopa/scopa/schema/Column") (Ez1 : Exa Z h0 x1 "com/example/scopa/scopa/schema/Column") (Ez2 : Exa Z h0 x2 "com/example/scopa/scopa/schema/Column") (F2 : Fld Z h0 a "java/util/ArrayList" "elementData" "[Ljava/lang/Object;" (.ref b)) (F3 : Fld Z h0 a "java/util/ArrayList" "size" "I" (.int 3)) :
    Con l (⟨"java/util/ArrayList", "toArray", "()[Ljava/lang/Object;"⟩ : MethodName) jdk_38_method_16_code 1 (some (.array (.object "java/lang/Object"))) ({ frames := 3, cells := 1, slots := 3, locals := 46 } : Room) Z #[(.ref a)] h0 (fun v h L => ∃ (q_ : Addr) (kq : ClassId), v = some (.ref q_) ∧ Fr Z.heap.size L ∧ Keep h0 h [] ∧ h0.size ≤ q_ ∧ OvO Z kq ∧ Arv Z h q_ kq (.object "java/lang/Object") (3 : Int32) [(.ref x0), (.ref x1), (.ref x2)] .null) := by
  refine Con.of (plainFor_of_name pn_8) (Ls := #[rv a]) (fun m => efOf rfl) ?_
  intro p e s m below meth c T0 X0 hx hZ hby hml hown hnm hret hlk e0
  refine go (fun _ => XS.aloadN X0.here hx rfl (hb hby d27_0) rfl rfl) ?_
  show Ends p e below _ T0 (mkF m 1 #[rv a] [(.ref a)])
  obtain ⟨T426, X426, e426, s426⟩ := getF X0 hx hZ hown (host := "") (Or.inl (hwi hw 74 rfl)) Via.refl e0 F2 (g := (mkF m 1 #[rv a] [(.ref a)])) rfl rfl (hb hby d27_1)
  refine go s426 ?_
  show Ends p e below _ T426 (mkF m 4 #[rv a] [(.ref b)])
  refine go (fun _ => XS.aloadN X426.here hx rfl (hb hby d27_4) rfl rfl) ?_
  show Ends p e below _ T426 (mkF m 5 #[rv a] [(.ref a), (.ref b)])
  obtain ⟨T427, X427, e427, s427⟩ := getF X426 hx hZ hown (host := "") (Or.inl (hwi hw 83 rfl)) Via.refl e426 F3 (g := (mkF m 5 #[rv a] [(.ref a), (.ref b)])) rfl rfl (hb hby d27_5)
  refine go s427 ?_
  show Ends p e below _ T427 (mkF m 8 #[rv a] [(.int (3 : Int32)), (.ref b)])
  refine cStat X427 hx hZ hown (by rw [hml]; rfl) e427 (hwi hw 145 rfl) (hwi hw 146 rfl) (hwi hw 147 rfl) (hwi hw 148 rfl) [(.ref b), (.int (3 : Int32))] [] rfl (rm_cp2_3 hw b k x0 x1 x2 mr _ O0 MM Ok Vb Ez0 Ez1 Ez2) (hb hby d27_8) rfl (lenOf pd_28 rfl) (by decide) (by decide) (Nat.le_of_ble_eq_true rfl) (by decide) (by decide) ?_
  rintro v428 T428 h428 L428 X428 e428 ⟨q428, kq428, rfl, N428, K428, g428, O428, V428⟩
  have N428a := Fr.app (Fr.nil _) N428
  have K435 : Keep h0 h0 [] := (Keep.refl _ _)
  have b434 : h0.size ≤ q428 := Nat.le_trans (K435).1 g428
  show Ends p e below _ T428 (mkF m 11 #[rv a] [(.ref q428)])
  have K437 : Keep h0 h428 [] := (Keep.trans K435 K428 all0)
  exact endA X428 hx hret rfl rfl (hb hby d27_11) (lvN X428 hlk e428 (fun h => by rw [hret] at h; cases h) ⟨q428, _, rfl, N428a, K437, b434, O428, V428⟩ (by decide) (by decide))
set_option maxRecDepth 65536 in
set_option maxHeartbeats 40000000 in
theorem rm_lfa {l : Launch} {Z : State} {a0 : Array Value} (hw : ∀ d ∈ tables_1, d.before a0 Z = true) (q_ : Addr) (kq : ClassId) (x0 x1 x2 : Addr) (h0 : Heap) (O0 : Ext Z.heap h0) (Vq : Arv Z h0 q_ kq (.object "java/lang/Object") (3 : Int32) [(.ref x0), (.ref x1), (.ref x2)] .null) (Ez0 : Exa Z h0 x0 "com/example/scopa/scopa/schema/Column") (Ez1 : Exa Z h0 x1 "com/example/scopa/scopa/schema/Column") (Ez2 : Exa Z h0 x2 "com/example/scopa/scopa/schema/Column") :
    Con l (⟨"java/util/ImmutableCollections", "listFromArray", "([Ljava/lang/Object;)Ljava/util/List;"⟩ : MethodName) jdk_56_method_4_code 3 (some (.object "java/util/List")) ({ frames := 5, cells := 2, slots := 5, locals := 63 } : Room) Z #[(.ref q_)] h0 (fun v h L => ∃ (o_ r_ : Addr) (kr : ClassId), v = some (.ref o_) ∧ Fr Z.heap.size L ∧ Keep h0 h [] ∧ h0.size ≤ o_ ∧ h0.size ≤ r_ ∧ Exa Z h o_ "java/util/ImmutableCollections$ListN" ∧ Fld Z h o_ "java/util/ImmutableCollections$ListN" "elements" "[Ljava/lang/Object;" (.ref r_) ∧ Arv Z h r_ kr (.object "java/lang/Object") (3 : Int32) [(.ref x0), (.ref x1), (.ref x2)] .null) := by
  refine Con.of (plainFor_of_name pn_22) (Ls := #[rv q_, .unset, .unset]) (fun m => efOf rfl) ?_
  intro p e s m below meth c T0 X0 hx hZ hby hml hown hnm hret hlk e0
  refine go (fun _ => XS.aloadN X0.here hx rfl (hb hby d29_0) rfl rfl) ?_
  show Ends p e below _ T0 (mkF m 1 #[rv q_, .unset, .unset] [(.ref q_)])
  obtain ⟨cl438, A438, -, S438, M438, -⟩ := id Vq
  refine go (fun _ => X0.arraylength hx (cell := cl438) (by rw [e0]; exact A438.1) (State.isArrayOf_alike hZ.alike A438.2.1) (g := (mkF m 1 #[rv q_, .unset, .unset] [(.ref q_)])) rfl rfl (hb hby d29_1) _) ?_
  rw [len_of S438 M438]
  show Ends p e below _ T0 (mkF m 2 #[rv q_, .unset, .unset] [(.int (3 : Int32))])
  obtain ⟨T439, h439, k439, X439, e439, E439, A439, O439, s439⟩ := own_newR X0 hx hZ hown (hwi hw 173 rfl) (hwi hw 105 rfl) e0 (g := (mkF m 2 #[rv q_, .unset, .unset] [(.int (3 : Int32))])) rfl (hb hby d29_2) rfl (by decide) (cap := 3) (by decide) (by decide) (by decide) (by decide)
  obtain ⟨a439, g439⟩ : ∃ z : Addr, z = h0.size := ⟨_, rfl⟩
  have n440 : q_ ≠ a439 := fun q => absurd (Vq.lt) (by rw [q, g439]; exact Nat.lt_irrefl _)
  have f439 : Z.heap.size ≤ a439 := by rw [g439]; exact (O0).1
  have K444 : Keep h0 h0 [] := (Keep.refl _ _)
  have b439 : h0.size ≤ a439 := by rw [g439]; exact (K444).1
  rw [← g439] at A439 s439
  have O445 : Ext Z.heap h439 := xx O0 E439
  have V439 : Arv Z h439 a439 k439 (.object "java/lang/Object") (3 : Int32) [.null, .null, .null] .null := Arv.pad (Arv.new A439 (by decide)) (pad_rep [] _ 3)
  refine go s439 ?_
  show Ends p e below _ T439 (mkF m 5 #[rv q_, .unset, .unset] [(.ref a439)])
  refine go (fun _ => XS.astoreN X439.here hx rfl (hb hby d29_5) rfl rfl (l' := #[rv q_, rv a439, .unset]) rfl) ?_
  refine go (fun _ => XT.iconstV X439.here hx rfl (0 : Int32) (hb hby d29_6) (by decide)) ?_
  refine go (fun _ => XS.istoreN X439.here hx rfl (hb hby d29_7) rfl (l' := #[rv q_, rv a439, iv (0 : Int32)]) rfl) ?_
  refine go (fun _ => XS.iloadN X439.here hx rfl (hb hby d29_8) rfl) ?_
  refine go (fun _ => XS.aloadN X439.here hx rfl (hb hby d29_9) rfl rfl) ?_
  show Ends p e below _ T439 (mkF m 10 #[rv q_, rv a439, iv (0 : Int32)] [(.ref q_), (.int (0 : Int32))])
  have F446 := (Arv.ext Vq E439)
  obtain ⟨cl447, A447, -, S447, M447, -⟩ := id F446
  refine go (fun _ => X439.arraylength hx (cell := cl447) (by rw [e439]; exact A447.1) (State.isArrayOf_alike hZ.alike A447.2.1) (g := (mkF m 10 #[rv q_, rv a439, iv (0 : Int32)] [(.ref q_), (.int (0 : Int32))])) rfl rfl (hb hby d29_10) _) ?_
  rw [len_of S447 M447]
  show Ends p e below _ T439 (mkF m 11 #[rv q_, rv a439, iv (0 : Int32)] [(.int (3 : Int32)), (.int (0 : Int32))])
  refine go (fun _ => XS.icmpNo X439.here hx rfl (hb hby d29_11) rfl (XT.ii_ge_f ((by decide) : (0 : Int32) < (3 : Int32)))) ?_
  show Ends p e below _ T439 (mkF m 14 #[rv q_, rv a439, iv (0 : Int32)] [])
  refine go (fun _ => XS.aloadN X439.here hx rfl (hb hby d29_14) rfl rfl) ?_
  refine go (fun _ => XS.iloadN X439.here hx rfl (hb hby d29_15) rfl) ?_
  refine go (fun _ => XS.aloadN X439.here hx rfl (hb hby d29_16) rfl rfl) ?_
  refine go (fun _ => XS.iloadN X439.here hx rfl (hb hby d29_17) rfl) ?_
  show Ends p e below _ T439 (mkF m 18 #[rv q_, rv a439, iv (0 : Int32)] [(.int (0 : Int32)), (.ref q_), (.int (0 : Int32)), (.ref a439)])
  obtain ⟨cl448, A448, -, S448, M448, H448, -⟩ := id F446
  have B448 := inb_of S448 (j := (0 : Int32)) (by decide)
  refine go (fun _ => X439.aaload hx (j := (0 : Int32)) (v := (.ref x0)) (by rw [e439]; exact A448.1) (State.isArrayOf_alike hZ.alike A448.2.1) rfl A448.2.2 B448 (H448.at B448 rfl) (g := (mkF m 18 #[rv q_, rv a439, iv (0 : Int32)] [(.int (0 : Int32)), (.ref q_), (.int (0 : Int32)), (.ref a439)])) rfl rfl (hb hby d29_18) _) ?_
  show Ends p e below _ T439 (mkF m 19 #[rv q_, rv a439, iv (0 : Int32)] [(.ref x0), (.int (0 : Int32)), (.ref a439)])
  refine cStat X439 hx hZ hown (by rw [hml]; rfl) e439 (hwi hw 174 rfl) (hwi hw 175 rfl) (hwi hw 176 rfl) (hwi hw 177 rfl) [(.ref x0)] [(.int (0 : Int32)), (.ref a439)] rfl (rm_rnn hw x0 _) (hb hby d29_19) rfl (lenOf pd_19 rfl) (by decide) (by decide) (Nat.le_of_ble_eq_true rfl) (by decide) (by decide) ?_
  rintro v449 T449 h449 L449 X449 e449 ⟨rfl, N449, rfl⟩
  have N449a := Fr.app (Fr.nil _) N449
  show Ends p e below _ T449 (mkF m 22 #[rv q_, rv a439, iv (0 : Int32)] [(.ref x0), (.int (0 : Int32)), (.ref a439)])
  obtain ⟨cl450, A450, q450, S450, M450, H450, G450⟩ := id V439
  have F451 := (Exa.ext E439 Ez0)
  obtain ⟨T450, h450, X450, e450, W450, s450⟩ := stR X449 hx hZ e449 A450 (j := (0 : Int32)) (inb_of S450 (by decide)) rfl (Sto.ofV A450 q450 O439.1 (Ins.of_exa F451 (hwi hw 106 rfl))) (g := (mkF m 22 #[rv q_, rv a439, iv (0 : Int32)] [(.ref x0), (.int (0 : Int32)), (.ref a439)])) rfl rfl (hb hby d29_22)
  have N450 := Fr.snoc X450 N449a f439
  have O452 : Ext Z.heap h450 := xw O445 W450 f439
  have V450 : Arv Z h450 a439 k439 (.object "java/lang/Object") (3 : Int32) [(.ref x0), .null, .null] .null := Arv.set A450 q450 S450 M450 H450 G450 rfl W450 0 (by decide) (Nat.le_of_ble_eq_true rfl)
  refine go s450 ?_
  show Ends p e below _ T450 (mkF m 23 #[rv q_, rv a439, iv (0 : Int32)] [])
  refine go (fun _ => XT.iincV X450.here hx rfl (1 : Int32) (hb hby d29_23) (by decide) rfl (l' := #[rv q_, rv a439, iv (1 : Int32)]) rfl) ?_
  refine go (fun _ => XS.goto X450.here hx rfl (pc0 := 26) (pc' := 8) rfl (hb hby d29_26) (by decide) (by decide)) ?_
  refine go (fun _ => XS.iloadN X450.here hx rfl (hb hby d29_8) rfl) ?_
  refine go (fun _ => XS.aloadN X450.here hx rfl (hb hby d29_9) rfl rfl) ?_
  show Ends p e below _ T450 (mkF m 10 #[rv q_, rv a439, iv (1 : Int32)] [(.ref q_), (.int (1 : Int32))])
  have F453 := (Arv.other F446 W450 n440)
  obtain ⟨cl454, A454, -, S454, M454, -⟩ := id F453
  refine go (fun _ => X450.arraylength hx (cell := cl454) (by rw [e450]; exact A454.1) (State.isArrayOf_alike hZ.alike A454.2.1) (g := (mkF m 10 #[rv q_, rv a439, iv (1 : Int32)] [(.ref q_), (.int (1 : Int32))])) rfl rfl (hb hby d29_10) _) ?_
  rw [len_of S454 M454]
  show Ends p e below _ T450 (mkF m 11 #[rv q_, rv a439, iv (1 : Int32)] [(.int (3 : Int32)), (.int (1 : Int32))])
  refine go (fun _ => XS.icmpNo X450.here hx rfl (hb hby d29_11) rfl (XT.ii_ge_f ((by decide) : (1 : Int32) < (3 : Int32)))) ?_
  show Ends p e below _ T450 (mkF m 14 #[rv q_, rv a439, iv (1 : Int32)] [])
  refine go (fun _ => XS.aloadN X450.here hx rfl (hb hby d29_14) rfl rfl) ?_
  refine go (fun _ => XS.iloadN X450.here hx rfl (hb hby d29_15) rfl) ?_
  refine go (fun _ => XS.aloadN X450.here hx rfl (hb hby d29_16) rfl rfl) ?_
  refine go (fun _ => XS.iloadN X450.here hx rfl (hb hby d29_17) rfl) ?_
  show Ends p e below _ T450 (mkF m 18 #[rv q_, rv a439, iv (1 : Int32)] [(.int (1 : Int32)), (.ref q_), (.int (1 : Int32)), (.ref a439)])
  obtain ⟨cl455, A455, -, S455, M455, H455, -⟩ := id F453
  have B455 := inb_of S455 (j := (1 : Int32)) (by decide)
  refine go (fun _ => X450.aaload hx (j := (1 : Int32)) (v := (.ref x1)) (by rw [e450]; exact A455.1) (State.isArrayOf_alike hZ.alike A455.2.1) rfl A455.2.2 B455 (H455.at B455 rfl) (g := (mkF m 18 #[rv q_, rv a439, iv (1 : Int32)] [(.int (1 : Int32)), (.ref q_), (.int (1 : Int32)), (.ref a439)])) rfl rfl (hb hby d29_18) _) ?_
  show Ends p e below _ T450 (mkF m 19 #[rv q_, rv a439, iv (1 : Int32)] [(.ref x1), (.int (1 : Int32)), (.ref a439)])
  refine cStat X450 hx hZ hown (by rw [hml]; rfl) e450 (hwi hw 174 rfl) (hwi hw 175 rfl) (hwi hw 176 rfl) (hwi hw 177 rfl) [(.ref x1)] [(.int (1 : Int32)), (.ref a439)] rfl (rm_rnn hw x1 _) (hb hby d29_19) rfl (lenOf pd_19 rfl) (by decide) (by decide) (Nat.le_of_ble_eq_true rfl) (by decide) (by decide) ?_
  rintro v456 T456 h456 L456 X456 e456 ⟨rfl, N456, rfl⟩
  have N456a := Fr.app N450 N456
  show Ends p e below _ T456 (mkF m 22 #[rv q_, rv a439, iv (1 : Int32)] [(.ref x1), (.int (1 : Int32)), (.ref a439)])
  obtain ⟨cl457, A457, q457, S457, M457, H457, G457⟩ := id V450
  have F458 := (Exa.wr W450 (Exa.ext E439 Ez1))
  obtain ⟨T457, h457, X457, e457, W457, s457⟩ := stR X456 hx hZ e456 A457 (j := (1 : Int32)) (inb_of S457 (by decide)) rfl (Sto.ofV A457 q457 O439.1 (Ins.of_exa F458 (hwi hw 106 rfl))) (g := (mkF m 22 #[rv q_, rv a439, iv (1 : Int32)] [(.ref x1), (.int (1 : Int32)), (.ref a439)])) rfl rfl (hb hby d29_22)
  have N457 := Fr.snoc X457 N456a f439
  have O459 : Ext Z.heap h457 := xw O452 W457 f439
  have V457 : Arv Z h457 a439 k439 (.object "java/lang/Object") (3 : Int32) [(.ref x0), (.ref x1), .null] .null := Arv.set A457 q457 S457 M457 H457 G457 rfl W457 1 (by decide) (Nat.le_of_ble_eq_true rfl)
  refine go s457 ?_
  show Ends p e below _ T457 (mkF m 23 #[rv q_, rv a439, iv (1 : Int32)] [])
  refine go (fun _ => XT.iincV X457.here hx rfl (1 : Int32) (hb hby d29_23) (by decide) rfl (l' := #[rv q_, rv a439, iv (2 : Int32)]) rfl) ?_
  refine go (fun _ => XS.goto X457.here hx rfl (pc0 := 26) (pc' := 8) rfl (hb hby d29_26) (by decide) (by decide)) ?_
  refine go (fun _ => XS.iloadN X457.here hx rfl (hb hby d29_8) rfl) ?_
  refine go (fun _ => XS.aloadN X457.here hx rfl (hb hby d29_9) rfl rfl) ?_
  show Ends p e below _ T457 (mkF m 10 #[rv q_, rv a439, iv (2 : Int32)] [(.ref q_), (.int (2 : Int32))])
  have F460 := (Arv.other F453 W457 n440)
  obtain ⟨cl461, A461, -, S461, M461, -⟩ := id F460
  refine go (fun _ => X457.arraylength hx (cell := cl461) (by rw [e457]; exact A461.1) (State.isArrayOf_alike hZ.alike A461.2.1) (g := (mkF m 10 #[rv q_, rv a439, iv (2 : Int32)] [(.ref q_), (.int (2 : Int32))])) rfl rfl (hb hby d29_10) _) ?_
  rw [len_of S461 M461]
  show Ends p e below _ T457 (mkF m 11 #[rv q_, rv a439, iv (2 : Int32)] [(.int (3 : Int32)), (.int (2 : Int32))])
  refine go (fun _ => XS.icmpNo X457.here hx rfl (hb hby d29_11) rfl (XT.ii_ge_f ((by decide) : (2 : Int32) < (3 : Int32)))) ?_
  show Ends p e below _ T457 (mkF m 14 #[rv q_, rv a439, iv (2 : Int32)] [])
  refine go (fun _ => XS.aloadN X457.here hx rfl (hb hby d29_14) rfl rfl) ?_
  refine go (fun _ => XS.iloadN X457.here hx rfl (hb hby d29_15) rfl) ?_
  refine go (fun _ => XS.aloadN X457.here hx rfl (hb hby d29_16) rfl rfl) ?_
  refine go (fun _ => XS.iloadN X457.here hx rfl (hb hby d29_17) rfl) ?_
  show Ends p e below _ T457 (mkF m 18 #[rv q_, rv a439, iv (2 : Int32)] [(.int (2 : Int32)), (.ref q_), (.int (2 : Int32)), (.ref a439)])
  obtain ⟨cl462, A462, -, S462, M462, H462, -⟩ := id F460
  have B462 := inb_of S462 (j := (2 : Int32)) (by decide)
  refine go (fun _ => X457.aaload hx (j := (2 : Int32)) (v := (.ref x2)) (by rw [e457]; exact A462.1) (State.isArrayOf_alike hZ.alike A462.2.1) rfl A462.2.2 B462 (H462.at B462 rfl) (g := (mkF m 18 #[rv q_, rv a439, iv (2 : Int32)] [(.int (2 : Int32)), (.ref q_), (.int (2 : Int32)), (.ref a439)])) rfl rfl (hb hby d29_18) _) ?_
  show Ends p e below _ T457 (mkF m 19 #[rv q_, rv a439, iv (2 : Int32)] [(.ref x2), (.int (2 : Int32)), (.ref a439)])
  refine cStat X457 hx hZ hown (by rw [hml]; rfl) e457 (hwi hw 174 rfl) (hwi hw 175 rfl) (hwi hw 176 rfl) (hwi hw 177 rfl) [(.ref x2)] [(.int (2 : Int32)), (.ref a439)] rfl (rm_rnn hw x2 _) (hb hby d29_19) rfl (lenOf pd_19 rfl) (by decide) (by decide) (Nat.le_of_ble_eq_true rfl) (by decide) (by decide) ?_
  rintro v463 T463 h463 L463 X463 e463 ⟨rfl, N463, rfl⟩
  have N463a := Fr.app N457 N463
  show Ends p e below _ T463 (mkF m 22 #[rv q_, rv a439, iv (2 : Int32)] [(.ref x2), (.int (2 : Int32)), (.ref a439)])
  obtain ⟨cl464, A464, q464, S464, M464, H464, G464⟩ := id V457
  have F465 := (Exa.wr W457 (Exa.wr W450 (Exa.ext E439 Ez2)))
  obtain ⟨T464, h464, X464, e464, W464, s464⟩ := stR X463 hx hZ e463 A464 (j := (2 : Int32)) (inb_of S464 (by decide)) rfl (Sto.ofV A464 q464 O439.1 (Ins.of_exa F465 (hwi hw 106 rfl))) (g := (mkF m 22 #[rv q_, rv a439, iv (2 : Int32)] [(.ref x2), (.int (2 : Int32)), (.ref a439)])) rfl rfl (hb hby d29_22)
  have N464 := Fr.snoc X464 N463a f439
  have O466 : Ext Z.heap h464 := xw O459 W464 f439
  have V464 : Arv Z h464 a439 k439 (.object "java/lang/Object") (3 : Int32) [(.ref x0), (.ref x1), (.ref x2)] .null := Arv.set A464 q464 S464 M464 H464 G464 rfl W464 2 (by decide) (Nat.le_of_ble_eq_true rfl)
  refine go s464 ?_
  show Ends p e below _ T464 (mkF m 23 #[rv q_, rv a439, iv (2 : Int32)] [])
  refine go (fun _ => XT.iincV X464.here hx rfl (1 : Int32) (hb hby d29_23) (by decide) rfl (l' := #[rv q_, rv a439, iv (3 : Int32)]) rfl) ?_
  refine go (fun _ => XS.goto X464.here hx rfl (pc0 := 26) (pc' := 8) rfl (hb hby d29_26) (by decide) (by decide)) ?_
  refine go (fun _ => XS.iloadN X464.here hx rfl (hb hby d29_8) rfl) ?_
  refine go (fun _ => XS.aloadN X464.here hx rfl (hb hby d29_9) rfl rfl) ?_
  show Ends p e below _ T464 (mkF m 10 #[rv q_, rv a439, iv (3 : Int32)] [(.ref q_), (.int (3 : Int32))])
  have F467 := (Arv.other F460 W464 n440)
  obtain ⟨cl468, A468, -, S468, M468, -⟩ := id F467
  refine go (fun _ => X464.arraylength hx (cell := cl468) (by rw [e464]; exact A468.1) (State.isArrayOf_alike hZ.alike A468.2.1) (g := (mkF m 10 #[rv q_, rv a439, iv (3 : Int32)] [(.ref q_), (.int (3 : Int32))])) rfl rfl (hb hby d29_10) _) ?_
  rw [len_of S468 M468]
  show Ends p e below _ T464 (mkF m 11 #[rv q_, rv a439, iv (3 : Int32)] [(.int (3 : Int32)), (.int (3 : Int32))])
  refine go (fun _ => XS.icmpYes X464.here hx rfl (pc0 := 11) (pc' := 29) rfl (hb hby d29_11) rfl (XT.ii_ge_t ((by decide) : ¬ ((3 : Int32) < (3 : Int32)))) (by decide) (by decide)) ?_
  show Ends p e below _ T464 (mkF m 29 #[rv q_, rv a439, iv (3 : Int32)] [])
  obtain ⟨T469, h469, X469, e469, E469, A469, D469, U469, s469⟩ := newO X464 hx hZ hown (hwi hw 127 rfl) (hwi hw 178 rfl) (hwi hw 179 rfl) e464 (g := (mkF m 29 #[rv q_, rv a439, iv (3 : Int32)] [])) rfl (hb hby d29_29) (by decide) (by decide)
  obtain ⟨a469, g469⟩ : ∃ z : Addr, z = h464.size := ⟨_, rfl⟩
  have n473 : a439 ≠ a469 := fun q => absurd (V464.lt) (by rw [q, g469]; exact Nat.lt_irrefl _)
  have f469 : Z.heap.size ≤ a469 := by rw [g469]; exact (O466).1
  have K478 : Keep h0 h464 [] := (Keep.wr (Keep.wr (Keep.wr (Keep.ext K444 E439) W450 (Or.inr b439)) W457 (Or.inr b439)) W464 (Or.inr b439))
  have b469 : h0.size ≤ a469 := by rw [g469]; exact (K478).1
  rw [← g469] at A469 D469 U469 s469
  have O479 : Ext Z.heap h469 := xx O466 E469
  refine go s469 ?_
  show Ends p e below _ T469 (mkF m 32 #[rv q_, rv a439, iv (3 : Int32)] [(.ref a469)])
  refine go (fun _ => XS.dup X469.here hx rfl (hb hby d29_32) rfl rfl) ?_
  refine go (fun _ => XS.aloadN X469.here hx rfl (hb hby d29_33) rfl rfl) ?_
  refine go (fun _ => XT.iconstV X469.here hx rfl (0 : Int32) (hb hby d29_34) (by decide)) ?_
  show Ends p e below _ T469 (mkF m 35 #[rv q_, rv a439, iv (3 : Int32)] [(.int (0 : Int32)), (.ref a439), (.ref a469), (.ref a469)])
  have F480 := (D469 (Or.inr (hwi hw 199 rfl)) (ty := (.array (.object "java/lang/Object"))) (by decide))
  have F481 := (D469 (Or.inr (hwi hw 201 rfl)) (ty := .boolean) (by decide))
  refine cInitN X469 hx hZ hown (by rw [hml]; rfl) e469 (hwi hw 180 rfl) (hwi hw 181 rfl) (hwi hw 179 rfl) (hwi hw 183 rfl) a469 [(.ref a439), (.int (0 : Int32))] [(.ref a469)] rfl (rm_lni hw a469 a439 _ O479 f469 A469 F480 F481  ) (hb hby d29_35) rfl (lenOf pd_32 rfl) rfl (by decide) (by decide) (Nat.le_of_ble_eq_true rfl) (by decide) (by decide) ?_
  rintro v482 T482 h482 L482 X482 e482 ⟨rfl, N482, K482, F482_0, F482_1⟩
  have N482a := Fr.app N464 N482
  show Ends p e below _ T482 (mkF m 38 #[rv q_, rv a439, iv (3 : Int32)] [(.ref a469)])
  have K484 : Keep h0 h482 [] := (Keep.trans (Keep.ext K478 E469) K482 (allS (Or.inr b469) all0))
  have F485 := (Exa.keep A469 K482)
  have F486 := (Arv.keep (Arv.ext V464 E469) K482 (ninS n473 nin0))
  exact endA X482 hx hret rfl rfl (hb hby d29_38) (lvN X482 hlk e482 (fun h => by rw [hret] at h; cases h) ⟨a469, a439, _, rfl, N482a, K484, b469, b439, F485, F482_0, F486⟩ (by decide) (by decide))
set_option maxRecDepth 65536 in
set_option maxHeartbeats 40000000 in
theorem rm_lofa_3 {l : Launch} {Z : State} {a0 : Array Value} (hw : ∀ d ∈ tables_1, d.before a0 Z = true) (q_ : Addr) (kq : ClassId) (x0 x1 x2 : Addr) (aL aN aE : Addr) (kN : ClassId) (h0 : Heap) (O0 : Ext Z.heap h0) (SL : Sta Z Z.heap "java/util/ImmutableCollections" "EMPTY_LIST" "Ljava/util/ImmutableCollections$ListN;" (.ref aL)) (XL : Exa Z Z.heap aL "java/util/ImmutableCollections$ListN") (FL : Fld Z Z.heap aL "java/util/ImmutableCollections$ListN" "elements" "[Ljava/lang/Object;" (.ref aN)) (VN : Arv Z Z.heap aN kN (.object "java/lang/Object") (0 : Int32) [] .null) (SE : Sta Z Z.heap "java/util/ImmutableCollections" "EMPTY" "Ljava/lang/Object;" (.ref aE)) (Vq : Arv Z h0 q_ kq (.object "java/lang/Object") (3 : Int32) [(.ref x0), (.ref x1), (.ref x2)] .null) (Ez0 : Exa Z h0 x0 "com/example/scopa/scopa/schema/Column") (Ez1 : Exa Z h0 x1 "com/example/scopa/scopa/schema/Column") (Ez2 : Exa Z h0 x2 "com/example/scopa/scopa/schema/Column") :
    Con l (⟨"java/util/List", "of", "([Ljava/lang/Object;)Ljava/util/List;"⟩ : MethodName) jdk_40_method_47_code 2 (some (.object "java/util/List")) ({ frames := 6, cells := 2, slots := 5, locals := 77 } : Room) Z #[(.ref q_)] h0 (fun v h L => ∃ (o_ r_ : Addr) (kr : ClassId), v = some (.ref o_) ∧ Fr Z.heap.size L ∧ Keep h0 h [] ∧ h0.size ≤ o_ ∧ h0.size ≤ r_ ∧ Exa Z h o_ "java/util/ImmutableCollections$ListN" ∧ Fld Z h o_ "java/util/ImmutableCollections$ListN" "elements" "[Ljava/lang/Object;" (.ref r_) ∧ Arv Z h r_ kr (.object "java/lang/Object") (3 : Int32) [(.ref x0), (.ref x1), (.ref x2)] .null) := by
  refine Con.of (plainFor_of_name pn_21) (Ls := #[rv q_, .unset]) (fun m => efOf rfl) ?_
  intro p e s m below meth c T0 X0 hx hZ hby hml hown hnm hret hlk e0
  refine go (fun _ => XS.aloadN X0.here hx rfl (hb hby d28_0) rfl rfl) ?_
  show Ends p e below _ T0 (mkF m 1 #[rv q_, .unset] [(.ref q_)])
  obtain ⟨cl487, A487, -, S487, M487, -⟩ := id Vq
  refine go (fun _ => X0.arraylength hx (cell := cl487) (by rw [e0]; exact A487.1) (State.isArrayOf_alike hZ.alike A487.2.1) (g := (mkF m 1 #[rv q_, .unset] [(.ref q_)])) rfl rfl (hb hby d28_1) _) ?_
  rw [len_of S487 M487]
  show Ends p e below _ T0 (mkF m 2 #[rv q_, .unset] [(.int (3 : Int32))])
  refine go (fun _ => own_tsOut X0 hx (g := (mkF m 2 #[rv q_, .unset] [(.int (3 : Int32))])) rfl (k := (3 : Int32)) (rest := []) rfl (hb hby d28_2) (by decide) (pc0 := 2) rfl (pc' := 59) (by decide) _) ?_
  show Ends p e below _ T0 (mkF m 59 #[rv q_, .unset] [])
  refine go (fun _ => XS.aloadN X0.here hx rfl (hb hby d28_59) rfl rfl) ?_
  show Ends p e below _ T0 (mkF m 60 #[rv q_, .unset] [(.ref q_)])
  refine cStat X0 hx hZ hown (by rw [hml]; rfl) e0 (hwi hw 170 rfl) (hwi hw 171 rfl) (hwi hw 120 rfl) (hwi hw 172 rfl) [(.ref q_)] [] rfl (rm_lfa hw q_ kq x0 x1 x2 _ O0 Vq Ez0 Ez1 Ez2) (hb hby d28_60) rfl (lenOf pd_30 rfl) (by decide) (by decide) (Nat.le_of_ble_eq_true rfl) (by decide) (by decide) ?_
  rintro v488 T488 h488 L488 X488 e488 ⟨o488, r488, kr488, rfl, N488, K488, g488, gr488, E488, Fa488, Fb488⟩
  have N488a := Fr.app (Fr.nil _) N488
  have K494 : Keep h0 h0 [] := (Keep.refl _ _)
  have b493 : h0.size ≤ o488 := Nat.le_trans (K494).1 g488
  have b499 : h0.size ≤ r488 := Nat.le_trans (K494).1 gr488
  show Ends p e below _ T488 (mkF m 63 #[rv q_, .unset] [(.ref o488)])
  have K501 : Keep h0 h488 [] := (Keep.trans K494 K488 all0)
  exact endA X488 hx hret rfl rfl (hb hby d28_63) (lvN X488 hlk e488 (fun h => by rw [hret] at h; cases h) ⟨o488, r488, _, rfl, N488a, K501, b493, b499, E488, Fa488, Fb488⟩ (by decide) (by decide))
set_option maxRecDepth 65536 in
set_option maxHeartbeats 40000000 in
theorem rm_lc_3 {l : Launch} {Z : State} {a0 : Array Value} (hw : ∀ d ∈ tables_1, d.before a0 Z = true) (a b : Addr) (k : ClassId) (x0 x1 x2 : Addr) (mr : Addr) (aL aN aE : Addr) (kN : ClassId) (h0 : Heap) (O0 : Ext Z.heap h0) (MM : Mid Z "[Ljava/lang/Object;" mr) (SL : Sta Z Z.heap "java/util/ImmutableCollections" "EMPTY_LIST" "Ljava/util/ImmutableCollections$ListN;" (.ref aL)) (XL : Exa Z Z.heap aL "java/util/ImmutableCollections$ListN") (FL : Fld Z Z.heap aL "java/util/ImmutableCollections$ListN" "elements" "[Ljava/lang/Object;" (.ref aN)) (VN : Arv Z Z.heap aN kN (.object "java/lang/Object") (0 : Int32) [] .null) (SE : Sta Z Z.heap "java/util/ImmutableCollections" "EMPTY" "Ljava/lang/Object;" (.ref aE)) (E0 : Exa Z h0 a "java/util/ArrayList") (Ok : OvO Z k) (Vb : Arv Z h0 b k (.object "java/lang/Object") (10 : Int32) [(.ref x0), (.ref x1), (.ref x2), .null, .null, .null, .null, .null, .null, .null] .null) (Ez0 : Exa Z h0 x0 "com/example/scopa/scopa/schema/Column") (Ez1 : Exa Z h0 x1 "com/example/scopa/scopa/schema/Column") (Ez2 : Exa Z h0 x2 "com/example/scopa/scopa/schema/Column") (F2 : Fld Z h0 a "java/util/ArrayList" "elementData" "[Ljava/lang/Object;" (.ref b)) (F3 : Fld Z h0 a "java/util/ArrayList" "size" "I" (.int 3)) :
    Con l (⟨"java/util/ImmutableCollections", "listCopy", "(Ljava/util/Collection;)Ljava/util/List;"⟩ : MethodName) jdk_56_method_3_code 2 (some (.object "java/util/List")) ({ frames := 7, cells := 3, slots := 8, locals := 90 } : Room) Z #[(.ref a)] h0 (fun v h L => ∃ (o_ r_ : Addr) (kr : ClassId), v = some (.ref o_) ∧ Fr Z.heap.size L ∧ Keep h0 h [] ∧ h0.size ≤ o_ ∧ h0.size ≤ r_ ∧ Exa Z h o_ "java/util/ImmutableCollections$ListN" ∧ Fld Z h o_ "java/util/ImmutableCollections$ListN" "elements" "[Ljava/lang/Object;" (.ref r_) ∧ Arv Z h r_ kr (.object "java/lang/Object") (3 : Int32) [(.ref x0), (.ref x1), (.ref x2)] .null) := by
  refine Con.of (plainFor_of_name pn_22) (Ls := #[rv a, .unset]) (fun m => efOf rfl) ?_
  intro p e s m below meth c T0 X0 hx hZ hby hml hown hnm hret hlk e0
  refine go (fun _ => XS.aloadN X0.here hx rfl (hb hby d22_0) rfl rfl) ?_
  show Ends p e below _ T0 (mkF m 1 #[rv a, .unset] [(.ref a)])
  obtain ⟨T502, X502, e502, s502⟩ := instNo X0 hx hZ hown (hwi hw 122 rfl) e0 E0 (own_nsno (hwi hw 123 rfl) (hwi hw 229 rfl) (NS.step (hwi hw 123 rfl) (NS.step (hwi hw 124 rfl) (NS.step (hwi hw 125 rfl) (own_nsroot (hwi hw 126 rfl) (hwi hw 229 rfl) (by decide)) (by decide)) (by decide)) (by decide)) (by decide)) (g := (mkF m 1 #[rv a, .unset] [(.ref a)])) rfl rfl (hb hby d22_1)
  refine go s502 ?_
  show Ends p e below _ T502 (mkF m 4 #[rv a, .unset] [(.int (0 : Int32))])
  refine go (fun _ => XS.ifNo X502.here hx rfl (hb hby d22_4) rfl (XT.i0_ne_f ((by decide) : (0 : Int32) = (0 : Int32)))) ?_
  show Ends p e below _ T502 (mkF m 7 #[rv a, .unset] [])
  refine go (fun _ => XS.aloadN X502.here hx rfl (hb hby d22_7) rfl rfl) ?_
  show Ends p e below _ T502 (mkF m 8 #[rv a, .unset] [(.ref a)])
  obtain ⟨T503, X503, e503, s503⟩ := instNo X502 hx hZ hown (hwi hw 127 rfl) e502 E0 (own_nsno (hwi hw 123 rfl) (hwi hw 178 rfl) (NS.step (hwi hw 123 rfl) (NS.step (hwi hw 124 rfl) (NS.step (hwi hw 125 rfl) (own_nsroot (hwi hw 126 rfl) (hwi hw 178 rfl) (by decide)) (by decide)) (by decide)) (by decide)) (by decide)) (g := (mkF m 8 #[rv a, .unset] [(.ref a)])) rfl rfl (hb hby d22_8)
  refine go s503 ?_
  show Ends p e below _ T503 (mkF m 11 #[rv a, .unset] [(.int (0 : Int32))])
  refine go (fun _ => XS.ifYes X503.here hx rfl (pc0 := 11) (pc' := 31) rfl (hb hby d22_11) rfl (XT.i0_eq_t ((by decide) : (0 : Int32) = (0 : Int32))) (by decide) (by decide)) ?_
  show Ends p e below _ T503 (mkF m 31 #[rv a, .unset] [])
  refine go (fun _ => XS.aloadN X503.here hx rfl (hb hby d22_31) rfl rfl) ?_
  show Ends p e below _ T503 (mkF m 32 #[rv a, .unset] [(.ref a)])
  refine cFace X503 hx hZ hown (by rw [hml]; rfl) e503 (hwi hw 128 rfl) (hwi hw 129 rfl) (mvT hZ (hwi hw 130 rfl)) (hwi hw 131 rfl) (hwi hw 132 rfl) (hwi hw 133 rfl) (mvT hZ (hwi hw 134 rfl)) (hwi hw 135 rfl) (hwi hw 54 rfl) (hwi hw 136 rfl) a E0 [] [] rfl (rm_aie_3 hw a _ F3) (hb hby d22_32) rfl (lenOf pd_23 rfl) (by decide) (by decide) (Nat.le_of_ble_eq_true rfl) (by decide) (by decide) ?_
  rintro v504 T504 h504 L504 X504 e504 ⟨rfl, N504, rfl⟩
  have N504a := Fr.app (Fr.nil _) N504
  show Ends p e below _ T504 (mkF m 37 #[rv a, .unset] [(.int (0 : Int32))])
  refine go (fun _ => XS.ifYes X504.here hx rfl (pc0 := 37) (pc' := 44) rfl (hb hby d22_37) rfl (XT.i0_eq_t ((by decide) : (0 : Int32) = (0 : Int32))) (by decide) (by decide)) ?_
  show Ends p e below _ T504 (mkF m 44 #[rv a, .unset] [])
  refine go (fun _ => XS.aloadN X504.here hx rfl (hb hby d22_44) rfl rfl) ?_
  show Ends p e below _ T504 (mkF m 45 #[rv a, .unset] [(.ref a)])
  refine cFace X504 hx hZ hown (by rw [hml]; rfl) e504 (hwi hw 137 rfl) (hwi hw 138 rfl) (mvT hZ (hwi hw 139 rfl)) (hwi hw 140 rfl) (hwi hw 141 rfl) (hwi hw 142 rfl) (mvT hZ (hwi hw 143 rfl)) (hwi hw 135 rfl) (hwi hw 54 rfl) (hwi hw 144 rfl) a E0 [] [] rfl (rm_ta_3 hw a b k x0 x1 x2 mr _ O0 MM Ok Vb Ez0 Ez1 Ez2 F2 F3) (hb hby d22_45) rfl (lenOf pd_11 rfl) (by decide) (by decide) (Nat.le_of_ble_eq_true rfl) (by decide) (by decide) ?_
  rintro v505 T505 h505 L505 X505 e505 ⟨q505, kq505, rfl, N505, K505, g505, O505, V505⟩
  have N505a := Fr.app N504a N505
  have K512 : Keep h0 h0 [] := (Keep.refl _ _)
  have O513 : Ext Z.heap h505 := xk O0 K505 all0
  show Ends p e below _ T505 (mkF m 50 #[rv a, .unset] [(.ref q505)])
  have F514 := (Exa.keep Ez0 K505)
  have F515 := (Exa.keep Ez1 K505)
  have F516 := (Exa.keep Ez2 K505)
  refine cStat X505 hx hZ hown (by rw [hml]; rfl) e505 (hwi hw 167 rfl) (hwi hw 168 rfl) (hwi hw 116 rfl) (hwi hw 169 rfl) [(.ref q505)] [] rfl (rm_lofa_3 hw q505 kq505 x0 x1 x2 aL aN aE kN _ O513 SL XL FL VN SE V505 F514 F515 F516) (hb hby d22_50) rfl (lenOf pd_30 rfl) (by decide) (by decide) (Nat.le_of_ble_eq_true rfl) (by decide) (by decide) ?_
  rintro v517 T517 h517 L517 X517 e517 ⟨o517, r517, kr517, rfl, N517, K517, g517, gr517, E517, Fa517, Fb517⟩
  have N517a := Fr.app N505a N517
  have K527 : Keep h0 h505 [] := (Keep.trans K512 K505 all0)
  have b526 : h0.size ≤ o517 := Nat.le_trans (K527).1 g517
  have b534 : h0.size ≤ r517 := Nat.le_trans (K527).1 gr517
  show Ends p e below _ T517 (mkF m 53 #[rv a, .unset] [(.ref o517)])
  have K536 : Keep h0 h517 [] := (Keep.trans K527 K517 all0)
  exact endA X517 hx hret rfl rfl (hb hby d22_53) (lvN X517 hlk e517 (fun h => by rw [hret] at h; cases h) ⟨o517, r517, _, rfl, N517a, K536, b526, b534, E517, Fa517, Fb517⟩ (by decide) (by decide))
set_option maxRecDepth 65536 in
set_option maxHeartbeats 40000000 in
theorem rm_co_3 {l : Launch} {Z : State} {a0 : Array Value} (hw : ∀ d ∈ tables_1, d.before a0 Z = true) (a b : Addr) (k : ClassId) (x0 x1 x2 : Addr) (mr : Addr) (aL aN aE : Addr) (kN : ClassId) (h0 : Heap) (O0 : Ext Z.heap h0) (MM : Mid Z "[Ljava/lang/Object;" mr) (SL : Sta Z Z.heap "java/util/ImmutableCollections" "EMPTY_LIST" "Ljava/util/ImmutableCollections$ListN;" (.ref aL)) (XL : Exa Z Z.heap aL "java/util/ImmutableCollections$ListN") (FL : Fld Z Z.heap aL "java/util/ImmutableCollections$ListN" "elements" "[Ljava/lang/Object;" (.ref aN)) (VN : Arv Z Z.heap aN kN (.object "java/lang/Object") (0 : Int32) [] .null) (SE : Sta Z Z.heap "java/util/ImmutableCollections" "EMPTY" "Ljava/lang/Object;" (.ref aE)) (E0 : Exa Z h0 a "java/util/ArrayList") (Ok : OvO Z k) (Vb : Arv Z h0 b k (.object "java/lang/Object") (10 : Int32) [(.ref x0), (.ref x1), (.ref x2), .null, .null, .null, .null, .null, .null, .null] .null) (Ez0 : Exa Z h0 x0 "com/example/scopa/scopa/schema/Column") (Ez1 : Exa Z h0 x1 "com/example/scopa/scopa/schema/Column") (Ez2 : Exa Z h0 x2 "com/example/scopa/scopa/schema/Column") (F2 : Fld Z h0 a "java/util/ArrayList" "elementData" "[Ljava/lang/Object;" (.ref b)) (F3 : Fld Z h0 a "java/util/ArrayList" "size" "I" (.int 3)) :
    Con l (⟨"java/util/List", "copyOf", "(Ljava/util/Collection;)Ljava/util/List;"⟩ : MethodName) jdk_40_method_48_code 1 (some (.object "java/util/List")) ({ frames := 8, cells := 3, slots := 8, locals := 103 } : Room) Z #[(.ref a)] h0 (fun v h L => ∃ (o_ r_ : Addr) (kr : ClassId), v = some (.ref o_) ∧ Fr Z.heap.size L ∧ Keep h0 h [] ∧ h0.size ≤ o_ ∧ h0.size ≤ r_ ∧ Exa Z h o_ "java/util/ImmutableCollections$ListN" ∧ Fld Z h o_ "java/util/ImmutableCollections$ListN" "elements" "[Ljava/lang/Object;" (.ref r_) ∧ Arv Z h r_ kr (.object "java/lang/Object") (3 : Int32) [(.ref x0), (.ref x1), (.ref x2)] .null) := by
  refine Con.of (plainFor_of_name pn_21) (Ls := #[rv a]) (fun m => efOf rfl) ?_
  intro p e s m below meth c T0 X0 hx hZ hby hml hown hnm hret hlk e0
  refine go (fun _ => XS.aloadN X0.here hx rfl (hb hby d23_0) rfl rfl) ?_
  show Ends p e below _ T0 (mkF m 1 #[rv a] [(.ref a)])
  refine cStat X0 hx hZ hown (by rw [hml]; rfl) e0 (hwi hw 118 rfl) (hwi hw 119 rfl) (hwi hw 120 rfl) (hwi hw 121 rfl) [(.ref a)] [] rfl (rm_lc_3 hw a b k x0 x1 x2 mr aL aN aE kN _ O0 MM SL XL FL VN SE E0 Ok Vb Ez0 Ez1 Ez2 F2 F3) (hb hby d23_1) rfl (lenOf pd_25 rfl) (by decide) (by decide) (Nat.le_of_ble_eq_true rfl) (by decide) (by decide) ?_
  rintro v537 T537 h537 L537 X537 e537 ⟨o537, r537, kr537, rfl, N537, K537, g537, gr537, E537, Fa537, Fb537⟩
  have N537a := Fr.app (Fr.nil _) N537
  have K544 : Keep h0 h0 [] := (Keep.refl _ _)
  have b543 : h0.size ≤ o537 := Nat.le_trans (K544).1 g537
  have b550 : h0.size ≤ r537 := Nat.le_trans (K544).1 gr537
  show Ends p e below _ T537 (mkF m 4 #[rv a] [(.ref o537)])
  have K552 : Keep h0 h537 [] := (Keep.trans K544 K537 all0)
  exact endA X537 hx hret rfl rfl (hb hby d23_4) (lvN X537 hlk e537 (fun h => by rw [hret] at h; cases h) ⟨o537, r537, _, rfl, N537a, K552, b543, b550, E537, Fa537, Fb537⟩ (by decide) (by decide))
set_option maxRecDepth 65536 in
set_option maxHeartbeats 40000000 in
theorem rm_listOf {l : Launch} {Z : State} {a0 : Array Value} (hw : ∀ d ∈ tables_1, d.before a0 Z = true) (x y : Addr) (n_ : Int32) (aD : Addr) (kD : ClassId) (h0 : Heap) (O0 : Ext Z.heap h0) (SD : Sta Z Z.heap "java/util/ArrayList" "DEFAULTCAPACITY_EMPTY_ELEMENTDATA" "[Ljava/lang/Object;" (.ref aD)) (VD : Arv Z Z.heap aD kD (.object "java/lang/Object") (0 : Int32) [] .null) (Ex : Exa Z h0 x "com/example/scopa/scopa/schema/Column") (Ey : Exa Z h0 y "com/example/scopa/scopa/schema/Column") (hn : n_ = 0 ∨ n_ = 1 ∨ n_ = 2 ∨ n_ = 3) :
    Con l (⟨"com/example/scopa/scopa/schema/TableHasPrimaryKeyPinLaw", "listOf", "(Lcom/example/scopa/scopa/schema/Column;Lcom/example/scopa/scopa/schema/Column;I)Ljava/util/ArrayList;"⟩ : MethodName) method_3_code 4 (some (.object "java/util/ArrayList")) ({ frames := 5, cells := 2, slots := 13, locals := 69 } : Room) Z #[(.ref x), (.ref y), (.int n_)] h0 (fun v h L => (n_ = (0 : Int32) ∧ ∃ (a : Addr), v = some (.ref a) ∧ Fr Z.heap.size L ∧ Keep h0 h [] ∧ h0.size ≤ a ∧ Exa Z h a "java/util/ArrayList" ∧ Fld Z h a "java/util/ArrayList" "size" "I" (.int 0)) ∨ (n_ = (1 : Int32) ∧ ∃ (a b : Addr) (k : ClassId), v = some (.ref a) ∧ Fr Z.heap.size L ∧ Keep h0 h [] ∧ h0.size ≤ a ∧ h0.size ≤ b ∧ Exa Z h a "java/util/ArrayList" ∧ Fld Z h a "java/util/ArrayList" "elementData" "[Ljava/lang/Object;" (.ref b) ∧ Fld Z h a "java/util/ArrayList" "size" "I" (.int 1) ∧ OvO Z k ∧ Arv Z h b k (.object "java/lang/Object") (10 : Int32) [(.ref x), .null, .null, .null, .null, .null, .null, .null, .null, .null] .null) ∨ (n_ = (2 : Int32) ∧ ∃ (a b : Addr) (k : ClassId), v = some (.ref a) ∧ Fr Z.heap.size L ∧ Keep h0 h [] ∧ h0.size ≤ a ∧ h0.size ≤ b ∧ Exa Z h a "java/util/ArrayList" ∧ Fld Z h a "java/util/ArrayList" "elementData" "[Ljava/lang/Object;" (.ref b) ∧ Fld Z h a "java/util/ArrayList" "size" "I" (.int 2) ∧ OvO Z k ∧ Arv Z h b k (.object "java/lang/Object") (10 : Int32) [(.ref x), (.ref y), .null, .null, .null, .null, .null, .null, .null, .null] .null) ∨ (n_ = (3 : Int32) ∧ ∃ (a b : Addr) (k : ClassId), v = some (.ref a) ∧ Fr Z.heap.size L ∧ Keep h0 h [] ∧ h0.size ≤ a ∧ h0.size ≤ b ∧ Exa Z h a "java/util/ArrayList" ∧ Fld Z h a "java/util/ArrayList" "elementData" "[Ljava/lang/Object;" (.ref b) ∧ Fld Z h a "java/util/ArrayList" "size" "I" (.int 3) ∧ OvO Z k ∧ Arv Z h b k (.object "java/lang/Object") (10 : Int32) [(.ref x), (.ref y), (.ref x), .null, .null, .null, .null, .null, .null, .null] .null)) := by
  refine Con.of (plainFor_of_name pn_33) (Ls := #[rv x, rv y, iv n_, .unset]) (fun m => efOf rfl) ?_
  intro p e s m below meth c T0 X0 hx hZ hby hml hown hnm hret hlk e0
  rcases hn with rfl | rfl | rfl | rfl
  · show Ends p e below _ T0 (mkF m 0 #[rv x, rv y, iv (0 : Int32), .unset] [])
    obtain ⟨T553, h553, X553, e553, E553, A553, D553, U553, s553⟩ := newO X0 hx hZ hown (hwi hw 52 rfl) (hwi hw 53 rfl) (hwi hw 54 rfl) e0 (g := (mkF m 0 #[rv x, rv y, iv (0 : Int32), .unset] [])) rfl (hb hby d30_0) (by decide) (by decide)
    obtain ⟨a553, g553⟩ : ∃ z : Addr, z = h0.size := ⟨_, rfl⟩
    have f553 : Z.heap.size ≤ a553 := by rw [g553]; exact (O0).1
    have K556 : Keep h0 h0 [] := (Keep.refl _ _)
    have b553 : h0.size ≤ a553 := by rw [g553]; exact (K556).1
    rw [← g553] at A553 D553 U553 s553
    have O557 : Ext Z.heap h553 := xx O0 E553
    refine go s553 ?_
    show Ends p e below _ T553 (mkF m 3 #[rv x, rv y, iv (0 : Int32), .unset] [(.ref a553)])
    refine go (fun _ => XS.dup X553.here hx rfl (hb hby d30_3) rfl rfl) ?_
    show Ends p e below _ T553 (mkF m 4 #[rv x, rv y, iv (0 : Int32), .unset] [(.ref a553), (.ref a553)])
    have F558 := (D553 (Or.inl (hwi hw 72 rfl)) (ty := .int) (by decide))
    have F559 := (D553 (Or.inl (hwi hw 75 rfl)) (ty := (.array (.object "java/lang/Object"))) (by decide))
    have F560 := (D553 (Or.inl (hwi hw 84 rfl)) (ty := .int) (by decide))
    refine cInit X553 hx hZ hown (by rw [hml]; rfl) e553 (hwi hw 55 rfl) (hwi hw 56 rfl) (hwi hw 54 rfl) (hwi hw 57 rfl) a553 [] [(.ref a553)] rfl (rm_alinit hw a553 aD kD _ O557 f553 A553 F558 F559 F560 SD VD) (hb hby d30_4) rfl (lenOf pd_7 rfl) rfl (by decide) (by decide) (Nat.le_of_ble_eq_true rfl) (by decide) (by decide) ?_
    rintro v561 T561 h561 L561 X561 e561 ⟨rfl, N561, K561, F1561, F2561, F3561⟩
    have N561a := Fr.app (Fr.nil _) N561
    show Ends p e below _ T561 (mkF m 7 #[rv x, rv y, iv (0 : Int32), .unset] [(.ref a553)])
    refine go (fun _ => XS.astoreN X561.here hx rfl (hb hby d30_7) rfl rfl (l' := #[rv x, rv y, iv (0 : Int32), rv a553]) rfl) ?_
    refine go (fun _ => XS.iloadN X561.here hx rfl (hb hby d30_8) rfl) ?_
    refine go (fun _ => XT.iconstV X561.here hx rfl (1 : Int32) (hb hby d30_9) (by decide)) ?_
    show Ends p e below _ T561 (mkF m 10 #[rv x, rv y, iv (0 : Int32), rv a553] [(.int (1 : Int32)), (.int (0 : Int32))])
    refine go (fun _ => XS.icmpYes X561.here hx rfl (pc0 := 10) (pc' := 19) rfl (hb hby d30_10) rfl (XT.ii_lt_t ((by decide) : (0 : Int32) < (1 : Int32))) (by decide) (by decide)) ?_
    show Ends p e below _ T561 (mkF m 19 #[rv x, rv y, iv (0 : Int32), rv a553] [])
    refine go (fun _ => XS.iloadN X561.here hx rfl (hb hby d30_19) rfl) ?_
    refine go (fun _ => XT.iconstV X561.here hx rfl (2 : Int32) (hb hby d30_20) (by decide)) ?_
    show Ends p e below _ T561 (mkF m 21 #[rv x, rv y, iv (0 : Int32), rv a553] [(.int (2 : Int32)), (.int (0 : Int32))])
    refine go (fun _ => XS.icmpYes X561.here hx rfl (pc0 := 21) (pc' := 30) rfl (hb hby d30_21) rfl (XT.ii_lt_t ((by decide) : (0 : Int32) < (2 : Int32))) (by decide) (by decide)) ?_
    show Ends p e below _ T561 (mkF m 30 #[rv x, rv y, iv (0 : Int32), rv a553] [])
    refine go (fun _ => XS.iloadN X561.here hx rfl (hb hby d30_30) rfl) ?_
    refine go (fun _ => XT.iconstV X561.here hx rfl (3 : Int32) (hb hby d30_31) (by decide)) ?_
    show Ends p e below _ T561 (mkF m 32 #[rv x, rv y, iv (0 : Int32), rv a553] [(.int (3 : Int32)), (.int (0 : Int32))])
    refine go (fun _ => XS.icmpYes X561.here hx rfl (pc0 := 32) (pc' := 41) rfl (hb hby d30_32) rfl (XT.ii_lt_t ((by decide) : (0 : Int32) < (3 : Int32))) (by decide) (by decide)) ?_
    show Ends p e below _ T561 (mkF m 41 #[rv x, rv y, iv (0 : Int32), rv a553] [])
    refine go (fun _ => XS.aloadN X561.here hx rfl (hb hby d30_41) rfl rfl) ?_
    show Ends p e below _ T561 (mkF m 42 #[rv x, rv y, iv (0 : Int32), rv a553] [(.ref a553)])
    have K563 : Keep h0 h561 [] := (Keep.trans (Keep.ext K556 E553) K561 (allS (Or.inr b553) all0))
    have F564 := (Exa.keep A553 K561)
    exact endA X561 hx hret rfl rfl (hb hby d30_42) (lvN X561 hlk e561 (fun h => by rw [hret] at h; cases h) (Or.inl (⟨rfl, a553, rfl, N561a, K563, b553, F564, F3561⟩)) (by decide) (by decide))
  · show Ends p e below _ T0 (mkF m 0 #[rv x, rv y, iv (1 : Int32), .unset] [])
    obtain ⟨T565, h565, X565, e565, E565, A565, D565, U565, s565⟩ := newO X0 hx hZ hown (hwi hw 52 rfl) (hwi hw 53 rfl) (hwi hw 54 rfl) e0 (g := (mkF m 0 #[rv x, rv y, iv (1 : Int32), .unset] [])) rfl (hb hby d30_0) (by decide) (by decide)
    obtain ⟨a565, g565⟩ : ∃ z : Addr, z = h0.size := ⟨_, rfl⟩
    have n566 : x ≠ a565 := fun q => absurd (Ex.lt) (by rw [q, g565]; exact Nat.lt_irrefl _)
    have f565 : Z.heap.size ≤ a565 := by rw [g565]; exact (O0).1
    have K568 : Keep h0 h0 [] := (Keep.refl _ _)
    have b565 : h0.size ≤ a565 := by rw [g565]; exact (K568).1
    rw [← g565] at A565 D565 U565 s565
    have O569 : Ext Z.heap h565 := xx O0 E565
    refine go s565 ?_
    show Ends p e below _ T565 (mkF m 3 #[rv x, rv y, iv (1 : Int32), .unset] [(.ref a565)])
    refine go (fun _ => XS.dup X565.here hx rfl (hb hby d30_3) rfl rfl) ?_
    show Ends p e below _ T565 (mkF m 4 #[rv x, rv y, iv (1 : Int32), .unset] [(.ref a565), (.ref a565)])
    have F570 := (D565 (Or.inl (hwi hw 72 rfl)) (ty := .int) (by decide))
    have F571 := (D565 (Or.inl (hwi hw 75 rfl)) (ty := (.array (.object "java/lang/Object"))) (by decide))
    have F572 := (D565 (Or.inl (hwi hw 84 rfl)) (ty := .int) (by decide))
    refine cInit X565 hx hZ hown (by rw [hml]; rfl) e565 (hwi hw 55 rfl) (hwi hw 56 rfl) (hwi hw 54 rfl) (hwi hw 57 rfl) a565 [] [(.ref a565)] rfl (rm_alinit hw a565 aD kD _ O569 f565 A565 F570 F571 F572 SD VD) (hb hby d30_4) rfl (lenOf pd_7 rfl) rfl (by decide) (by decide) (Nat.le_of_ble_eq_true rfl) (by decide) (by decide) ?_
    rintro v573 T573 h573 L573 X573 e573 ⟨rfl, N573, K573, F1573, F2573, F3573⟩
    have N573a := Fr.app (Fr.nil _) N573
    have O574 : Ext Z.heap h573 := xk O569 K573 (allS f565 all0)
    show Ends p e below _ T573 (mkF m 7 #[rv x, rv y, iv (1 : Int32), .unset] [(.ref a565)])
    refine go (fun _ => XS.astoreN X573.here hx rfl (hb hby d30_7) rfl rfl (l' := #[rv x, rv y, iv (1 : Int32), rv a565]) rfl) ?_
    refine go (fun _ => XS.iloadN X573.here hx rfl (hb hby d30_8) rfl) ?_
    refine go (fun _ => XT.iconstV X573.here hx rfl (1 : Int32) (hb hby d30_9) (by decide)) ?_
    show Ends p e below _ T573 (mkF m 10 #[rv x, rv y, iv (1 : Int32), rv a565] [(.int (1 : Int32)), (.int (1 : Int32))])
    refine go (fun _ => XS.icmpNo X573.here hx rfl (hb hby d30_10) rfl (XT.ii_lt_f ((by decide) : ¬ ((1 : Int32) < (1 : Int32))))) ?_
    show Ends p e below _ T573 (mkF m 13 #[rv x, rv y, iv (1 : Int32), rv a565] [])
    refine go (fun _ => XS.aloadN X573.here hx rfl (hb hby d30_13) rfl rfl) ?_
    refine go (fun _ => XS.aloadN X573.here hx rfl (hb hby d30_14) rfl rfl) ?_
    show Ends p e below _ T573 (mkF m 15 #[rv x, rv y, iv (1 : Int32), rv a565] [(.ref x), (.ref a565)])
    have F575 := (Exa.keep A565 K573)
    have F576 := (Exa.keep (Exa.ext E565 Ex) K573)
    refine cVirt X573 hx hZ hown (by rw [hml]; rfl) e573 (hwi hw 76 rfl) (hwi hw 77 rfl) (hwi hw 79 rfl) (hwi hw 78 rfl) (hwi hw 54 rfl) (hwi hw 80 rfl) (notFace_of_selects (args := #[]) (mvT hZ (hwi hw 79 rfl))) a565 F575 [(.ref x)] [] rfl (rm_add_0 hw a565 x (0 : Int32) aD kD _ O574 f565 F575 F1573 F2573 F3573 SD VD F576 (Ne.symm n566)) (hb hby d30_15) rfl (lenOf pd_34 rfl) (by decide) (by decide) (Nat.le_of_ble_eq_true rfl) (by decide) (by decide) ?_
    rintro v577 T577 h577 L577 X577 e577 ⟨b577, k577, rfl, N577, K577, g577, O577, F1577, F2577, F3577, V577⟩
    have N577a := Fr.app N573a N577
    have K583 : Keep h0 h573 [] := (Keep.trans (Keep.ext K568 E565) K573 (allS (Or.inr b565) all0))
    have b582 : h0.size ≤ b577 := Nat.le_trans (K583).1 g577
    show Ends p e below _ T577 (mkF m 18 #[rv x, rv y, iv (1 : Int32), rv a565] [(.int (1 : Int32))])
    refine go (fun _ => XT.pop X577.here hx rfl (hb hby d30_18) rfl rfl) ?_
    refine go (fun _ => XS.iloadN X577.here hx rfl (hb hby d30_19) rfl) ?_
    refine go (fun _ => XT.iconstV X577.here hx rfl (2 : Int32) (hb hby d30_20) (by decide)) ?_
    show Ends p e below _ T577 (mkF m 21 #[rv x, rv y, iv (1 : Int32), rv a565] [(.int (2 : Int32)), (.int (1 : Int32))])
    refine go (fun _ => XS.icmpYes X577.here hx rfl (pc0 := 21) (pc' := 30) rfl (hb hby d30_21) rfl (XT.ii_lt_t ((by decide) : (1 : Int32) < (2 : Int32))) (by decide) (by decide)) ?_
    show Ends p e below _ T577 (mkF m 30 #[rv x, rv y, iv (1 : Int32), rv a565] [])
    refine go (fun _ => XS.iloadN X577.here hx rfl (hb hby d30_30) rfl) ?_
    refine go (fun _ => XT.iconstV X577.here hx rfl (3 : Int32) (hb hby d30_31) (by decide)) ?_
    show Ends p e below _ T577 (mkF m 32 #[rv x, rv y, iv (1 : Int32), rv a565] [(.int (3 : Int32)), (.int (1 : Int32))])
    refine go (fun _ => XS.icmpYes X577.here hx rfl (pc0 := 32) (pc' := 41) rfl (hb hby d30_32) rfl (XT.ii_lt_t ((by decide) : (1 : Int32) < (3 : Int32))) (by decide) (by decide)) ?_
    show Ends p e below _ T577 (mkF m 41 #[rv x, rv y, iv (1 : Int32), rv a565] [])
    refine go (fun _ => XS.aloadN X577.here hx rfl (hb hby d30_41) rfl rfl) ?_
    show Ends p e below _ T577 (mkF m 42 #[rv x, rv y, iv (1 : Int32), rv a565] [(.ref a565)])
    have K585 : Keep h0 h577 [] := (Keep.trans K583 K577 (allS (Or.inr b565) all0))
    have F586 := (Exa.keep F575 K577)
    exact endA X577 hx hret rfl rfl (hb hby d30_42) (lvN X577 hlk e577 (fun h => by rw [hret] at h; cases h) (Or.inr (Or.inl (⟨rfl, a565, b577, _, rfl, N577a, K585, b565, b582, F586, F2577, F3577, O577, V577⟩))) (by decide) (by decide))
  · show Ends p e below _ T0 (mkF m 0 #[rv x, rv y, iv (2 : Int32), .unset] [])
    obtain ⟨T587, h587, X587, e587, E587, A587, D587, U587, s587⟩ := newO X0 hx hZ hown (hwi hw 52 rfl) (hwi hw 53 rfl) (hwi hw 54 rfl) e0 (g := (mkF m 0 #[rv x, rv y, iv (2 : Int32), .unset] [])) rfl (hb hby d30_0) (by decide) (by decide)
    obtain ⟨a587, g587⟩ : ∃ z : Addr, z = h0.size := ⟨_, rfl⟩
    have n588 : x ≠ a587 := fun q => absurd (Ex.lt) (by rw [q, g587]; exact Nat.lt_irrefl _)
    have n589 : y ≠ a587 := fun q => absurd (Ey.lt) (by rw [q, g587]; exact Nat.lt_irrefl _)
    have f587 : Z.heap.size ≤ a587 := by rw [g587]; exact (O0).1
    have K590 : Keep h0 h0 [] := (Keep.refl _ _)
    have b587 : h0.size ≤ a587 := by rw [g587]; exact (K590).1
    rw [← g587] at A587 D587 U587 s587
    have O591 : Ext Z.heap h587 := xx O0 E587
    refine go s587 ?_
    show Ends p e below _ T587 (mkF m 3 #[rv x, rv y, iv (2 : Int32), .unset] [(.ref a587)])
    refine go (fun _ => XS.dup X587.here hx rfl (hb hby d30_3) rfl rfl) ?_
    show Ends p e below _ T587 (mkF m 4 #[rv x, rv y, iv (2 : Int32), .unset] [(.ref a587), (.ref a587)])
    have F592 := (D587 (Or.inl (hwi hw 72 rfl)) (ty := .int) (by decide))
    have F593 := (D587 (Or.inl (hwi hw 75 rfl)) (ty := (.array (.object "java/lang/Object"))) (by decide))
    have F594 := (D587 (Or.inl (hwi hw 84 rfl)) (ty := .int) (by decide))
    refine cInit X587 hx hZ hown (by rw [hml]; rfl) e587 (hwi hw 55 rfl) (hwi hw 56 rfl) (hwi hw 54 rfl) (hwi hw 57 rfl) a587 [] [(.ref a587)] rfl (rm_alinit hw a587 aD kD _ O591 f587 A587 F592 F593 F594 SD VD) (hb hby d30_4) rfl (lenOf pd_7 rfl) rfl (by decide) (by decide) (Nat.le_of_ble_eq_true rfl) (by decide) (by decide) ?_
    rintro v595 T595 h595 L595 X595 e595 ⟨rfl, N595, K595, F1595, F2595, F3595⟩
    have N595a := Fr.app (Fr.nil _) N595
    have O596 : Ext Z.heap h595 := xk O591 K595 (allS f587 all0)
    show Ends p e below _ T595 (mkF m 7 #[rv x, rv y, iv (2 : Int32), .unset] [(.ref a587)])
    refine go (fun _ => XS.astoreN X595.here hx rfl (hb hby d30_7) rfl rfl (l' := #[rv x, rv y, iv (2 : Int32), rv a587]) rfl) ?_
    refine go (fun _ => XS.iloadN X595.here hx rfl (hb hby d30_8) rfl) ?_
    refine go (fun _ => XT.iconstV X595.here hx rfl (1 : Int32) (hb hby d30_9) (by decide)) ?_
    show Ends p e below _ T595 (mkF m 10 #[rv x, rv y, iv (2 : Int32), rv a587] [(.int (1 : Int32)), (.int (2 : Int32))])
    refine go (fun _ => XS.icmpNo X595.here hx rfl (hb hby d30_10) rfl (XT.ii_lt_f ((by decide) : ¬ ((2 : Int32) < (1 : Int32))))) ?_
    show Ends p e below _ T595 (mkF m 13 #[rv x, rv y, iv (2 : Int32), rv a587] [])
    refine go (fun _ => XS.aloadN X595.here hx rfl (hb hby d30_13) rfl rfl) ?_
    refine go (fun _ => XS.aloadN X595.here hx rfl (hb hby d30_14) rfl rfl) ?_
    show Ends p e below _ T595 (mkF m 15 #[rv x, rv y, iv (2 : Int32), rv a587] [(.ref x), (.ref a587)])
    have F597 := (Exa.keep A587 K595)
    have F598 := (Exa.keep (Exa.ext E587 Ex) K595)
    refine cVirt X595 hx hZ hown (by rw [hml]; rfl) e595 (hwi hw 76 rfl) (hwi hw 77 rfl) (hwi hw 79 rfl) (hwi hw 78 rfl) (hwi hw 54 rfl) (hwi hw 80 rfl) (notFace_of_selects (args := #[]) (mvT hZ (hwi hw 79 rfl))) a587 F597 [(.ref x)] [] rfl (rm_add_0 hw a587 x (0 : Int32) aD kD _ O596 f587 F597 F1595 F2595 F3595 SD VD F598 (Ne.symm n588)) (hb hby d30_15) rfl (lenOf pd_34 rfl) (by decide) (by decide) (Nat.le_of_ble_eq_true rfl) (by decide) (by decide) ?_
    rintro v599 T599 h599 L599 X599 e599 ⟨b599, k599, rfl, N599, K599, g599, O599, F1599, F2599, F3599, V599⟩
    have N599a := Fr.app N595a N599
    have n600 : a587 ≠ b599 := Nat.ne_of_lt (Nat.lt_of_lt_of_le (F597.lt) g599)
    have F602 := (Exa.keep (Exa.ext E587 Ey) K595)
    have n603 : y ≠ b599 := Nat.ne_of_lt (Nat.lt_of_lt_of_le (F602.lt) g599)
    have f604 : Z.heap.size ≤ b599 := Nat.le_trans (O596).1 g599
    have K605 : Keep h0 h595 [] := (Keep.trans (Keep.ext K590 E587) K595 (allS (Or.inr b587) all0))
    have b604 : h0.size ≤ b599 := Nat.le_trans (K605).1 g599
    have O606 : Ext Z.heap h599 := xk O596 K599 (allS f587 all0)
    show Ends p e below _ T599 (mkF m 18 #[rv x, rv y, iv (2 : Int32), rv a587] [(.int (1 : Int32))])
    refine go (fun _ => XT.pop X599.here hx rfl (hb hby d30_18) rfl rfl) ?_
    refine go (fun _ => XS.iloadN X599.here hx rfl (hb hby d30_19) rfl) ?_
    refine go (fun _ => XT.iconstV X599.here hx rfl (2 : Int32) (hb hby d30_20) (by decide)) ?_
    show Ends p e below _ T599 (mkF m 21 #[rv x, rv y, iv (2 : Int32), rv a587] [(.int (2 : Int32)), (.int (2 : Int32))])
    refine go (fun _ => XS.icmpNo X599.here hx rfl (hb hby d30_21) rfl (XT.ii_lt_f ((by decide) : ¬ ((2 : Int32) < (2 : Int32))))) ?_
    show Ends p e below _ T599 (mkF m 24 #[rv x, rv y, iv (2 : Int32), rv a587] [])
    refine go (fun _ => XS.aloadN X599.here hx rfl (hb hby d30_24) rfl rfl) ?_
    refine go (fun _ => XS.aloadN X599.here hx rfl (hb hby d30_25) rfl rfl) ?_
    show Ends p e below _ T599 (mkF m 26 #[rv x, rv y, iv (2 : Int32), rv a587] [(.ref y), (.ref a587)])
    have F607 := (Exa.keep F597 K599)
    have F608 := (Exa.keep F602 K599)
    refine cVirt X599 hx hZ hown (by rw [hml]; rfl) e599 (hwi hw 76 rfl) (hwi hw 77 rfl) (hwi hw 79 rfl) (hwi hw 78 rfl) (hwi hw 54 rfl) (hwi hw 80 rfl) (notFace_of_selects (args := #[]) (mvT hZ (hwi hw 79 rfl))) a587 F607 [(.ref y)] [] rfl (rm_add_1 hw a587 y b599 k599 (1 : Int32) x _ O606 f587 F607 F1599 F2599 F3599 f604 n600 O599 V599 F608 (Ne.symm n589) (Ne.symm n603)) (hb hby d30_26) rfl (lenOf pd_34 rfl) (by decide) (by decide) (Nat.le_of_ble_eq_true rfl) (by decide) (by decide) ?_
    rintro v609 T609 h609 L609 X609 e609 ⟨rfl, N609, K609, F1609, F2609, F3609, V609⟩
    have N609a := Fr.app N599a N609
    show Ends p e below _ T609 (mkF m 29 #[rv x, rv y, iv (2 : Int32), rv a587] [(.int (1 : Int32))])
    refine go (fun _ => XT.pop X609.here hx rfl (hb hby d30_29) rfl rfl) ?_
    refine go (fun _ => XS.iloadN X609.here hx rfl (hb hby d30_30) rfl) ?_
    refine go (fun _ => XT.iconstV X609.here hx rfl (3 : Int32) (hb hby d30_31) (by decide)) ?_
    show Ends p e below _ T609 (mkF m 32 #[rv x, rv y, iv (2 : Int32), rv a587] [(.int (3 : Int32)), (.int (2 : Int32))])
    refine go (fun _ => XS.icmpYes X609.here hx rfl (pc0 := 32) (pc' := 41) rfl (hb hby d30_32) rfl (XT.ii_lt_t ((by decide) : (2 : Int32) < (3 : Int32))) (by decide) (by decide)) ?_
    show Ends p e below _ T609 (mkF m 41 #[rv x, rv y, iv (2 : Int32), rv a587] [])
    refine go (fun _ => XS.aloadN X609.here hx rfl (hb hby d30_41) rfl rfl) ?_
    show Ends p e below _ T609 (mkF m 42 #[rv x, rv y, iv (2 : Int32), rv a587] [(.ref a587)])
    have K611 : Keep h0 h609 [] := (Keep.trans (Keep.trans K605 K599 (allS (Or.inr b587) all0)) K609 (allS (Or.inr b587) (allS (Or.inr b604) all0)))
    have F612 := (Exa.keep F607 K609)
    exact endA X609 hx hret rfl rfl (hb hby d30_42) (lvN X609 hlk e609 (fun h => by rw [hret] at h; cases h) (Or.inr (Or.inr (Or.inl (⟨rfl, a587, b599, _, rfl, N609a, K611, b587, b604, F612, F2609, F3609, O599, V609⟩)))) (by decide) (by decide))
  · show Ends p e below _ T0 (mkF m 0 #[rv x, rv y, iv (3 : Int32), .unset] [])
    obtain ⟨T613, h613, X613, e613, E613, A613, D613, U613, s613⟩ := newO X0 hx hZ hown (hwi hw 52 rfl) (hwi hw 53 rfl) (hwi hw 54 rfl) e0 (g := (mkF m 0 #[rv x, rv y, iv (3 : Int32), .unset] [])) rfl (hb hby d30_0) (by decide) (by decide)
    obtain ⟨a613, g613⟩ : ∃ z : Addr, z = h0.size := ⟨_, rfl⟩
    have n614 : x ≠ a613 := fun q => absurd (Ex.lt) (by rw [q, g613]; exact Nat.lt_irrefl _)
    have n615 : y ≠ a613 := fun q => absurd (Ey.lt) (by rw [q, g613]; exact Nat.lt_irrefl _)
    have f613 : Z.heap.size ≤ a613 := by rw [g613]; exact (O0).1
    have K616 : Keep h0 h0 [] := (Keep.refl _ _)
    have b613 : h0.size ≤ a613 := by rw [g613]; exact (K616).1
    rw [← g613] at A613 D613 U613 s613
    have O617 : Ext Z.heap h613 := xx O0 E613
    refine go s613 ?_
    show Ends p e below _ T613 (mkF m 3 #[rv x, rv y, iv (3 : Int32), .unset] [(.ref a613)])
    refine go (fun _ => XS.dup X613.here hx rfl (hb hby d30_3) rfl rfl) ?_
    show Ends p e below _ T613 (mkF m 4 #[rv x, rv y, iv (3 : Int32), .unset] [(.ref a613), (.ref a613)])
    have F618 := (D613 (Or.inl (hwi hw 72 rfl)) (ty := .int) (by decide))
    have F619 := (D613 (Or.inl (hwi hw 75 rfl)) (ty := (.array (.object "java/lang/Object"))) (by decide))
    have F620 := (D613 (Or.inl (hwi hw 84 rfl)) (ty := .int) (by decide))
    refine cInit X613 hx hZ hown (by rw [hml]; rfl) e613 (hwi hw 55 rfl) (hwi hw 56 rfl) (hwi hw 54 rfl) (hwi hw 57 rfl) a613 [] [(.ref a613)] rfl (rm_alinit hw a613 aD kD _ O617 f613 A613 F618 F619 F620 SD VD) (hb hby d30_4) rfl (lenOf pd_7 rfl) rfl (by decide) (by decide) (Nat.le_of_ble_eq_true rfl) (by decide) (by decide) ?_
    rintro v621 T621 h621 L621 X621 e621 ⟨rfl, N621, K621, F1621, F2621, F3621⟩
    have N621a := Fr.app (Fr.nil _) N621
    have O622 : Ext Z.heap h621 := xk O617 K621 (allS f613 all0)
    show Ends p e below _ T621 (mkF m 7 #[rv x, rv y, iv (3 : Int32), .unset] [(.ref a613)])
    refine go (fun _ => XS.astoreN X621.here hx rfl (hb hby d30_7) rfl rfl (l' := #[rv x, rv y, iv (3 : Int32), rv a613]) rfl) ?_
    refine go (fun _ => XS.iloadN X621.here hx rfl (hb hby d30_8) rfl) ?_
    refine go (fun _ => XT.iconstV X621.here hx rfl (1 : Int32) (hb hby d30_9) (by decide)) ?_
    show Ends p e below _ T621 (mkF m 10 #[rv x, rv y, iv (3 : Int32), rv a613] [(.int (1 : Int32)), (.int (3 : Int32))])
    refine go (fun _ => XS.icmpNo X621.here hx rfl (hb hby d30_10) rfl (XT.ii_lt_f ((by decide) : ¬ ((3 : Int32) < (1 : Int32))))) ?_
    show Ends p e below _ T621 (mkF m 13 #[rv x, rv y, iv (3 : Int32), rv a613] [])
    refine go (fun _ => XS.aloadN X621.here hx rfl (hb hby d30_13) rfl rfl) ?_
    refine go (fun _ => XS.aloadN X621.here hx rfl (hb hby d30_14) rfl rfl) ?_
    show Ends p e below _ T621 (mkF m 15 #[rv x, rv y, iv (3 : Int32), rv a613] [(.ref x), (.ref a613)])
    have F623 := (Exa.keep A613 K621)
    have F624 := (Exa.keep (Exa.ext E613 Ex) K621)
    refine cVirt X621 hx hZ hown (by rw [hml]; rfl) e621 (hwi hw 76 rfl) (hwi hw 77 rfl) (hwi hw 79 rfl) (hwi hw 78 rfl) (hwi hw 54 rfl) (hwi hw 80 rfl) (notFace_of_selects (args := #[]) (mvT hZ (hwi hw 79 rfl))) a613 F623 [(.ref x)] [] rfl (rm_add_0 hw a613 x (0 : Int32) aD kD _ O622 f613 F623 F1621 F2621 F3621 SD VD F624 (Ne.symm n614)) (hb hby d30_15) rfl (lenOf pd_34 rfl) (by decide) (by decide) (Nat.le_of_ble_eq_true rfl) (by decide) (by decide) ?_
    rintro v625 T625 h625 L625 X625 e625 ⟨b625, k625, rfl, N625, K625, g625, O625, F1625, F2625, F3625, V625⟩
    have N625a := Fr.app N621a N625
    have n626 : a613 ≠ b625 := Nat.ne_of_lt (Nat.lt_of_lt_of_le (F623.lt) g625)
    have n627 : x ≠ b625 := Nat.ne_of_lt (Nat.lt_of_lt_of_le (F624.lt) g625)
    have F628 := (Exa.keep (Exa.ext E613 Ey) K621)
    have n629 : y ≠ b625 := Nat.ne_of_lt (Nat.lt_of_lt_of_le (F628.lt) g625)
    have f630 : Z.heap.size ≤ b625 := Nat.le_trans (O622).1 g625
    have K631 : Keep h0 h621 [] := (Keep.trans (Keep.ext K616 E613) K621 (allS (Or.inr b613) all0))
    have b630 : h0.size ≤ b625 := Nat.le_trans (K631).1 g625
    have O632 : Ext Z.heap h625 := xk O622 K625 (allS f613 all0)
    show Ends p e below _ T625 (mkF m 18 #[rv x, rv y, iv (3 : Int32), rv a613] [(.int (1 : Int32))])
    refine go (fun _ => XT.pop X625.here hx rfl (hb hby d30_18) rfl rfl) ?_
    refine go (fun _ => XS.iloadN X625.here hx rfl (hb hby d30_19) rfl) ?_
    refine go (fun _ => XT.iconstV X625.here hx rfl (2 : Int32) (hb hby d30_20) (by decide)) ?_
    show Ends p e below _ T625 (mkF m 21 #[rv x, rv y, iv (3 : Int32), rv a613] [(.int (2 : Int32)), (.int (3 : Int32))])
    refine go (fun _ => XS.icmpNo X625.here hx rfl (hb hby d30_21) rfl (XT.ii_lt_f ((by decide) : ¬ ((3 : Int32) < (2 : Int32))))) ?_
    show Ends p e below _ T625 (mkF m 24 #[rv x, rv y, iv (3 : Int32), rv a613] [])
    refine go (fun _ => XS.aloadN X625.here hx rfl (hb hby d30_24) rfl rfl) ?_
    refine go (fun _ => XS.aloadN X625.here hx rfl (hb hby d30_25) rfl rfl) ?_
    show Ends p e below _ T625 (mkF m 26 #[rv x, rv y, iv (3 : Int32), rv a613] [(.ref y), (.ref a613)])
    have F633 := (Exa.keep F623 K625)
    have F634 := (Exa.keep F628 K625)
    refine cVirt X625 hx hZ hown (by rw [hml]; rfl) e625 (hwi hw 76 rfl) (hwi hw 77 rfl) (hwi hw 79 rfl) (hwi hw 78 rfl) (hwi hw 54 rfl) (hwi hw 80 rfl) (notFace_of_selects (args := #[]) (mvT hZ (hwi hw 79 rfl))) a613 F633 [(.ref y)] [] rfl (rm_add_1 hw a613 y b625 k625 (1 : Int32) x _ O632 f613 F633 F1625 F2625 F3625 f630 n626 O625 V625 F634 (Ne.symm n615) (Ne.symm n629)) (hb hby d30_26) rfl (lenOf pd_34 rfl) (by decide) (by decide) (Nat.le_of_ble_eq_true rfl) (by decide) (by decide) ?_
    rintro v635 T635 h635 L635 X635 e635 ⟨rfl, N635, K635, F1635, F2635, F3635, V635⟩
    have N635a := Fr.app N625a N635
    have O636 : Ext Z.heap h635 := xk O632 K635 (allS f613 (allS f630 all0))
    show Ends p e below _ T635 (mkF m 29 #[rv x, rv y, iv (3 : Int32), rv a613] [(.int (1 : Int32))])
    refine go (fun _ => XT.pop X635.here hx rfl (hb hby d30_29) rfl rfl) ?_
    refine go (fun _ => XS.iloadN X635.here hx rfl (hb hby d30_30) rfl) ?_
    refine go (fun _ => XT.iconstV X635.here hx rfl (3 : Int32) (hb hby d30_31) (by decide)) ?_
    show Ends p e below _ T635 (mkF m 32 #[rv x, rv y, iv (3 : Int32), rv a613] [(.int (3 : Int32)), (.int (3 : Int32))])
    refine go (fun _ => XS.icmpNo X635.here hx rfl (hb hby d30_32) rfl (XT.ii_lt_f ((by decide) : ¬ ((3 : Int32) < (3 : Int32))))) ?_
    show Ends p e below _ T635 (mkF m 35 #[rv x, rv y, iv (3 : Int32), rv a613] [])
    refine go (fun _ => XS.aloadN X635.here hx rfl (hb hby d30_35) rfl rfl) ?_
    refine go (fun _ => XS.aloadN X635.here hx rfl (hb hby d30_36) rfl rfl) ?_
    show Ends p e below _ T635 (mkF m 37 #[rv x, rv y, iv (3 : Int32), rv a613] [(.ref x), (.ref a613)])
    have F637 := (Exa.keep F633 K635)
    have F638 := (Exa.keep (Exa.keep F624 K625) K635)
    refine cVirt X635 hx hZ hown (by rw [hml]; rfl) e635 (hwi hw 76 rfl) (hwi hw 77 rfl) (hwi hw 79 rfl) (hwi hw 78 rfl) (hwi hw 54 rfl) (hwi hw 80 rfl) (notFace_of_selects (args := #[]) (mvT hZ (hwi hw 79 rfl))) a613 F637 [(.ref x)] [] rfl (rm_add_2 hw a613 x b625 k625 (2 : Int32) x y _ O636 f613 F637 F1635 F2635 F3635 f630 n626 O625 V635 F638 (Ne.symm n614) (Ne.symm n627)) (hb hby d30_37) rfl (lenOf pd_34 rfl) (by decide) (by decide) (Nat.le_of_ble_eq_true rfl) (by decide) (by decide) ?_
    rintro v639 T639 h639 L639 X639 e639 ⟨rfl, N639, K639, F1639, F2639, F3639, V639⟩
    have N639a := Fr.app N635a N639
    show Ends p e below _ T639 (mkF m 40 #[rv x, rv y, iv (3 : Int32), rv a613] [(.int (1 : Int32))])
    refine go (fun _ => XT.pop X639.here hx rfl (hb hby d30_40) rfl rfl) ?_
    refine go (fun _ => XS.aloadN X639.here hx rfl (hb hby d30_41) rfl rfl) ?_
    show Ends p e below _ T639 (mkF m 42 #[rv x, rv y, iv (3 : Int32), rv a613] [(.ref a613)])
    have K641 : Keep h0 h639 [] := (Keep.trans (Keep.trans (Keep.trans K631 K625 (allS (Or.inr b613) all0)) K635 (allS (Or.inr b613) (allS (Or.inr b630) all0))) K639 (allS (Or.inr b613) (allS (Or.inr b630) all0)))
    have F642 := (Exa.keep F637 K639)
    exact endA X639 hx hret rfl rfl (hb hby d30_42) (lvN X639 hlk e639 (fun h => by rw [hret] at h; cases h) (Or.inr (Or.inr (Or.inr (⟨rfl, a613, b625, _, rfl, N639a, K641, b613, b630, F642, F2639, F3639, O625, V639⟩)))) (by decide) (by decide))
set_option maxRecDepth 65536 in
set_option maxHeartbeats 40000000 in
theorem rm_tab_0_0 {l : Launch} {Z : State} {a0 : Array Value} (hw : ∀ d ∈ tables_1, d.before a0 Z = true) (t_ s1 s2 l1 l2 x y : Addr)   (mr : Addr) (aL aN aE : Addr) (kN : ClassId) (h0 : Heap) (O0 : Ext Z.heap h0) (f0 : Z.heap.size ≤ t_) (E0 : Exa Z h0 t_ "com/example/scopa/scopa/schema/Table") (F_schema : Fld Z h0 t_ "com/example/scopa/scopa/schema/Table" "schema" "Ljava/lang/String;" .null) (F_name : Fld Z h0 t_ "com/example/scopa/scopa/schema/Table" "name" "Ljava/lang/String;" .null) (F_columns : Fld Z h0 t_ "com/example/scopa/scopa/schema/Table" "columns" "Ljava/util/List;" .null) (F_primaryKey : Fld Z h0 t_ "com/example/scopa/scopa/schema/Table" "primaryKey" "Ljava/util/List;" .null) (MM : Mid Z "[Ljava/lang/Object;" mr) (SL : Sta Z Z.heap "java/util/ImmutableCollections" "EMPTY_LIST" "Ljava/util/ImmutableCollections$ListN;" (.ref aL)) (XL : Exa Z Z.heap aL "java/util/ImmutableCollections$ListN") (FL : Fld Z Z.heap aL "java/util/ImmutableCollections$ListN" "elements" "[Ljava/lang/Object;" (.ref aN)) (VN : Arv Z Z.heap aN kN (.object "java/lang/Object") (0 : Int32) [] .null) (SE : Sta Z Z.heap "java/util/ImmutableCollections" "EMPTY" "Ljava/lang/Object;" (.ref aE)) (Ex : Exa Z h0 x "com/example/scopa/scopa/schema/Column") (Ey : Exa Z h0 y "com/example/scopa/scopa/schema/Column") (El1 : Exa Z h0 l1 "java/util/ArrayList") (F3l1 : Fld Z h0 l1 "java/util/ArrayList" "size" "I" (.int 0)) (El2 : Exa Z h0 l2 "java/util/ArrayList") (F3l2 : Fld Z h0 l2 "java/util/ArrayList" "size" "I" (.int 0)) (nex : t_ ≠ x) (ney : t_ ≠ y) :
    Con l (⟨"com/example/scopa/scopa/schema/Table", "<init>", "(Ljava/lang/String;Ljava/lang/String;Ljava/util/List;Ljava/util/List;)V"⟩ : MethodName) prog_14_method_1_code 5 none ({ frames := 3, cells := 0, slots := 0, locals := 37 } : Room) Z #[(.ref t_), (.ref s1), (.ref s2), (.ref l1), (.ref l2)] h0 (fun v h L => v = none ∧ Fr Z.heap.size L ∧ Keep h0 h [t_] ∧ Fld Z h t_ "com/example/scopa/scopa/schema/Table" "primaryKey" "Ljava/util/List;" (.ref aL)) := by
  refine Con.of (plainFor_of_name pn_35) (Ls := #[rv t_, rv s1, rv s2, rv l1, rv l2]) (fun m => efOf rfl) ?_
  intro p e s m below meth c T0 X0 hx hZ hby hml hown hnm hret hlk e0
  refine go (fun _ => XS.aloadN X0.here hx rfl (hb hby d31_0) rfl rfl) ?_
  show Ends p e below _ T0 (mkF m 1 #[rv t_, rv s1, rv s2, rv l1, rv l2] [(.ref t_)])
  refine cInit X0 hx hZ hown (by rw [hml]; rfl) e0 (hwi hw 113 rfl) (hwi hw 36 rfl) (hwi hw 38 rfl) (hwi hw 39 rfl) t_ [] [] rfl (rm_record hw t_ _) (hb hby d31_1) rfl (lenOf pd_7 rfl) rfl (by decide) (by decide) (Nat.le_of_ble_eq_true rfl) (by decide) (by decide) ?_
  rintro v643 T643 h643 L643 X643 e643 ⟨rfl, N643, rfl⟩
  have N643a := Fr.app (Fr.nil _) N643
  show Ends p e below _ T643 (mkF m 4 #[rv t_, rv s1, rv s2, rv l1, rv l2] [])
  refine go (fun _ => XS.aloadN X643.here hx rfl (hb hby d31_4) rfl rfl) ?_
  show Ends p e below _ T643 (mkF m 5 #[rv t_, rv s1, rv s2, rv l1, rv l2] [(.ref l1)])
  refine cStat X643 hx hZ hown (by rw [hml]; rfl) e643 (hwi hw 114 rfl) (hwi hw 115 rfl) (hwi hw 116 rfl) (hwi hw 117 rfl) [(.ref l1)] [] rfl (rm_co_0 hw l1 mr aL aN aE kN _ O0 MM SL XL FL VN SE El1 F3l1) (hb hby d31_5) rfl (lenOf pd_25 rfl) (by decide) (by decide) (Nat.le_of_ble_eq_true rfl) (by decide) (by decide) ?_
  rintro v644 T644 h644 L644 X644 e644 ⟨rfl, N644, rfl⟩
  have N644a := Fr.app N643a N644
  show Ends p e below _ T644 (mkF m 8 #[rv t_, rv s1, rv s2, rv l1, rv l2] [(.ref aL)])
  refine go (fun _ => XS.astoreN X644.here hx rfl (hb hby d31_8) rfl rfl (l' := #[rv t_, rv s1, rv s2, rv aL, rv l2]) rfl) ?_
  refine go (fun _ => XS.aload X644.here hx rfl (hb hby d31_9) rfl rfl) ?_
  show Ends p e below _ T644 (mkF m 11 #[rv t_, rv s1, rv s2, rv aL, rv l2] [(.ref l2)])
  refine cStat X644 hx hZ hown (by rw [hml]; rfl) e644 (hwi hw 114 rfl) (hwi hw 115 rfl) (hwi hw 116 rfl) (hwi hw 117 rfl) [(.ref l2)] [] rfl (rm_co_0 hw l2 mr aL aN aE kN _ O0 MM SL XL FL VN SE El2 F3l2) (hb hby d31_11) rfl (lenOf pd_25 rfl) (by decide) (by decide) (Nat.le_of_ble_eq_true rfl) (by decide) (by decide) ?_
  rintro v645 T645 h645 L645 X645 e645 ⟨rfl, N645, rfl⟩
  have N645a := Fr.app N644a N645
  show Ends p e below _ T645 (mkF m 14 #[rv t_, rv s1, rv s2, rv aL, rv l2] [(.ref aL)])
  refine go (fun _ => XS.astore X645.here hx rfl (hb hby d31_14) rfl rfl (l' := #[rv t_, rv s1, rv s2, rv aL, rv aL]) rfl) ?_
  refine go (fun _ => XS.aloadN X645.here hx rfl (hb hby d31_16) rfl rfl) ?_
  refine go (fun _ => XS.aloadN X645.here hx rfl (hb hby d31_17) rfl rfl) ?_
  show Ends p e below _ T645 (mkF m 18 #[rv t_, rv s1, rv s2, rv aL, rv aL] [(.ref s1), (.ref t_)])
  obtain ⟨T646, h646, X646, e646, W646, s646⟩ := putF X645 hx hZ hown (host := "") (Or.inl (hwi hw 206 rfl)) Via.refl e645 F_schema E0 (Or.inr ⟨(hwi hw 207 rfl), rfl, hnm⟩) (hwi hw 108 rfl) (ty := (.object "java/lang/String")) (by decide) rfl rfl (g := (mkF m 18 #[rv t_, rv s1, rv s2, rv aL, rv aL] [(.ref s1), (.ref t_)])) rfl rfl (hb hby d31_18)
  have N646 := Fr.snoc X646 N645a f0
  refine go s646 ?_
  show Ends p e below _ T646 (mkF m 21 #[rv t_, rv s1, rv s2, rv aL, rv aL] [])
  refine go (fun _ => XS.aloadN X646.here hx rfl (hb hby d31_21) rfl rfl) ?_
  refine go (fun _ => XS.aloadN X646.here hx rfl (hb hby d31_22) rfl rfl) ?_
  show Ends p e below _ T646 (mkF m 23 #[rv t_, rv s1, rv s2, rv aL, rv aL] [(.ref s2), (.ref t_)])
  have F648 := (Exa.wr W646 E0)
  have F649 := (Fld.other W646 F_name (Or.inr (slot_ne (a0 := a0) (Or.inr (hwi hw 209 rfl)) (Or.inr (hwi hw 207 rfl)) (by decide) (t := (.object "java/lang/String")) (t' := (.object "java/lang/String")) (by decide) (by decide))))
  obtain ⟨T650, h650, X650, e650, W650, s650⟩ := putF X646 hx hZ hown (host := "") (Or.inl (hwi hw 208 rfl)) Via.refl e646 F649 F648 (Or.inr ⟨(hwi hw 209 rfl), rfl, hnm⟩) (hwi hw 108 rfl) (ty := (.object "java/lang/String")) (by decide) rfl rfl (g := (mkF m 23 #[rv t_, rv s1, rv s2, rv aL, rv aL] [(.ref s2), (.ref t_)])) rfl rfl (hb hby d31_23)
  have N650 := Fr.snoc X650 N646 f0
  refine go s650 ?_
  show Ends p e below _ T650 (mkF m 26 #[rv t_, rv s1, rv s2, rv aL, rv aL] [])
  refine go (fun _ => XS.aloadN X650.here hx rfl (hb hby d31_26) rfl rfl) ?_
  refine go (fun _ => XS.aloadN X650.here hx rfl (hb hby d31_27) rfl rfl) ?_
  show Ends p e below _ T650 (mkF m 28 #[rv t_, rv s1, rv s2, rv aL, rv aL] [(.ref aL), (.ref t_)])
  have F652 := (Exa.wr W650 F648)
  have F653 := (Fld.other W650 (Fld.other W646 F_columns (Or.inr (slot_ne (a0 := a0) (Or.inr (hwi hw 211 rfl)) (Or.inr (hwi hw 207 rfl)) (by decide) (t := (.object "java/util/List")) (t' := (.object "java/lang/String")) (by decide) (by decide)))) (Or.inr (slot_ne (a0 := a0) (Or.inr (hwi hw 211 rfl)) (Or.inr (hwi hw 209 rfl)) (by decide) (t := (.object "java/util/List")) (t' := (.object "java/lang/String")) (by decide) (by decide))))
  obtain ⟨T654, h654, X654, e654, W654, s654⟩ := putF X650 hx hZ hown (host := "") (Or.inl (hwi hw 210 rfl)) Via.refl e650 F653 F652 (Or.inr ⟨(hwi hw 211 rfl), rfl, hnm⟩) (hwi hw 108 rfl) (ty := (.object "java/util/List")) (by decide) rfl rfl (g := (mkF m 28 #[rv t_, rv s1, rv s2, rv aL, rv aL] [(.ref aL), (.ref t_)])) rfl rfl (hb hby d31_28)
  have N654 := Fr.snoc X654 N650 f0
  refine go s654 ?_
  show Ends p e below _ T654 (mkF m 31 #[rv t_, rv s1, rv s2, rv aL, rv aL] [])
  refine go (fun _ => XS.aloadN X654.here hx rfl (hb hby d31_31) rfl rfl) ?_
  refine go (fun _ => XS.aload X654.here hx rfl (hb hby d31_32) rfl rfl) ?_
  show Ends p e below _ T654 (mkF m 34 #[rv t_, rv s1, rv s2, rv aL, rv aL] [(.ref aL), (.ref t_)])
  have F656 := (Exa.wr W654 F652)
  have F657 := (Fld.other W654 (Fld.other W650 (Fld.other W646 F_primaryKey (Or.inr (slot_ne (a0 := a0) (Or.inr (hwi hw 213 rfl)) (Or.inr (hwi hw 207 rfl)) (by decide) (t := (.object "java/util/List")) (t' := (.object "java/lang/String")) (by decide) (by decide)))) (Or.inr (slot_ne (a0 := a0) (Or.inr (hwi hw 213 rfl)) (Or.inr (hwi hw 209 rfl)) (by decide) (t := (.object "java/util/List")) (t' := (.object "java/lang/String")) (by decide) (by decide)))) (Or.inr (slot_ne (a0 := a0) (Or.inr (hwi hw 213 rfl)) (Or.inr (hwi hw 211 rfl)) (by decide) (t := (.object "java/util/List")) (t' := (.object "java/util/List")) (by decide) (by decide))))
  obtain ⟨T658, h658, X658, e658, W658, s658⟩ := putF X654 hx hZ hown (host := "") (Or.inl (hwi hw 212 rfl)) Via.refl e654 F657 F656 (Or.inr ⟨(hwi hw 213 rfl), rfl, hnm⟩) (hwi hw 108 rfl) (ty := (.object "java/util/List")) (by decide) rfl rfl (g := (mkF m 34 #[rv t_, rv s1, rv s2, rv aL, rv aL] [(.ref aL), (.ref t_)])) rfl rfl (hb hby d31_34)
  have N658 := Fr.snoc X658 N654 f0
  refine go s658 ?_
  show Ends p e below _ T658 (mkF m 37 #[rv t_, rv s1, rv s2, rv aL, rv aL] [])
  have F660 := (Fld.same W658 F657)
  have K661 : Keep h0 h658 [t_] := (Keep.wr (Keep.wr (Keep.wr (Keep.wr (Keep.refl _ _) W646 (Or.inl (List.mem_of_getElem? (i := 0) rfl))) W650 (Or.inl (List.mem_of_getElem? (i := 0) rfl))) W654 (Or.inl (List.mem_of_getElem? (i := 0) rfl))) W658 (Or.inl (List.mem_of_getElem? (i := 0) rfl)))
  exact endV X658 hx hret (hb hby d31_37) (lvN X658 hlk e658 (fun _ => rfl) ⟨rfl, N658, K661, F660⟩ (by decide) (by decide))
set_option maxRecDepth 65536 in
set_option maxHeartbeats 40000000 in
theorem rm_tab_0_1 {l : Launch} {Z : State} {a0 : Array Value} (hw : ∀ d ∈ tables_1, d.before a0 Z = true) (t_ s1 s2 l1 l2 x y : Addr)  (bl2 : Addr) (kl2 : ClassId) (mr : Addr) (aL aN aE : Addr) (kN : ClassId) (h0 : Heap) (O0 : Ext Z.heap h0) (f0 : Z.heap.size ≤ t_) (E0 : Exa Z h0 t_ "com/example/scopa/scopa/schema/Table") (F_schema : Fld Z h0 t_ "com/example/scopa/scopa/schema/Table" "schema" "Ljava/lang/String;" .null) (F_name : Fld Z h0 t_ "com/example/scopa/scopa/schema/Table" "name" "Ljava/lang/String;" .null) (F_columns : Fld Z h0 t_ "com/example/scopa/scopa/schema/Table" "columns" "Ljava/util/List;" .null) (F_primaryKey : Fld Z h0 t_ "com/example/scopa/scopa/schema/Table" "primaryKey" "Ljava/util/List;" .null) (MM : Mid Z "[Ljava/lang/Object;" mr) (SL : Sta Z Z.heap "java/util/ImmutableCollections" "EMPTY_LIST" "Ljava/util/ImmutableCollections$ListN;" (.ref aL)) (XL : Exa Z Z.heap aL "java/util/ImmutableCollections$ListN") (FL : Fld Z Z.heap aL "java/util/ImmutableCollections$ListN" "elements" "[Ljava/lang/Object;" (.ref aN)) (VN : Arv Z Z.heap aN kN (.object "java/lang/Object") (0 : Int32) [] .null) (SE : Sta Z Z.heap "java/util/ImmutableCollections" "EMPTY" "Ljava/lang/Object;" (.ref aE)) (Ex : Exa Z h0 x "com/example/scopa/scopa/schema/Column") (Ey : Exa Z h0 y "com/example/scopa/scopa/schema/Column") (El1 : Exa Z h0 l1 "java/util/ArrayList") (F3l1 : Fld Z h0 l1 "java/util/ArrayList" "size" "I" (.int 0)) (El2 : Exa Z h0 l2 "java/util/ArrayList") (F2l2 : Fld Z h0 l2 "java/util/ArrayList" "elementData" "[Ljava/lang/Object;" (.ref bl2)) (F3l2 : Fld Z h0 l2 "java/util/ArrayList" "size" "I" (.int 1)) (Ol2 : OvO Z kl2) (Vl2 : Arv Z h0 bl2 kl2 (.object "java/lang/Object") (10 : Int32) [(.ref y), .null, .null, .null, .null, .null, .null, .null, .null, .null] .null) (nex : t_ ≠ x) (ney : t_ ≠ y) :
    Con l (⟨"com/example/scopa/scopa/schema/Table", "<init>", "(Ljava/lang/String;Ljava/lang/String;Ljava/util/List;Ljava/util/List;)V"⟩ : MethodName) prog_14_method_1_code 5 none ({ frames := 8, cells := 2, slots := 3, locals := 100 } : Room) Z #[(.ref t_), (.ref s1), (.ref s2), (.ref l1), (.ref l2)] h0 (fun v h L => ∃ (o_ : Addr), v = none ∧ Fr Z.heap.size L ∧ Keep h0 h [t_] ∧ h0.size ≤ o_ ∧ Fld Z h t_ "com/example/scopa/scopa/schema/Table" "primaryKey" "Ljava/util/List;" (.ref o_) ∧ Exa Z h o_ "java/util/ImmutableCollections$List12") := by
  refine Con.of (plainFor_of_name pn_35) (Ls := #[rv t_, rv s1, rv s2, rv l1, rv l2]) (fun m => efOf rfl) ?_
  intro p e s m below meth c T0 X0 hx hZ hby hml hown hnm hret hlk e0
  refine go (fun _ => XS.aloadN X0.here hx rfl (hb hby d31_0) rfl rfl) ?_
  show Ends p e below _ T0 (mkF m 1 #[rv t_, rv s1, rv s2, rv l1, rv l2] [(.ref t_)])
  refine cInit X0 hx hZ hown (by rw [hml]; rfl) e0 (hwi hw 113 rfl) (hwi hw 36 rfl) (hwi hw 38 rfl) (hwi hw 39 rfl) t_ [] [] rfl (rm_record hw t_ _) (hb hby d31_1) rfl (lenOf pd_7 rfl) rfl (by decide) (by decide) (Nat.le_of_ble_eq_true rfl) (by decide) (by decide) ?_
  rintro v662 T662 h662 L662 X662 e662 ⟨rfl, N662, rfl⟩
  have N662a := Fr.app (Fr.nil _) N662
  show Ends p e below _ T662 (mkF m 4 #[rv t_, rv s1, rv s2, rv l1, rv l2] [])
  refine go (fun _ => XS.aloadN X662.here hx rfl (hb hby d31_4) rfl rfl) ?_
  show Ends p e below _ T662 (mkF m 5 #[rv t_, rv s1, rv s2, rv l1, rv l2] [(.ref l1)])
  refine cStat X662 hx hZ hown (by rw [hml]; rfl) e662 (hwi hw 114 rfl) (hwi hw 115 rfl) (hwi hw 116 rfl) (hwi hw 117 rfl) [(.ref l1)] [] rfl (rm_co_0 hw l1 mr aL aN aE kN _ O0 MM SL XL FL VN SE El1 F3l1) (hb hby d31_5) rfl (lenOf pd_25 rfl) (by decide) (by decide) (Nat.le_of_ble_eq_true rfl) (by decide) (by decide) ?_
  rintro v663 T663 h663 L663 X663 e663 ⟨rfl, N663, rfl⟩
  have N663a := Fr.app N662a N663
  show Ends p e below _ T663 (mkF m 8 #[rv t_, rv s1, rv s2, rv l1, rv l2] [(.ref aL)])
  refine go (fun _ => XS.astoreN X663.here hx rfl (hb hby d31_8) rfl rfl (l' := #[rv t_, rv s1, rv s2, rv aL, rv l2]) rfl) ?_
  refine go (fun _ => XS.aload X663.here hx rfl (hb hby d31_9) rfl rfl) ?_
  show Ends p e below _ T663 (mkF m 11 #[rv t_, rv s1, rv s2, rv aL, rv l2] [(.ref l2)])
  refine cStat X663 hx hZ hown (by rw [hml]; rfl) e663 (hwi hw 114 rfl) (hwi hw 115 rfl) (hwi hw 116 rfl) (hwi hw 117 rfl) [(.ref l2)] [] rfl (rm_co_1 hw l2 bl2 kl2 y mr aL aN aE kN _ O0 MM SL XL FL VN SE El2 Ol2 Vl2 Ey F2l2 F3l2) (hb hby d31_11) rfl (lenOf pd_25 rfl) (by decide) (by decide) (Nat.le_of_ble_eq_true rfl) (by decide) (by decide) ?_
  rintro v664 T664 h664 L664 X664 e664 ⟨o664, rfl, N664, K664, g664, E664, Fa664, Fb664⟩
  have N664a := Fr.app N663a N664
  have K672 : Keep h0 h0 [t_] := (Keep.refl _ _)
  have b671 : h0.size ≤ o664 := Nat.le_trans (K672).1 g664
  show Ends p e below _ T664 (mkF m 14 #[rv t_, rv s1, rv s2, rv aL, rv l2] [(.ref o664)])
  refine go (fun _ => XS.astore X664.here hx rfl (hb hby d31_14) rfl rfl (l' := #[rv t_, rv s1, rv s2, rv aL, rv o664]) rfl) ?_
  refine go (fun _ => XS.aloadN X664.here hx rfl (hb hby d31_16) rfl rfl) ?_
  refine go (fun _ => XS.aloadN X664.here hx rfl (hb hby d31_17) rfl rfl) ?_
  show Ends p e below _ T664 (mkF m 18 #[rv t_, rv s1, rv s2, rv aL, rv o664] [(.ref s1), (.ref t_)])
  have F674 := (Exa.keep E0 K664)
  have F675 := (Fld.keep F_schema K664 nin0)
  obtain ⟨T676, h676, X676, e676, W676, s676⟩ := putF X664 hx hZ hown (host := "") (Or.inl (hwi hw 206 rfl)) Via.refl e664 F675 F674 (Or.inr ⟨(hwi hw 207 rfl), rfl, hnm⟩) (hwi hw 108 rfl) (ty := (.object "java/lang/String")) (by decide) rfl rfl (g := (mkF m 18 #[rv t_, rv s1, rv s2, rv aL, rv o664] [(.ref s1), (.ref t_)])) rfl rfl (hb hby d31_18)
  have N676 := Fr.snoc X676 N664a f0
  refine go s676 ?_
  show Ends p e below _ T676 (mkF m 21 #[rv t_, rv s1, rv s2, rv aL, rv o664] [])
  refine go (fun _ => XS.aloadN X676.here hx rfl (hb hby d31_21) rfl rfl) ?_
  refine go (fun _ => XS.aloadN X676.here hx rfl (hb hby d31_22) rfl rfl) ?_
  show Ends p e below _ T676 (mkF m 23 #[rv t_, rv s1, rv s2, rv aL, rv o664] [(.ref s2), (.ref t_)])
  have F678 := (Exa.wr W676 F674)
  have F679 := (Fld.other W676 (Fld.keep F_name K664 nin0) (Or.inr (slot_ne (a0 := a0) (Or.inr (hwi hw 209 rfl)) (Or.inr (hwi hw 207 rfl)) (by decide) (t := (.object "java/lang/String")) (t' := (.object "java/lang/String")) (by decide) (by decide))))
  obtain ⟨T680, h680, X680, e680, W680, s680⟩ := putF X676 hx hZ hown (host := "") (Or.inl (hwi hw 208 rfl)) Via.refl e676 F679 F678 (Or.inr ⟨(hwi hw 209 rfl), rfl, hnm⟩) (hwi hw 108 rfl) (ty := (.object "java/lang/String")) (by decide) rfl rfl (g := (mkF m 23 #[rv t_, rv s1, rv s2, rv aL, rv o664] [(.ref s2), (.ref t_)])) rfl rfl (hb hby d31_23)
  have N680 := Fr.snoc X680 N676 f0
  refine go s680 ?_
  show Ends p e below _ T680 (mkF m 26 #[rv t_, rv s1, rv s2, rv aL, rv o664] [])
  refine go (fun _ => XS.aloadN X680.here hx rfl (hb hby d31_26) rfl rfl) ?_
  refine go (fun _ => XS.aloadN X680.here hx rfl (hb hby d31_27) rfl rfl) ?_
  show Ends p e below _ T680 (mkF m 28 #[rv t_, rv s1, rv s2, rv aL, rv o664] [(.ref aL), (.ref t_)])
  have F682 := (Exa.wr W680 F678)
  have F683 := (Fld.other W680 (Fld.other W676 (Fld.keep F_columns K664 nin0) (Or.inr (slot_ne (a0 := a0) (Or.inr (hwi hw 211 rfl)) (Or.inr (hwi hw 207 rfl)) (by decide) (t := (.object "java/util/List")) (t' := (.object "java/lang/String")) (by decide) (by decide)))) (Or.inr (slot_ne (a0 := a0) (Or.inr (hwi hw 211 rfl)) (Or.inr (hwi hw 209 rfl)) (by decide) (t := (.object "java/util/List")) (t' := (.object "java/lang/String")) (by decide) (by decide))))
  obtain ⟨T684, h684, X684, e684, W684, s684⟩ := putF X680 hx hZ hown (host := "") (Or.inl (hwi hw 210 rfl)) Via.refl e680 F683 F682 (Or.inr ⟨(hwi hw 211 rfl), rfl, hnm⟩) (hwi hw 108 rfl) (ty := (.object "java/util/List")) (by decide) rfl rfl (g := (mkF m 28 #[rv t_, rv s1, rv s2, rv aL, rv o664] [(.ref aL), (.ref t_)])) rfl rfl (hb hby d31_28)
  have N684 := Fr.snoc X684 N680 f0
  refine go s684 ?_
  show Ends p e below _ T684 (mkF m 31 #[rv t_, rv s1, rv s2, rv aL, rv o664] [])
  refine go (fun _ => XS.aloadN X684.here hx rfl (hb hby d31_31) rfl rfl) ?_
  refine go (fun _ => XS.aload X684.here hx rfl (hb hby d31_32) rfl rfl) ?_
  show Ends p e below _ T684 (mkF m 34 #[rv t_, rv s1, rv s2, rv aL, rv o664] [(.ref o664), (.ref t_)])
  have F686 := (Exa.wr W684 F682)
  have F687 := (Fld.other W684 (Fld.other W680 (Fld.other W676 (Fld.keep F_primaryKey K664 nin0) (Or.inr (slot_ne (a0 := a0) (Or.inr (hwi hw 213 rfl)) (Or.inr (hwi hw 207 rfl)) (by decide) (t := (.object "java/util/List")) (t' := (.object "java/lang/String")) (by decide) (by decide)))) (Or.inr (slot_ne (a0 := a0) (Or.inr (hwi hw 213 rfl)) (Or.inr (hwi hw 209 rfl)) (by decide) (t := (.object "java/util/List")) (t' := (.object "java/lang/String")) (by decide) (by decide)))) (Or.inr (slot_ne (a0 := a0) (Or.inr (hwi hw 213 rfl)) (Or.inr (hwi hw 211 rfl)) (by decide) (t := (.object "java/util/List")) (t' := (.object "java/util/List")) (by decide) (by decide))))
  obtain ⟨T688, h688, X688, e688, W688, s688⟩ := putF X684 hx hZ hown (host := "") (Or.inl (hwi hw 212 rfl)) Via.refl e684 F687 F686 (Or.inr ⟨(hwi hw 213 rfl), rfl, hnm⟩) (hwi hw 108 rfl) (ty := (.object "java/util/List")) (by decide) rfl rfl (g := (mkF m 34 #[rv t_, rv s1, rv s2, rv aL, rv o664] [(.ref o664), (.ref t_)])) rfl rfl (hb hby d31_34)
  have N688 := Fr.snoc X688 N684 f0
  refine go s688 ?_
  show Ends p e below _ T688 (mkF m 37 #[rv t_, rv s1, rv s2, rv aL, rv o664] [])
  have F690 := (Fld.same W688 F687)
  have K691 : Keep h0 h688 [t_] := (Keep.wr (Keep.wr (Keep.wr (Keep.wr (Keep.trans K672 K664 all0) W676 (Or.inl (List.mem_of_getElem? (i := 0) rfl))) W680 (Or.inl (List.mem_of_getElem? (i := 0) rfl))) W684 (Or.inl (List.mem_of_getElem? (i := 0) rfl))) W688 (Or.inl (List.mem_of_getElem? (i := 0) rfl)))
  have F692 := (Exa.wr W688 (Exa.wr W684 (Exa.wr W680 (Exa.wr W676 E664))))
  exact endV X688 hx hret (hb hby d31_37) (lvN X688 hlk e688 (fun _ => rfl) ⟨o664, rfl, N688, K691, b671, F690, F692⟩ (by decide) (by decide))
set_option maxRecDepth 65536 in
set_option maxHeartbeats 40000000 in
theorem rm_tab_0_2 {l : Launch} {Z : State} {a0 : Array Value} (hw : ∀ d ∈ tables_1, d.before a0 Z = true) (t_ s1 s2 l1 l2 x y : Addr)  (bl2 : Addr) (kl2 : ClassId) (mr : Addr) (aL aN aE : Addr) (kN : ClassId) (h0 : Heap) (O0 : Ext Z.heap h0) (f0 : Z.heap.size ≤ t_) (E0 : Exa Z h0 t_ "com/example/scopa/scopa/schema/Table") (F_schema : Fld Z h0 t_ "com/example/scopa/scopa/schema/Table" "schema" "Ljava/lang/String;" .null) (F_name : Fld Z h0 t_ "com/example/scopa/scopa/schema/Table" "name" "Ljava/lang/String;" .null) (F_columns : Fld Z h0 t_ "com/example/scopa/scopa/schema/Table" "columns" "Ljava/util/List;" .null) (F_primaryKey : Fld Z h0 t_ "com/example/scopa/scopa/schema/Table" "primaryKey" "Ljava/util/List;" .null) (MM : Mid Z "[Ljava/lang/Object;" mr) (SL : Sta Z Z.heap "java/util/ImmutableCollections" "EMPTY_LIST" "Ljava/util/ImmutableCollections$ListN;" (.ref aL)) (XL : Exa Z Z.heap aL "java/util/ImmutableCollections$ListN") (FL : Fld Z Z.heap aL "java/util/ImmutableCollections$ListN" "elements" "[Ljava/lang/Object;" (.ref aN)) (VN : Arv Z Z.heap aN kN (.object "java/lang/Object") (0 : Int32) [] .null) (SE : Sta Z Z.heap "java/util/ImmutableCollections" "EMPTY" "Ljava/lang/Object;" (.ref aE)) (Ex : Exa Z h0 x "com/example/scopa/scopa/schema/Column") (Ey : Exa Z h0 y "com/example/scopa/scopa/schema/Column") (El1 : Exa Z h0 l1 "java/util/ArrayList") (F3l1 : Fld Z h0 l1 "java/util/ArrayList" "size" "I" (.int 0)) (El2 : Exa Z h0 l2 "java/util/ArrayList") (F2l2 : Fld Z h0 l2 "java/util/ArrayList" "elementData" "[Ljava/lang/Object;" (.ref bl2)) (F3l2 : Fld Z h0 l2 "java/util/ArrayList" "size" "I" (.int 2)) (Ol2 : OvO Z kl2) (Vl2 : Arv Z h0 bl2 kl2 (.object "java/lang/Object") (10 : Int32) [(.ref y), (.ref x), .null, .null, .null, .null, .null, .null, .null, .null] .null) (nex : t_ ≠ x) (ney : t_ ≠ y) :
    Con l (⟨"com/example/scopa/scopa/schema/Table", "<init>", "(Ljava/lang/String;Ljava/lang/String;Ljava/util/List;Ljava/util/List;)V"⟩ : MethodName) prog_14_method_1_code 5 none ({ frames := 8, cells := 2, slots := 4, locals := 101 } : Room) Z #[(.ref t_), (.ref s1), (.ref s2), (.ref l1), (.ref l2)] h0 (fun v h L => ∃ (o_ : Addr), v = none ∧ Fr Z.heap.size L ∧ Keep h0 h [t_] ∧ h0.size ≤ o_ ∧ Fld Z h t_ "com/example/scopa/scopa/schema/Table" "primaryKey" "Ljava/util/List;" (.ref o_) ∧ Exa Z h o_ "java/util/ImmutableCollections$List12") := by
  refine Con.of (plainFor_of_name pn_35) (Ls := #[rv t_, rv s1, rv s2, rv l1, rv l2]) (fun m => efOf rfl) ?_
  intro p e s m below meth c T0 X0 hx hZ hby hml hown hnm hret hlk e0
  refine go (fun _ => XS.aloadN X0.here hx rfl (hb hby d31_0) rfl rfl) ?_
  show Ends p e below _ T0 (mkF m 1 #[rv t_, rv s1, rv s2, rv l1, rv l2] [(.ref t_)])
  refine cInit X0 hx hZ hown (by rw [hml]; rfl) e0 (hwi hw 113 rfl) (hwi hw 36 rfl) (hwi hw 38 rfl) (hwi hw 39 rfl) t_ [] [] rfl (rm_record hw t_ _) (hb hby d31_1) rfl (lenOf pd_7 rfl) rfl (by decide) (by decide) (Nat.le_of_ble_eq_true rfl) (by decide) (by decide) ?_
  rintro v693 T693 h693 L693 X693 e693 ⟨rfl, N693, rfl⟩
  have N693a := Fr.app (Fr.nil _) N693
  show Ends p e below _ T693 (mkF m 4 #[rv t_, rv s1, rv s2, rv l1, rv l2] [])
  refine go (fun _ => XS.aloadN X693.here hx rfl (hb hby d31_4) rfl rfl) ?_
  show Ends p e below _ T693 (mkF m 5 #[rv t_, rv s1, rv s2, rv l1, rv l2] [(.ref l1)])
  refine cStat X693 hx hZ hown (by rw [hml]; rfl) e693 (hwi hw 114 rfl) (hwi hw 115 rfl) (hwi hw 116 rfl) (hwi hw 117 rfl) [(.ref l1)] [] rfl (rm_co_0 hw l1 mr aL aN aE kN _ O0 MM SL XL FL VN SE El1 F3l1) (hb hby d31_5) rfl (lenOf pd_25 rfl) (by decide) (by decide) (Nat.le_of_ble_eq_true rfl) (by decide) (by decide) ?_
  rintro v694 T694 h694 L694 X694 e694 ⟨rfl, N694, rfl⟩
  have N694a := Fr.app N693a N694
  show Ends p e below _ T694 (mkF m 8 #[rv t_, rv s1, rv s2, rv l1, rv l2] [(.ref aL)])
  refine go (fun _ => XS.astoreN X694.here hx rfl (hb hby d31_8) rfl rfl (l' := #[rv t_, rv s1, rv s2, rv aL, rv l2]) rfl) ?_
  refine go (fun _ => XS.aload X694.here hx rfl (hb hby d31_9) rfl rfl) ?_
  show Ends p e below _ T694 (mkF m 11 #[rv t_, rv s1, rv s2, rv aL, rv l2] [(.ref l2)])
  refine cStat X694 hx hZ hown (by rw [hml]; rfl) e694 (hwi hw 114 rfl) (hwi hw 115 rfl) (hwi hw 116 rfl) (hwi hw 117 rfl) [(.ref l2)] [] rfl (rm_co_2 hw l2 bl2 kl2 y x mr aL aN aE kN _ O0 MM SL XL FL VN SE El2 Ol2 Vl2 Ey Ex F2l2 F3l2) (hb hby d31_11) rfl (lenOf pd_25 rfl) (by decide) (by decide) (Nat.le_of_ble_eq_true rfl) (by decide) (by decide) ?_
  rintro v695 T695 h695 L695 X695 e695 ⟨o695, rfl, N695, K695, g695, E695, Fa695, Fb695⟩
  have N695a := Fr.app N694a N695
  have K703 : Keep h0 h0 [t_] := (Keep.refl _ _)
  have b702 : h0.size ≤ o695 := Nat.le_trans (K703).1 g695
  show Ends p e below _ T695 (mkF m 14 #[rv t_, rv s1, rv s2, rv aL, rv l2] [(.ref o695)])
  refine go (fun _ => XS.astore X695.here hx rfl (hb hby d31_14) rfl rfl (l' := #[rv t_, rv s1, rv s2, rv aL, rv o695]) rfl) ?_
  refine go (fun _ => XS.aloadN X695.here hx rfl (hb hby d31_16) rfl rfl) ?_
  refine go (fun _ => XS.aloadN X695.here hx rfl (hb hby d31_17) rfl rfl) ?_
  show Ends p e below _ T695 (mkF m 18 #[rv t_, rv s1, rv s2, rv aL, rv o695] [(.ref s1), (.ref t_)])
  have F705 := (Exa.keep E0 K695)
  have F706 := (Fld.keep F_schema K695 nin0)
  obtain ⟨T707, h707, X707, e707, W707, s707⟩ := putF X695 hx hZ hown (host := "") (Or.inl (hwi hw 206 rfl)) Via.refl e695 F706 F705 (Or.inr ⟨(hwi hw 207 rfl), rfl, hnm⟩) (hwi hw 108 rfl) (ty := (.object "java/lang/String")) (by decide) rfl rfl (g := (mkF m 18 #[rv t_, rv s1, rv s2, rv aL, rv o695] [(.ref s1), (.ref t_)])) rfl rfl (hb hby d31_18)
  have N707 := Fr.snoc X707 N695a f0
  refine go s707 ?_
  show Ends p e below _ T707 (mkF m 21 #[rv t_, rv s1, rv s2, rv aL, rv o695] [])
  refine go (fun _ => XS.aloadN X707.here hx rfl (hb hby d31_21) rfl rfl) ?_
  refine go (fun _ => XS.aloadN X707.here hx rfl (hb hby d31_22) rfl rfl) ?_
  show Ends p e below _ T707 (mkF m 23 #[rv t_, rv s1, rv s2, rv aL, rv o695] [(.ref s2), (.ref t_)])
  have F709 := (Exa.wr W707 F705)
  have F710 := (Fld.other W707 (Fld.keep F_name K695 nin0) (Or.inr (slot_ne (a0 := a0) (Or.inr (hwi hw 209 rfl)) (Or.inr (hwi hw 207 rfl)) (by decide) (t := (.object "java/lang/String")) (t' := (.object "java/lang/String")) (by decide) (by decide))))
  obtain ⟨T711, h711, X711, e711, W711, s711⟩ := putF X707 hx hZ hown (host := "") (Or.inl (hwi hw 208 rfl)) Via.refl e707 F710 F709 (Or.inr ⟨(hwi hw 209 rfl), rfl, hnm⟩) (hwi hw 108 rfl) (ty := (.object "java/lang/String")) (by decide) rfl rfl (g := (mkF m 23 #[rv t_, rv s1, rv s2, rv aL, rv o695] [(.ref s2), (.ref t_)])) rfl rfl (hb hby d31_23)
  have N711 := Fr.snoc X711 N707 f0
  refine go s711 ?_
  show Ends p e below _ T711 (mkF m 26 #[rv t_, rv s1, rv s2, rv aL, rv o695] [])
  refine go (fun _ => XS.aloadN X711.here hx rfl (hb hby d31_26) rfl rfl) ?_
  refine go (fun _ => XS.aloadN X711.here hx rfl (hb hby d31_27) rfl rfl) ?_
  show Ends p e below _ T711 (mkF m 28 #[rv t_, rv s1, rv s2, rv aL, rv o695] [(.ref aL), (.ref t_)])
  have F713 := (Exa.wr W711 F709)
  have F714 := (Fld.other W711 (Fld.other W707 (Fld.keep F_columns K695 nin0) (Or.inr (slot_ne (a0 := a0) (Or.inr (hwi hw 211 rfl)) (Or.inr (hwi hw 207 rfl)) (by decide) (t := (.object "java/util/List")) (t' := (.object "java/lang/String")) (by decide) (by decide)))) (Or.inr (slot_ne (a0 := a0) (Or.inr (hwi hw 211 rfl)) (Or.inr (hwi hw 209 rfl)) (by decide) (t := (.object "java/util/List")) (t' := (.object "java/lang/String")) (by decide) (by decide))))
  obtain ⟨T715, h715, X715, e715, W715, s715⟩ := putF X711 hx hZ hown (host := "") (Or.inl (hwi hw 210 rfl)) Via.refl e711 F714 F713 (Or.inr ⟨(hwi hw 211 rfl), rfl, hnm⟩) (hwi hw 108 rfl) (ty := (.object "java/util/List")) (by decide) rfl rfl (g := (mkF m 28 #[rv t_, rv s1, rv s2, rv aL, rv o695] [(.ref aL), (.ref t_)])) rfl rfl (hb hby d31_28)
  have N715 := Fr.snoc X715 N711 f0
  refine go s715 ?_
  show Ends p e below _ T715 (mkF m 31 #[rv t_, rv s1, rv s2, rv aL, rv o695] [])
  refine go (fun _ => XS.aloadN X715.here hx rfl (hb hby d31_31) rfl rfl) ?_
  refine go (fun _ => XS.aload X715.here hx rfl (hb hby d31_32) rfl rfl) ?_
  show Ends p e below _ T715 (mkF m 34 #[rv t_, rv s1, rv s2, rv aL, rv o695] [(.ref o695), (.ref t_)])
  have F717 := (Exa.wr W715 F713)
  have F718 := (Fld.other W715 (Fld.other W711 (Fld.other W707 (Fld.keep F_primaryKey K695 nin0) (Or.inr (slot_ne (a0 := a0) (Or.inr (hwi hw 213 rfl)) (Or.inr (hwi hw 207 rfl)) (by decide) (t := (.object "java/util/List")) (t' := (.object "java/lang/String")) (by decide) (by decide)))) (Or.inr (slot_ne (a0 := a0) (Or.inr (hwi hw 213 rfl)) (Or.inr (hwi hw 209 rfl)) (by decide) (t := (.object "java/util/List")) (t' := (.object "java/lang/String")) (by decide) (by decide)))) (Or.inr (slot_ne (a0 := a0) (Or.inr (hwi hw 213 rfl)) (Or.inr (hwi hw 211 rfl)) (by decide) (t := (.object "java/util/List")) (t' := (.object "java/util/List")) (by decide) (by decide))))
  obtain ⟨T719, h719, X719, e719, W719, s719⟩ := putF X715 hx hZ hown (host := "") (Or.inl (hwi hw 212 rfl)) Via.refl e715 F718 F717 (Or.inr ⟨(hwi hw 213 rfl), rfl, hnm⟩) (hwi hw 108 rfl) (ty := (.object "java/util/List")) (by decide) rfl rfl (g := (mkF m 34 #[rv t_, rv s1, rv s2, rv aL, rv o695] [(.ref o695), (.ref t_)])) rfl rfl (hb hby d31_34)
  have N719 := Fr.snoc X719 N715 f0
  refine go s719 ?_
  show Ends p e below _ T719 (mkF m 37 #[rv t_, rv s1, rv s2, rv aL, rv o695] [])
  have F721 := (Fld.same W719 F718)
  have K722 : Keep h0 h719 [t_] := (Keep.wr (Keep.wr (Keep.wr (Keep.wr (Keep.trans K703 K695 all0) W707 (Or.inl (List.mem_of_getElem? (i := 0) rfl))) W711 (Or.inl (List.mem_of_getElem? (i := 0) rfl))) W715 (Or.inl (List.mem_of_getElem? (i := 0) rfl))) W719 (Or.inl (List.mem_of_getElem? (i := 0) rfl)))
  have F723 := (Exa.wr W719 (Exa.wr W715 (Exa.wr W711 (Exa.wr W707 E695))))
  exact endV X719 hx hret (hb hby d31_37) (lvN X719 hlk e719 (fun _ => rfl) ⟨o695, rfl, N719, K722, b702, F721, F723⟩ (by decide) (by decide))
set_option maxRecDepth 65536 in
set_option maxHeartbeats 40000000 in
theorem rm_tab_0_3 {l : Launch} {Z : State} {a0 : Array Value} (hw : ∀ d ∈ tables_1, d.before a0 Z = true) (t_ s1 s2 l1 l2 x y : Addr)  (bl2 : Addr) (kl2 : ClassId) (mr : Addr) (aL aN aE : Addr) (kN : ClassId) (h0 : Heap) (O0 : Ext Z.heap h0) (f0 : Z.heap.size ≤ t_) (E0 : Exa Z h0 t_ "com/example/scopa/scopa/schema/Table") (F_schema : Fld Z h0 t_ "com/example/scopa/scopa/schema/Table" "schema" "Ljava/lang/String;" .null) (F_name : Fld Z h0 t_ "com/example/scopa/scopa/schema/Table" "name" "Ljava/lang/String;" .null) (F_columns : Fld Z h0 t_ "com/example/scopa/scopa/schema/Table" "columns" "Ljava/util/List;" .null) (F_primaryKey : Fld Z h0 t_ "com/example/scopa/scopa/schema/Table" "primaryKey" "Ljava/util/List;" .null) (MM : Mid Z "[Ljava/lang/Object;" mr) (SL : Sta Z Z.heap "java/util/ImmutableCollections" "EMPTY_LIST" "Ljava/util/ImmutableCollections$ListN;" (.ref aL)) (XL : Exa Z Z.heap aL "java/util/ImmutableCollections$ListN") (FL : Fld Z Z.heap aL "java/util/ImmutableCollections$ListN" "elements" "[Ljava/lang/Object;" (.ref aN)) (VN : Arv Z Z.heap aN kN (.object "java/lang/Object") (0 : Int32) [] .null) (SE : Sta Z Z.heap "java/util/ImmutableCollections" "EMPTY" "Ljava/lang/Object;" (.ref aE)) (Ex : Exa Z h0 x "com/example/scopa/scopa/schema/Column") (Ey : Exa Z h0 y "com/example/scopa/scopa/schema/Column") (El1 : Exa Z h0 l1 "java/util/ArrayList") (F3l1 : Fld Z h0 l1 "java/util/ArrayList" "size" "I" (.int 0)) (El2 : Exa Z h0 l2 "java/util/ArrayList") (F2l2 : Fld Z h0 l2 "java/util/ArrayList" "elementData" "[Ljava/lang/Object;" (.ref bl2)) (F3l2 : Fld Z h0 l2 "java/util/ArrayList" "size" "I" (.int 3)) (Ol2 : OvO Z kl2) (Vl2 : Arv Z h0 bl2 kl2 (.object "java/lang/Object") (10 : Int32) [(.ref y), (.ref x), (.ref y), .null, .null, .null, .null, .null, .null, .null] .null) (nex : t_ ≠ x) (ney : t_ ≠ y) :
    Con l (⟨"com/example/scopa/scopa/schema/Table", "<init>", "(Ljava/lang/String;Ljava/lang/String;Ljava/util/List;Ljava/util/List;)V"⟩ : MethodName) prog_14_method_1_code 5 none ({ frames := 9, cells := 3, slots := 8, locals := 115 } : Room) Z #[(.ref t_), (.ref s1), (.ref s2), (.ref l1), (.ref l2)] h0 (fun v h L => ∃ (o_ r_ : Addr) (kr : ClassId), v = none ∧ Fr Z.heap.size L ∧ Keep h0 h [t_] ∧ h0.size ≤ o_ ∧ Fld Z h t_ "com/example/scopa/scopa/schema/Table" "primaryKey" "Ljava/util/List;" (.ref o_) ∧ Exa Z h o_ "java/util/ImmutableCollections$ListN" ∧ Fld Z h o_ "java/util/ImmutableCollections$ListN" "elements" "[Ljava/lang/Object;" (.ref r_) ∧ Arv Z h r_ kr (.object "java/lang/Object") (3 : Int32) [(.ref y), (.ref x), (.ref y)] .null) := by
  refine Con.of (plainFor_of_name pn_35) (Ls := #[rv t_, rv s1, rv s2, rv l1, rv l2]) (fun m => efOf rfl) ?_
  intro p e s m below meth c T0 X0 hx hZ hby hml hown hnm hret hlk e0
  refine go (fun _ => XS.aloadN X0.here hx rfl (hb hby d31_0) rfl rfl) ?_
  show Ends p e below _ T0 (mkF m 1 #[rv t_, rv s1, rv s2, rv l1, rv l2] [(.ref t_)])
  refine cInit X0 hx hZ hown (by rw [hml]; rfl) e0 (hwi hw 113 rfl) (hwi hw 36 rfl) (hwi hw 38 rfl) (hwi hw 39 rfl) t_ [] [] rfl (rm_record hw t_ _) (hb hby d31_1) rfl (lenOf pd_7 rfl) rfl (by decide) (by decide) (Nat.le_of_ble_eq_true rfl) (by decide) (by decide) ?_
  rintro v724 T724 h724 L724 X724 e724 ⟨rfl, N724, rfl⟩
  have N724a := Fr.app (Fr.nil _) N724
  show Ends p e below _ T724 (mkF m 4 #[rv t_, rv s1, rv s2, rv l1, rv l2] [])
  refine go (fun _ => XS.aloadN X724.here hx rfl (hb hby d31_4) rfl rfl) ?_
  show Ends p e below _ T724 (mkF m 5 #[rv t_, rv s1, rv s2, rv l1, rv l2] [(.ref l1)])
  refine cStat X724 hx hZ hown (by rw [hml]; rfl) e724 (hwi hw 114 rfl) (hwi hw 115 rfl) (hwi hw 116 rfl) (hwi hw 117 rfl) [(.ref l1)] [] rfl (rm_co_0 hw l1 mr aL aN aE kN _ O0 MM SL XL FL VN SE El1 F3l1) (hb hby d31_5) rfl (lenOf pd_25 rfl) (by decide) (by decide) (Nat.le_of_ble_eq_true rfl) (by decide) (by decide) ?_
  rintro v725 T725 h725 L725 X725 e725 ⟨rfl, N725, rfl⟩
  have N725a := Fr.app N724a N725
  show Ends p e below _ T725 (mkF m 8 #[rv t_, rv s1, rv s2, rv l1, rv l2] [(.ref aL)])
  refine go (fun _ => XS.astoreN X725.here hx rfl (hb hby d31_8) rfl rfl (l' := #[rv t_, rv s1, rv s2, rv aL, rv l2]) rfl) ?_
  refine go (fun _ => XS.aload X725.here hx rfl (hb hby d31_9) rfl rfl) ?_
  show Ends p e below _ T725 (mkF m 11 #[rv t_, rv s1, rv s2, rv aL, rv l2] [(.ref l2)])
  refine cStat X725 hx hZ hown (by rw [hml]; rfl) e725 (hwi hw 114 rfl) (hwi hw 115 rfl) (hwi hw 116 rfl) (hwi hw 117 rfl) [(.ref l2)] [] rfl (rm_co_3 hw l2 bl2 kl2 y x y mr aL aN aE kN _ O0 MM SL XL FL VN SE El2 Ol2 Vl2 Ey Ex Ey F2l2 F3l2) (hb hby d31_11) rfl (lenOf pd_25 rfl) (by decide) (by decide) (Nat.le_of_ble_eq_true rfl) (by decide) (by decide) ?_
  rintro v726 T726 h726 L726 X726 e726 ⟨o726, r726, kr726, rfl, N726, K726, g726, gr726, E726, Fa726, Fb726⟩
  have N726a := Fr.app N725a N726
  have n730 : t_ ≠ o726 := Nat.ne_of_lt (Nat.lt_of_lt_of_le (E0.lt) g726)
  have K734 : Keep h0 h0 [t_] := (Keep.refl _ _)
  have b733 : h0.size ≤ o726 := Nat.le_trans (K734).1 g726
  have n738 : t_ ≠ r726 := Nat.ne_of_lt (Nat.lt_of_lt_of_le (E0.lt) gr726)
  show Ends p e below _ T726 (mkF m 14 #[rv t_, rv s1, rv s2, rv aL, rv l2] [(.ref o726)])
  refine go (fun _ => XS.astore X726.here hx rfl (hb hby d31_14) rfl rfl (l' := #[rv t_, rv s1, rv s2, rv aL, rv o726]) rfl) ?_
  refine go (fun _ => XS.aloadN X726.here hx rfl (hb hby d31_16) rfl rfl) ?_
  refine go (fun _ => XS.aloadN X726.here hx rfl (hb hby d31_17) rfl rfl) ?_
  show Ends p e below _ T726 (mkF m 18 #[rv t_, rv s1, rv s2, rv aL, rv o726] [(.ref s1), (.ref t_)])
  have F743 := (Exa.keep E0 K726)
  have F744 := (Fld.keep F_schema K726 nin0)
  obtain ⟨T745, h745, X745, e745, W745, s745⟩ := putF X726 hx hZ hown (host := "") (Or.inl (hwi hw 206 rfl)) Via.refl e726 F744 F743 (Or.inr ⟨(hwi hw 207 rfl), rfl, hnm⟩) (hwi hw 108 rfl) (ty := (.object "java/lang/String")) (by decide) rfl rfl (g := (mkF m 18 #[rv t_, rv s1, rv s2, rv aL, rv o726] [(.ref s1), (.ref t_)])) rfl rfl (hb hby d31_18)
  have N745 := Fr.snoc X745 N726a f0
  refine go s745 ?_
  show Ends p e below _ T745 (mkF m 21 #[rv t_, rv s1, rv s2, rv aL, rv o726] [])
  refine go (fun _ => XS.aloadN X745.here hx rfl (hb hby d31_21) rfl rfl) ?_
  refine go (fun _ => XS.aloadN X745.here hx rfl (hb hby d31_22) rfl rfl) ?_
  show Ends p e below _ T745 (mkF m 23 #[rv t_, rv s1, rv s2, rv aL, rv o726] [(.ref s2), (.ref t_)])
  have F747 := (Exa.wr W745 F743)
  have F748 := (Fld.other W745 (Fld.keep F_name K726 nin0) (Or.inr (slot_ne (a0 := a0) (Or.inr (hwi hw 209 rfl)) (Or.inr (hwi hw 207 rfl)) (by decide) (t := (.object "java/lang/String")) (t' := (.object "java/lang/String")) (by decide) (by decide))))
  obtain ⟨T749, h749, X749, e749, W749, s749⟩ := putF X745 hx hZ hown (host := "") (Or.inl (hwi hw 208 rfl)) Via.refl e745 F748 F747 (Or.inr ⟨(hwi hw 209 rfl), rfl, hnm⟩) (hwi hw 108 rfl) (ty := (.object "java/lang/String")) (by decide) rfl rfl (g := (mkF m 23 #[rv t_, rv s1, rv s2, rv aL, rv o726] [(.ref s2), (.ref t_)])) rfl rfl (hb hby d31_23)
  have N749 := Fr.snoc X749 N745 f0
  refine go s749 ?_
  show Ends p e below _ T749 (mkF m 26 #[rv t_, rv s1, rv s2, rv aL, rv o726] [])
  refine go (fun _ => XS.aloadN X749.here hx rfl (hb hby d31_26) rfl rfl) ?_
  refine go (fun _ => XS.aloadN X749.here hx rfl (hb hby d31_27) rfl rfl) ?_
  show Ends p e below _ T749 (mkF m 28 #[rv t_, rv s1, rv s2, rv aL, rv o726] [(.ref aL), (.ref t_)])
  have F751 := (Exa.wr W749 F747)
  have F752 := (Fld.other W749 (Fld.other W745 (Fld.keep F_columns K726 nin0) (Or.inr (slot_ne (a0 := a0) (Or.inr (hwi hw 211 rfl)) (Or.inr (hwi hw 207 rfl)) (by decide) (t := (.object "java/util/List")) (t' := (.object "java/lang/String")) (by decide) (by decide)))) (Or.inr (slot_ne (a0 := a0) (Or.inr (hwi hw 211 rfl)) (Or.inr (hwi hw 209 rfl)) (by decide) (t := (.object "java/util/List")) (t' := (.object "java/lang/String")) (by decide) (by decide))))
  obtain ⟨T753, h753, X753, e753, W753, s753⟩ := putF X749 hx hZ hown (host := "") (Or.inl (hwi hw 210 rfl)) Via.refl e749 F752 F751 (Or.inr ⟨(hwi hw 211 rfl), rfl, hnm⟩) (hwi hw 108 rfl) (ty := (.object "java/util/List")) (by decide) rfl rfl (g := (mkF m 28 #[rv t_, rv s1, rv s2, rv aL, rv o726] [(.ref aL), (.ref t_)])) rfl rfl (hb hby d31_28)
  have N753 := Fr.snoc X753 N749 f0
  refine go s753 ?_
  show Ends p e below _ T753 (mkF m 31 #[rv t_, rv s1, rv s2, rv aL, rv o726] [])
  refine go (fun _ => XS.aloadN X753.here hx rfl (hb hby d31_31) rfl rfl) ?_
  refine go (fun _ => XS.aload X753.here hx rfl (hb hby d31_32) rfl rfl) ?_
  show Ends p e below _ T753 (mkF m 34 #[rv t_, rv s1, rv s2, rv aL, rv o726] [(.ref o726), (.ref t_)])
  have F755 := (Exa.wr W753 F751)
  have F756 := (Fld.other W753 (Fld.other W749 (Fld.other W745 (Fld.keep F_primaryKey K726 nin0) (Or.inr (slot_ne (a0 := a0) (Or.inr (hwi hw 213 rfl)) (Or.inr (hwi hw 207 rfl)) (by decide) (t := (.object "java/util/List")) (t' := (.object "java/lang/String")) (by decide) (by decide)))) (Or.inr (slot_ne (a0 := a0) (Or.inr (hwi hw 213 rfl)) (Or.inr (hwi hw 209 rfl)) (by decide) (t := (.object "java/util/List")) (t' := (.object "java/lang/String")) (by decide) (by decide)))) (Or.inr (slot_ne (a0 := a0) (Or.inr (hwi hw 213 rfl)) (Or.inr (hwi hw 211 rfl)) (by decide) (t := (.object "java/util/List")) (t' := (.object "java/util/List")) (by decide) (by decide))))
  obtain ⟨T757, h757, X757, e757, W757, s757⟩ := putF X753 hx hZ hown (host := "") (Or.inl (hwi hw 212 rfl)) Via.refl e753 F756 F755 (Or.inr ⟨(hwi hw 213 rfl), rfl, hnm⟩) (hwi hw 108 rfl) (ty := (.object "java/util/List")) (by decide) rfl rfl (g := (mkF m 34 #[rv t_, rv s1, rv s2, rv aL, rv o726] [(.ref o726), (.ref t_)])) rfl rfl (hb hby d31_34)
  have N757 := Fr.snoc X757 N753 f0
  refine go s757 ?_
  show Ends p e below _ T757 (mkF m 37 #[rv t_, rv s1, rv s2, rv aL, rv o726] [])
  have F759 := (Fld.same W757 F756)
  have K760 : Keep h0 h757 [t_] := (Keep.wr (Keep.wr (Keep.wr (Keep.wr (Keep.trans K734 K726 all0) W745 (Or.inl (List.mem_of_getElem? (i := 0) rfl))) W749 (Or.inl (List.mem_of_getElem? (i := 0) rfl))) W753 (Or.inl (List.mem_of_getElem? (i := 0) rfl))) W757 (Or.inl (List.mem_of_getElem? (i := 0) rfl)))
  have F761 := (Exa.wr W757 (Exa.wr W753 (Exa.wr W749 (Exa.wr W745 E726))))
  have F762 := (Fld.other W757 (Fld.other W753 (Fld.other W749 (Fld.other W745 Fa726 (Or.inl (Ne.symm n730))) (Or.inl (Ne.symm n730))) (Or.inl (Ne.symm n730))) (Or.inl (Ne.symm n730)))
  have F763 := (Arv.other (Arv.other (Arv.other (Arv.other Fb726 W745 (Ne.symm n738)) W749 (Ne.symm n738)) W753 (Ne.symm n738)) W757 (Ne.symm n738))
  exact endV X757 hx hret (hb hby d31_37) (lvN X757 hlk e757 (fun _ => rfl) ⟨o726, r726, _, rfl, N757, K760, b733, F759, F761, F762, F763⟩ (by decide) (by decide))
set_option maxRecDepth 65536 in
set_option maxHeartbeats 40000000 in
theorem rm_tab_1_0 {l : Launch} {Z : State} {a0 : Array Value} (hw : ∀ d ∈ tables_1, d.before a0 Z = true) (t_ s1 s2 l1 l2 x y : Addr) (bl1 : Addr) (kl1 : ClassId)  (mr : Addr) (aL aN aE : Addr) (kN : ClassId) (h0 : Heap) (O0 : Ext Z.heap h0) (f0 : Z.heap.size ≤ t_) (E0 : Exa Z h0 t_ "com/example/scopa/scopa/schema/Table") (F_schema : Fld Z h0 t_ "com/example/scopa/scopa/schema/Table" "schema" "Ljava/lang/String;" .null) (F_name : Fld Z h0 t_ "com/example/scopa/scopa/schema/Table" "name" "Ljava/lang/String;" .null) (F_columns : Fld Z h0 t_ "com/example/scopa/scopa/schema/Table" "columns" "Ljava/util/List;" .null) (F_primaryKey : Fld Z h0 t_ "com/example/scopa/scopa/schema/Table" "primaryKey" "Ljava/util/List;" .null) (MM : Mid Z "[Ljava/lang/Object;" mr) (SL : Sta Z Z.heap "java/util/ImmutableCollections" "EMPTY_LIST" "Ljava/util/ImmutableCollections$ListN;" (.ref aL)) (XL : Exa Z Z.heap aL "java/util/ImmutableCollections$ListN") (FL : Fld Z Z.heap aL "java/util/ImmutableCollections$ListN" "elements" "[Ljava/lang/Object;" (.ref aN)) (VN : Arv Z Z.heap aN kN (.object "java/lang/Object") (0 : Int32) [] .null) (SE : Sta Z Z.heap "java/util/ImmutableCollections" "EMPTY" "Ljava/lang/Object;" (.ref aE)) (Ex : Exa Z h0 x "com/example/scopa/scopa/schema/Column") (Ey : Exa Z h0 y "com/example/scopa/scopa/schema/Column") (El1 : Exa Z h0 l1 "java/util/ArrayList") (F2l1 : Fld Z h0 l1 "java/util/ArrayList" "elementData" "[Ljava/lang/Object;" (.ref bl1)) (F3l1 : Fld Z h0 l1 "java/util/ArrayList" "size" "I" (.int 1)) (Ol1 : OvO Z kl1) (Vl1 : Arv Z h0 bl1 kl1 (.object "java/lang/Object") (10 : Int32) [(.ref x), .null, .null, .null, .null, .null, .null, .null, .null, .null] .null) (El2 : Exa Z h0 l2 "java/util/ArrayList") (F3l2 : Fld Z h0 l2 "java/util/ArrayList" "size" "I" (.int 0)) (nex : t_ ≠ x) (ney : t_ ≠ y) :
    Con l (⟨"com/example/scopa/scopa/schema/Table", "<init>", "(Ljava/lang/String;Ljava/lang/String;Ljava/util/List;Ljava/util/List;)V"⟩ : MethodName) prog_14_method_1_code 5 none ({ frames := 8, cells := 2, slots := 3, locals := 100 } : Room) Z #[(.ref t_), (.ref s1), (.ref s2), (.ref l1), (.ref l2)] h0 (fun v h L => v = none ∧ Fr Z.heap.size L ∧ Keep h0 h [t_] ∧ Fld Z h t_ "com/example/scopa/scopa/schema/Table" "primaryKey" "Ljava/util/List;" (.ref aL)) := by
  refine Con.of (plainFor_of_name pn_35) (Ls := #[rv t_, rv s1, rv s2, rv l1, rv l2]) (fun m => efOf rfl) ?_
  intro p e s m below meth c T0 X0 hx hZ hby hml hown hnm hret hlk e0
  refine go (fun _ => XS.aloadN X0.here hx rfl (hb hby d31_0) rfl rfl) ?_
  show Ends p e below _ T0 (mkF m 1 #[rv t_, rv s1, rv s2, rv l1, rv l2] [(.ref t_)])
  refine cInit X0 hx hZ hown (by rw [hml]; rfl) e0 (hwi hw 113 rfl) (hwi hw 36 rfl) (hwi hw 38 rfl) (hwi hw 39 rfl) t_ [] [] rfl (rm_record hw t_ _) (hb hby d31_1) rfl (lenOf pd_7 rfl) rfl (by decide) (by decide) (Nat.le_of_ble_eq_true rfl) (by decide) (by decide) ?_
  rintro v764 T764 h764 L764 X764 e764 ⟨rfl, N764, rfl⟩
  have N764a := Fr.app (Fr.nil _) N764
  show Ends p e below _ T764 (mkF m 4 #[rv t_, rv s1, rv s2, rv l1, rv l2] [])
  refine go (fun _ => XS.aloadN X764.here hx rfl (hb hby d31_4) rfl rfl) ?_
  show Ends p e below _ T764 (mkF m 5 #[rv t_, rv s1, rv s2, rv l1, rv l2] [(.ref l1)])
  refine cStat X764 hx hZ hown (by rw [hml]; rfl) e764 (hwi hw 114 rfl) (hwi hw 115 rfl) (hwi hw 116 rfl) (hwi hw 117 rfl) [(.ref l1)] [] rfl (rm_co_1 hw l1 bl1 kl1 x mr aL aN aE kN _ O0 MM SL XL FL VN SE El1 Ol1 Vl1 Ex F2l1 F3l1) (hb hby d31_5) rfl (lenOf pd_25 rfl) (by decide) (by decide) (Nat.le_of_ble_eq_true rfl) (by decide) (by decide) ?_
  rintro v765 T765 h765 L765 X765 e765 ⟨o765, rfl, N765, K765, g765, E765, Fa765, Fb765⟩
  have N765a := Fr.app N764a N765
  have K773 : Keep h0 h0 [t_] := (Keep.refl _ _)
  have O774 : Ext Z.heap h765 := xk O0 K765 all0
  show Ends p e below _ T765 (mkF m 8 #[rv t_, rv s1, rv s2, rv l1, rv l2] [(.ref o765)])
  refine go (fun _ => XS.astoreN X765.here hx rfl (hb hby d31_8) rfl rfl (l' := #[rv t_, rv s1, rv s2, rv o765, rv l2]) rfl) ?_
  refine go (fun _ => XS.aload X765.here hx rfl (hb hby d31_9) rfl rfl) ?_
  show Ends p e below _ T765 (mkF m 11 #[rv t_, rv s1, rv s2, rv o765, rv l2] [(.ref l2)])
  have F775 := (Exa.keep El2 K765)
  have F776 := (Fld.keep F3l2 K765 nin0)
  refine cStat X765 hx hZ hown (by rw [hml]; rfl) e765 (hwi hw 114 rfl) (hwi hw 115 rfl) (hwi hw 116 rfl) (hwi hw 117 rfl) [(.ref l2)] [] rfl (rm_co_0 hw l2 mr aL aN aE kN _ O774 MM SL XL FL VN SE F775 F776) (hb hby d31_11) rfl (lenOf pd_25 rfl) (by decide) (by decide) (Nat.le_of_ble_eq_true rfl) (by decide) (by decide) ?_
  rintro v777 T777 h777 L777 X777 e777 ⟨rfl, N777, rfl⟩
  have N777a := Fr.app N765a N777
  show Ends p e below _ T777 (mkF m 14 #[rv t_, rv s1, rv s2, rv o765, rv l2] [(.ref aL)])
  refine go (fun _ => XS.astore X777.here hx rfl (hb hby d31_14) rfl rfl (l' := #[rv t_, rv s1, rv s2, rv o765, rv aL]) rfl) ?_
  refine go (fun _ => XS.aloadN X777.here hx rfl (hb hby d31_16) rfl rfl) ?_
  refine go (fun _ => XS.aloadN X777.here hx rfl (hb hby d31_17) rfl rfl) ?_
  show Ends p e below _ T777 (mkF m 18 #[rv t_, rv s1, rv s2, rv o765, rv aL] [(.ref s1), (.ref t_)])
  have F778 := (Exa.keep E0 K765)
  have F779 := (Fld.keep F_schema K765 nin0)
  obtain ⟨T780, h780, X780, e780, W780, s780⟩ := putF X777 hx hZ hown (host := "") (Or.inl (hwi hw 206 rfl)) Via.refl e777 F779 F778 (Or.inr ⟨(hwi hw 207 rfl), rfl, hnm⟩) (hwi hw 108 rfl) (ty := (.object "java/lang/String")) (by decide) rfl rfl (g := (mkF m 18 #[rv t_, rv s1, rv s2, rv o765, rv aL] [(.ref s1), (.ref t_)])) rfl rfl (hb hby d31_18)
  have N780 := Fr.snoc X780 N777a f0
  refine go s780 ?_
  show Ends p e below _ T780 (mkF m 21 #[rv t_, rv s1, rv s2, rv o765, rv aL] [])
  refine go (fun _ => XS.aloadN X780.here hx rfl (hb hby d31_21) rfl rfl) ?_
  refine go (fun _ => XS.aloadN X780.here hx rfl (hb hby d31_22) rfl rfl) ?_
  show Ends p e below _ T780 (mkF m 23 #[rv t_, rv s1, rv s2, rv o765, rv aL] [(.ref s2), (.ref t_)])
  have F782 := (Exa.wr W780 F778)
  have F783 := (Fld.other W780 (Fld.keep F_name K765 nin0) (Or.inr (slot_ne (a0 := a0) (Or.inr (hwi hw 209 rfl)) (Or.inr (hwi hw 207 rfl)) (by decide) (t := (.object "java/lang/String")) (t' := (.object "java/lang/String")) (by decide) (by decide))))
  obtain ⟨T784, h784, X784, e784, W784, s784⟩ := putF X780 hx hZ hown (host := "") (Or.inl (hwi hw 208 rfl)) Via.refl e780 F783 F782 (Or.inr ⟨(hwi hw 209 rfl), rfl, hnm⟩) (hwi hw 108 rfl) (ty := (.object "java/lang/String")) (by decide) rfl rfl (g := (mkF m 23 #[rv t_, rv s1, rv s2, rv o765, rv aL] [(.ref s2), (.ref t_)])) rfl rfl (hb hby d31_23)
  have N784 := Fr.snoc X784 N780 f0
  refine go s784 ?_
  show Ends p e below _ T784 (mkF m 26 #[rv t_, rv s1, rv s2, rv o765, rv aL] [])
  refine go (fun _ => XS.aloadN X784.here hx rfl (hb hby d31_26) rfl rfl) ?_
  refine go (fun _ => XS.aloadN X784.here hx rfl (hb hby d31_27) rfl rfl) ?_
  show Ends p e below _ T784 (mkF m 28 #[rv t_, rv s1, rv s2, rv o765, rv aL] [(.ref o765), (.ref t_)])
  have F786 := (Exa.wr W784 F782)
  have F787 := (Fld.other W784 (Fld.other W780 (Fld.keep F_columns K765 nin0) (Or.inr (slot_ne (a0 := a0) (Or.inr (hwi hw 211 rfl)) (Or.inr (hwi hw 207 rfl)) (by decide) (t := (.object "java/util/List")) (t' := (.object "java/lang/String")) (by decide) (by decide)))) (Or.inr (slot_ne (a0 := a0) (Or.inr (hwi hw 211 rfl)) (Or.inr (hwi hw 209 rfl)) (by decide) (t := (.object "java/util/List")) (t' := (.object "java/lang/String")) (by decide) (by decide))))
  obtain ⟨T788, h788, X788, e788, W788, s788⟩ := putF X784 hx hZ hown (host := "") (Or.inl (hwi hw 210 rfl)) Via.refl e784 F787 F786 (Or.inr ⟨(hwi hw 211 rfl), rfl, hnm⟩) (hwi hw 108 rfl) (ty := (.object "java/util/List")) (by decide) rfl rfl (g := (mkF m 28 #[rv t_, rv s1, rv s2, rv o765, rv aL] [(.ref o765), (.ref t_)])) rfl rfl (hb hby d31_28)
  have N788 := Fr.snoc X788 N784 f0
  refine go s788 ?_
  show Ends p e below _ T788 (mkF m 31 #[rv t_, rv s1, rv s2, rv o765, rv aL] [])
  refine go (fun _ => XS.aloadN X788.here hx rfl (hb hby d31_31) rfl rfl) ?_
  refine go (fun _ => XS.aload X788.here hx rfl (hb hby d31_32) rfl rfl) ?_
  show Ends p e below _ T788 (mkF m 34 #[rv t_, rv s1, rv s2, rv o765, rv aL] [(.ref aL), (.ref t_)])
  have F790 := (Exa.wr W788 F786)
  have F791 := (Fld.other W788 (Fld.other W784 (Fld.other W780 (Fld.keep F_primaryKey K765 nin0) (Or.inr (slot_ne (a0 := a0) (Or.inr (hwi hw 213 rfl)) (Or.inr (hwi hw 207 rfl)) (by decide) (t := (.object "java/util/List")) (t' := (.object "java/lang/String")) (by decide) (by decide)))) (Or.inr (slot_ne (a0 := a0) (Or.inr (hwi hw 213 rfl)) (Or.inr (hwi hw 209 rfl)) (by decide) (t := (.object "java/util/List")) (t' := (.object "java/lang/String")) (by decide) (by decide)))) (Or.inr (slot_ne (a0 := a0) (Or.inr (hwi hw 213 rfl)) (Or.inr (hwi hw 211 rfl)) (by decide) (t := (.object "java/util/List")) (t' := (.object "java/util/List")) (by decide) (by decide))))
  obtain ⟨T792, h792, X792, e792, W792, s792⟩ := putF X788 hx hZ hown (host := "") (Or.inl (hwi hw 212 rfl)) Via.refl e788 F791 F790 (Or.inr ⟨(hwi hw 213 rfl), rfl, hnm⟩) (hwi hw 108 rfl) (ty := (.object "java/util/List")) (by decide) rfl rfl (g := (mkF m 34 #[rv t_, rv s1, rv s2, rv o765, rv aL] [(.ref aL), (.ref t_)])) rfl rfl (hb hby d31_34)
  have N792 := Fr.snoc X792 N788 f0
  refine go s792 ?_
  show Ends p e below _ T792 (mkF m 37 #[rv t_, rv s1, rv s2, rv o765, rv aL] [])
  have F794 := (Fld.same W792 F791)
  have K795 : Keep h0 h792 [t_] := (Keep.wr (Keep.wr (Keep.wr (Keep.wr (Keep.trans K773 K765 all0) W780 (Or.inl (List.mem_of_getElem? (i := 0) rfl))) W784 (Or.inl (List.mem_of_getElem? (i := 0) rfl))) W788 (Or.inl (List.mem_of_getElem? (i := 0) rfl))) W792 (Or.inl (List.mem_of_getElem? (i := 0) rfl)))
  exact endV X792 hx hret (hb hby d31_37) (lvN X792 hlk e792 (fun _ => rfl) ⟨rfl, N792, K795, F794⟩ (by decide) (by decide))
set_option maxRecDepth 65536 in
set_option maxHeartbeats 40000000 in
theorem rm_tab_1_1 {l : Launch} {Z : State} {a0 : Array Value} (hw : ∀ d ∈ tables_1, d.before a0 Z = true) (t_ s1 s2 l1 l2 x y : Addr) (bl1 : Addr) (kl1 : ClassId) (bl2 : Addr) (kl2 : ClassId) (mr : Addr) (aL aN aE : Addr) (kN : ClassId) (h0 : Heap) (O0 : Ext Z.heap h0) (f0 : Z.heap.size ≤ t_) (E0 : Exa Z h0 t_ "com/example/scopa/scopa/schema/Table") (F_schema : Fld Z h0 t_ "com/example/scopa/scopa/schema/Table" "schema" "Ljava/lang/String;" .null) (F_name : Fld Z h0 t_ "com/example/scopa/scopa/schema/Table" "name" "Ljava/lang/String;" .null) (F_columns : Fld Z h0 t_ "com/example/scopa/scopa/schema/Table" "columns" "Ljava/util/List;" .null) (F_primaryKey : Fld Z h0 t_ "com/example/scopa/scopa/schema/Table" "primaryKey" "Ljava/util/List;" .null) (MM : Mid Z "[Ljava/lang/Object;" mr) (SL : Sta Z Z.heap "java/util/ImmutableCollections" "EMPTY_LIST" "Ljava/util/ImmutableCollections$ListN;" (.ref aL)) (XL : Exa Z Z.heap aL "java/util/ImmutableCollections$ListN") (FL : Fld Z Z.heap aL "java/util/ImmutableCollections$ListN" "elements" "[Ljava/lang/Object;" (.ref aN)) (VN : Arv Z Z.heap aN kN (.object "java/lang/Object") (0 : Int32) [] .null) (SE : Sta Z Z.heap "java/util/ImmutableCollections" "EMPTY" "Ljava/lang/Object;" (.ref aE)) (Ex : Exa Z h0 x "com/example/scopa/scopa/schema/Column") (Ey : Exa Z h0 y "com/example/scopa/scopa/schema/Column") (El1 : Exa Z h0 l1 "java/util/ArrayList") (F2l1 : Fld Z h0 l1 "java/util/ArrayList" "elementData" "[Ljava/lang/Object;" (.ref bl1)) (F3l1 : Fld Z h0 l1 "java/util/ArrayList" "size" "I" (.int 1)) (Ol1 : OvO Z kl1) (Vl1 : Arv Z h0 bl1 kl1 (.object "java/lang/Object") (10 : Int32) [(.ref x), .null, .null, .null, .null, .null, .null, .null, .null, .null] .null) (El2 : Exa Z h0 l2 "java/util/ArrayList") (F2l2 : Fld Z h0 l2 "java/util/ArrayList" "elementData" "[Ljava/lang/Object;" (.ref bl2)) (F3l2 : Fld Z h0 l2 "java/util/ArrayList" "size" "I" (.int 1)) (Ol2 : OvO Z kl2) (Vl2 : Arv Z h0 bl2 kl2 (.object "java/lang/Object") (10 : Int32) [(.ref y), .null, .null, .null, .null, .null, .null, .null, .null, .null] .null) (nex : t_ ≠ x) (ney : t_ ≠ y) :
    Con l (⟨"com/example/scopa/scopa/schema/Table", "<init>", "(Ljava/lang/String;Ljava/lang/String;Ljava/util/List;Ljava/util/List;)V"⟩ : MethodName) prog_14_method_1_code 5 none ({ frames := 8, cells := 4, slots := 6, locals := 100 } : Room) Z #[(.ref t_), (.ref s1), (.ref s2), (.ref l1), (.ref l2)] h0 (fun v h L => ∃ (o_ : Addr), v = none ∧ Fr Z.heap.size L ∧ Keep h0 h [t_] ∧ h0.size ≤ o_ ∧ Fld Z h t_ "com/example/scopa/scopa/schema/Table" "primaryKey" "Ljava/util/List;" (.ref o_) ∧ Exa Z h o_ "java/util/ImmutableCollections$List12") := by
  refine Con.of (plainFor_of_name pn_35) (Ls := #[rv t_, rv s1, rv s2, rv l1, rv l2]) (fun m => efOf rfl) ?_
  intro p e s m below meth c T0 X0 hx hZ hby hml hown hnm hret hlk e0
  refine go (fun _ => XS.aloadN X0.here hx rfl (hb hby d31_0) rfl rfl) ?_
  show Ends p e below _ T0 (mkF m 1 #[rv t_, rv s1, rv s2, rv l1, rv l2] [(.ref t_)])
  refine cInit X0 hx hZ hown (by rw [hml]; rfl) e0 (hwi hw 113 rfl) (hwi hw 36 rfl) (hwi hw 38 rfl) (hwi hw 39 rfl) t_ [] [] rfl (rm_record hw t_ _) (hb hby d31_1) rfl (lenOf pd_7 rfl) rfl (by decide) (by decide) (Nat.le_of_ble_eq_true rfl) (by decide) (by decide) ?_
  rintro v796 T796 h796 L796 X796 e796 ⟨rfl, N796, rfl⟩
  have N796a := Fr.app (Fr.nil _) N796
  show Ends p e below _ T796 (mkF m 4 #[rv t_, rv s1, rv s2, rv l1, rv l2] [])
  refine go (fun _ => XS.aloadN X796.here hx rfl (hb hby d31_4) rfl rfl) ?_
  show Ends p e below _ T796 (mkF m 5 #[rv t_, rv s1, rv s2, rv l1, rv l2] [(.ref l1)])
  refine cStat X796 hx hZ hown (by rw [hml]; rfl) e796 (hwi hw 114 rfl) (hwi hw 115 rfl) (hwi hw 116 rfl) (hwi hw 117 rfl) [(.ref l1)] [] rfl (rm_co_1 hw l1 bl1 kl1 x mr aL aN aE kN _ O0 MM SL XL FL VN SE El1 Ol1 Vl1 Ex F2l1 F3l1) (hb hby d31_5) rfl (lenOf pd_25 rfl) (by decide) (by decide) (Nat.le_of_ble_eq_true rfl) (by decide) (by decide) ?_
  rintro v797 T797 h797 L797 X797 e797 ⟨o797, rfl, N797, K797, g797, E797, Fa797, Fb797⟩
  have N797a := Fr.app N796a N797
  have K806 : Keep h0 h0 [t_] := (Keep.refl _ _)
  have O807 : Ext Z.heap h797 := xk O0 K797 all0
  show Ends p e below _ T797 (mkF m 8 #[rv t_, rv s1, rv s2, rv l1, rv l2] [(.ref o797)])
  refine go (fun _ => XS.astoreN X797.here hx rfl (hb hby d31_8) rfl rfl (l' := #[rv t_, rv s1, rv s2, rv o797, rv l2]) rfl) ?_
  refine go (fun _ => XS.aload X797.here hx rfl (hb hby d31_9) rfl rfl) ?_
  show Ends p e below _ T797 (mkF m 11 #[rv t_, rv s1, rv s2, rv o797, rv l2] [(.ref l2)])
  have F808 := (Exa.keep El2 K797)
  have F809 := (Arv.keep Vl2 K797 nin0)
  have F810 := (Exa.keep Ey K797)
  have F811 := (Fld.keep F2l2 K797 nin0)
  have F812 := (Fld.keep F3l2 K797 nin0)
  refine cStat X797 hx hZ hown (by rw [hml]; rfl) e797 (hwi hw 114 rfl) (hwi hw 115 rfl) (hwi hw 116 rfl) (hwi hw 117 rfl) [(.ref l2)] [] rfl (rm_co_1 hw l2 bl2 kl2 y mr aL aN aE kN _ O807 MM SL XL FL VN SE F808 Ol2 F809 F810 F811 F812) (hb hby d31_11) rfl (lenOf pd_25 rfl) (by decide) (by decide) (Nat.le_of_ble_eq_true rfl) (by decide) (by decide) ?_
  rintro v813 T813 h813 L813 X813 e813 ⟨o813, rfl, N813, K813, g813, E813, Fa813, Fb813⟩
  have N813a := Fr.app N797a N813
  have F821 := (Exa.keep E0 K797)
  have K827 : Keep h0 h797 [t_] := (Keep.trans K806 K797 all0)
  have b826 : h0.size ≤ o813 := Nat.le_trans (K827).1 g813
  show Ends p e below _ T813 (mkF m 14 #[rv t_, rv s1, rv s2, rv o797, rv l2] [(.ref o813)])
  refine go (fun _ => XS.astore X813.here hx rfl (hb hby d31_14) rfl rfl (l' := #[rv t_, rv s1, rv s2, rv o797, rv o813]) rfl) ?_
  refine go (fun _ => XS.aloadN X813.here hx rfl (hb hby d31_16) rfl rfl) ?_
  refine go (fun _ => XS.aloadN X813.here hx rfl (hb hby d31_17) rfl rfl) ?_
  show Ends p e below _ T813 (mkF m 18 #[rv t_, rv s1, rv s2, rv o797, rv o813] [(.ref s1), (.ref t_)])
  have F829 := (Exa.keep F821 K813)
  have F830 := (Fld.keep (Fld.keep F_schema K797 nin0) K813 nin0)
  obtain ⟨T831, h831, X831, e831, W831, s831⟩ := putF X813 hx hZ hown (host := "") (Or.inl (hwi hw 206 rfl)) Via.refl e813 F830 F829 (Or.inr ⟨(hwi hw 207 rfl), rfl, hnm⟩) (hwi hw 108 rfl) (ty := (.object "java/lang/String")) (by decide) rfl rfl (g := (mkF m 18 #[rv t_, rv s1, rv s2, rv o797, rv o813] [(.ref s1), (.ref t_)])) rfl rfl (hb hby d31_18)
  have N831 := Fr.snoc X831 N813a f0
  refine go s831 ?_
  show Ends p e below _ T831 (mkF m 21 #[rv t_, rv s1, rv s2, rv o797, rv o813] [])
  refine go (fun _ => XS.aloadN X831.here hx rfl (hb hby d31_21) rfl rfl) ?_
  refine go (fun _ => XS.aloadN X831.here hx rfl (hb hby d31_22) rfl rfl) ?_
  show Ends p e below _ T831 (mkF m 23 #[rv t_, rv s1, rv s2, rv o797, rv o813] [(.ref s2), (.ref t_)])
  have F833 := (Exa.wr W831 F829)
  have F834 := (Fld.other W831 (Fld.keep (Fld.keep F_name K797 nin0) K813 nin0) (Or.inr (slot_ne (a0 := a0) (Or.inr (hwi hw 209 rfl)) (Or.inr (hwi hw 207 rfl)) (by decide) (t := (.object "java/lang/String")) (t' := (.object "java/lang/String")) (by decide) (by decide))))
  obtain ⟨T835, h835, X835, e835, W835, s835⟩ := putF X831 hx hZ hown (host := "") (Or.inl (hwi hw 208 rfl)) Via.refl e831 F834 F833 (Or.inr ⟨(hwi hw 209 rfl), rfl, hnm⟩) (hwi hw 108 rfl) (ty := (.object "java/lang/String")) (by decide) rfl rfl (g := (mkF m 23 #[rv t_, rv s1, rv s2, rv o797, rv o813] [(.ref s2), (.ref t_)])) rfl rfl (hb hby d31_23)
  have N835 := Fr.snoc X835 N831 f0
  refine go s835 ?_
  show Ends p e below _ T835 (mkF m 26 #[rv t_, rv s1, rv s2, rv o797, rv o813] [])
  refine go (fun _ => XS.aloadN X835.here hx rfl (hb hby d31_26) rfl rfl) ?_
  refine go (fun _ => XS.aloadN X835.here hx rfl (hb hby d31_27) rfl rfl) ?_
  show Ends p e below _ T835 (mkF m 28 #[rv t_, rv s1, rv s2, rv o797, rv o813] [(.ref o797), (.ref t_)])
  have F837 := (Exa.wr W835 F833)
  have F838 := (Fld.other W835 (Fld.other W831 (Fld.keep (Fld.keep F_columns K797 nin0) K813 nin0) (Or.inr (slot_ne (a0 := a0) (Or.inr (hwi hw 211 rfl)) (Or.inr (hwi hw 207 rfl)) (by decide) (t := (.object "java/util/List")) (t' := (.object "java/lang/String")) (by decide) (by decide)))) (Or.inr (slot_ne (a0 := a0) (Or.inr (hwi hw 211 rfl)) (Or.inr (hwi hw 209 rfl)) (by decide) (t := (.object "java/util/List")) (t' := (.object "java/lang/String")) (by decide) (by decide))))
  obtain ⟨T839, h839, X839, e839, W839, s839⟩ := putF X835 hx hZ hown (host := "") (Or.inl (hwi hw 210 rfl)) Via.refl e835 F838 F837 (Or.inr ⟨(hwi hw 211 rfl), rfl, hnm⟩) (hwi hw 108 rfl) (ty := (.object "java/util/List")) (by decide) rfl rfl (g := (mkF m 28 #[rv t_, rv s1, rv s2, rv o797, rv o813] [(.ref o797), (.ref t_)])) rfl rfl (hb hby d31_28)
  have N839 := Fr.snoc X839 N835 f0
  refine go s839 ?_
  show Ends p e below _ T839 (mkF m 31 #[rv t_, rv s1, rv s2, rv o797, rv o813] [])
  refine go (fun _ => XS.aloadN X839.here hx rfl (hb hby d31_31) rfl rfl) ?_
  refine go (fun _ => XS.aload X839.here hx rfl (hb hby d31_32) rfl rfl) ?_
  show Ends p e below _ T839 (mkF m 34 #[rv t_, rv s1, rv s2, rv o797, rv o813] [(.ref o813), (.ref t_)])
  have F841 := (Exa.wr W839 F837)
  have F842 := (Fld.other W839 (Fld.other W835 (Fld.other W831 (Fld.keep (Fld.keep F_primaryKey K797 nin0) K813 nin0) (Or.inr (slot_ne (a0 := a0) (Or.inr (hwi hw 213 rfl)) (Or.inr (hwi hw 207 rfl)) (by decide) (t := (.object "java/util/List")) (t' := (.object "java/lang/String")) (by decide) (by decide)))) (Or.inr (slot_ne (a0 := a0) (Or.inr (hwi hw 213 rfl)) (Or.inr (hwi hw 209 rfl)) (by decide) (t := (.object "java/util/List")) (t' := (.object "java/lang/String")) (by decide) (by decide)))) (Or.inr (slot_ne (a0 := a0) (Or.inr (hwi hw 213 rfl)) (Or.inr (hwi hw 211 rfl)) (by decide) (t := (.object "java/util/List")) (t' := (.object "java/util/List")) (by decide) (by decide))))
  obtain ⟨T843, h843, X843, e843, W843, s843⟩ := putF X839 hx hZ hown (host := "") (Or.inl (hwi hw 212 rfl)) Via.refl e839 F842 F841 (Or.inr ⟨(hwi hw 213 rfl), rfl, hnm⟩) (hwi hw 108 rfl) (ty := (.object "java/util/List")) (by decide) rfl rfl (g := (mkF m 34 #[rv t_, rv s1, rv s2, rv o797, rv o813] [(.ref o813), (.ref t_)])) rfl rfl (hb hby d31_34)
  have N843 := Fr.snoc X843 N839 f0
  refine go s843 ?_
  show Ends p e below _ T843 (mkF m 37 #[rv t_, rv s1, rv s2, rv o797, rv o813] [])
  have F845 := (Fld.same W843 F842)
  have K846 : Keep h0 h843 [t_] := (Keep.wr (Keep.wr (Keep.wr (Keep.wr (Keep.trans K827 K813 all0) W831 (Or.inl (List.mem_of_getElem? (i := 0) rfl))) W835 (Or.inl (List.mem_of_getElem? (i := 0) rfl))) W839 (Or.inl (List.mem_of_getElem? (i := 0) rfl))) W843 (Or.inl (List.mem_of_getElem? (i := 0) rfl)))
  have F847 := (Exa.wr W843 (Exa.wr W839 (Exa.wr W835 (Exa.wr W831 E813))))
  exact endV X843 hx hret (hb hby d31_37) (lvN X843 hlk e843 (fun _ => rfl) ⟨o813, rfl, N843, K846, b826, F845, F847⟩ (by decide) (by decide))
set_option maxRecDepth 65536 in
set_option maxHeartbeats 40000000 in
theorem rm_tab_1_2 {l : Launch} {Z : State} {a0 : Array Value} (hw : ∀ d ∈ tables_1, d.before a0 Z = true) (t_ s1 s2 l1 l2 x y : Addr) (bl1 : Addr) (kl1 : ClassId) (bl2 : Addr) (kl2 : ClassId) (mr : Addr) (aL aN aE : Addr) (kN : ClassId) (h0 : Heap) (O0 : Ext Z.heap h0) (f0 : Z.heap.size ≤ t_) (E0 : Exa Z h0 t_ "com/example/scopa/scopa/schema/Table") (F_schema : Fld Z h0 t_ "com/example/scopa/scopa/schema/Table" "schema" "Ljava/lang/String;" .null) (F_name : Fld Z h0 t_ "com/example/scopa/scopa/schema/Table" "name" "Ljava/lang/String;" .null) (F_columns : Fld Z h0 t_ "com/example/scopa/scopa/schema/Table" "columns" "Ljava/util/List;" .null) (F_primaryKey : Fld Z h0 t_ "com/example/scopa/scopa/schema/Table" "primaryKey" "Ljava/util/List;" .null) (MM : Mid Z "[Ljava/lang/Object;" mr) (SL : Sta Z Z.heap "java/util/ImmutableCollections" "EMPTY_LIST" "Ljava/util/ImmutableCollections$ListN;" (.ref aL)) (XL : Exa Z Z.heap aL "java/util/ImmutableCollections$ListN") (FL : Fld Z Z.heap aL "java/util/ImmutableCollections$ListN" "elements" "[Ljava/lang/Object;" (.ref aN)) (VN : Arv Z Z.heap aN kN (.object "java/lang/Object") (0 : Int32) [] .null) (SE : Sta Z Z.heap "java/util/ImmutableCollections" "EMPTY" "Ljava/lang/Object;" (.ref aE)) (Ex : Exa Z h0 x "com/example/scopa/scopa/schema/Column") (Ey : Exa Z h0 y "com/example/scopa/scopa/schema/Column") (El1 : Exa Z h0 l1 "java/util/ArrayList") (F2l1 : Fld Z h0 l1 "java/util/ArrayList" "elementData" "[Ljava/lang/Object;" (.ref bl1)) (F3l1 : Fld Z h0 l1 "java/util/ArrayList" "size" "I" (.int 1)) (Ol1 : OvO Z kl1) (Vl1 : Arv Z h0 bl1 kl1 (.object "java/lang/Object") (10 : Int32) [(.ref x), .null, .null, .null, .null, .null, .null, .null, .null, .null] .null) (El2 : Exa Z h0 l2 "java/util/ArrayList") (F2l2 : Fld Z h0 l2 "java/util/ArrayList" "elementData" "[Ljava/lang/Object;" (.ref bl2)) (F3l2 : Fld Z h0 l2 "java/util/ArrayList" "size" "I" (.int 2)) (Ol2 : OvO Z kl2) (Vl2 : Arv Z h0 bl2 kl2 (.object "java/lang/Object") (10 : Int32) [(.ref y), (.ref x), .null, .null, .null, .null, .null, .null, .null, .null] .null) (nex : t_ ≠ x) (ney : t_ ≠ y) :
    Con l (⟨"com/example/scopa/scopa/schema/Table", "<init>", "(Ljava/lang/String;Ljava/lang/String;Ljava/util/List;Ljava/util/List;)V"⟩ : MethodName) prog_14_method_1_code 5 none ({ frames := 8, cells := 4, slots := 7, locals := 101 } : Room) Z #[(.ref t_), (.ref s1), (.ref s2), (.ref l1), (.ref l2)] h0 (fun v h L => ∃ (o_ : Addr), v = none ∧ Fr Z.heap.size L ∧ Keep h0 h [t_] ∧ h0.size ≤ o_ ∧ Fld Z h t_ "com/example/scopa/scopa/schema/Table" "primaryKey" "Ljava/util/List;" (.ref o_) ∧ Exa Z h o_ "java/util/ImmutableCollections$List12") := by
  refine Con.of (plainFor_of_name pn_35) (Ls := #[rv t_, rv s1, rv s2, rv l1, rv l2]) (fun m => efOf rfl) ?_
  intro p e s m below meth c T0 X0 hx hZ hby hml hown hnm hret hlk e0
  refine go (fun _ => XS.aloadN X0.here hx rfl (hb hby d31_0) rfl rfl) ?_
  show Ends p e below _ T0 (mkF m 1 #[rv t_, rv s1, rv s2, rv l1, rv l2] [(.ref t_)])
  refine cInit X0 hx hZ hown (by rw [hml]; rfl) e0 (hwi hw 113 rfl) (hwi hw 36 rfl) (hwi hw 38 rfl) (hwi hw 39 rfl) t_ [] [] rfl (rm_record hw t_ _) (hb hby d31_1) rfl (lenOf pd_7 rfl) rfl (by decide) (by decide) (Nat.le_of_ble_eq_true rfl) (by decide) (by decide) ?_
  rintro v848 T848 h848 L848 X848 e848 ⟨rfl, N848, rfl⟩
  have N848a := Fr.app (Fr.nil _) N848
  show Ends p e below _ T848 (mkF m 4 #[rv t_, rv s1, rv s2, rv l1, rv l2] [])
  refine go (fun _ => XS.aloadN X848.here hx rfl (hb hby d31_4) rfl rfl) ?_
  show Ends p e below _ T848 (mkF m 5 #[rv t_, rv s1, rv s2, rv l1, rv l2] [(.ref l1)])
  refine cStat X848 hx hZ hown (by rw [hml]; rfl) e848 (hwi hw 114 rfl) (hwi hw 115 rfl) (hwi hw 116 rfl) (hwi hw 117 rfl) [(.ref l1)] [] rfl (rm_co_1 hw l1 bl1 kl1 x mr aL aN aE kN _ O0 MM SL XL FL VN SE El1 Ol1 Vl1 Ex F2l1 F3l1) (hb hby d31_5) rfl (lenOf pd_25 rfl) (by decide) (by decide) (Nat.le_of_ble_eq_true rfl) (by decide) (by decide) ?_
  rintro v849 T849 h849 L849 X849 e849 ⟨o849, rfl, N849, K849, g849, E849, Fa849, Fb849⟩
  have N849a := Fr.app N848a N849
  have K858 : Keep h0 h0 [t_] := (Keep.refl _ _)
  have O859 : Ext Z.heap h849 := xk O0 K849 all0
  show Ends p e below _ T849 (mkF m 8 #[rv t_, rv s1, rv s2, rv l1, rv l2] [(.ref o849)])
  refine go (fun _ => XS.astoreN X849.here hx rfl (hb hby d31_8) rfl rfl (l' := #[rv t_, rv s1, rv s2, rv o849, rv l2]) rfl) ?_
  refine go (fun _ => XS.aload X849.here hx rfl (hb hby d31_9) rfl rfl) ?_
  show Ends p e below _ T849 (mkF m 11 #[rv t_, rv s1, rv s2, rv o849, rv l2] [(.ref l2)])
  have F860 := (Exa.keep El2 K849)
  have F861 := (Arv.keep Vl2 K849 nin0)
  have F862 := (Exa.keep Ey K849)
  have F863 := (Exa.keep Ex K849)
  have F864 := (Fld.keep F2l2 K849 nin0)
  have F865 := (Fld.keep F3l2 K849 nin0)
  refine cStat X849 hx hZ hown (by rw [hml]; rfl) e849 (hwi hw 114 rfl) (hwi hw 115 rfl) (hwi hw 116 rfl) (hwi hw 117 rfl) [(.ref l2)] [] rfl (rm_co_2 hw l2 bl2 kl2 y x mr aL aN aE kN _ O859 MM SL XL FL VN SE F860 Ol2 F861 F862 F863 F864 F865) (hb hby d31_11) rfl (lenOf pd_25 rfl) (by decide) (by decide) (Nat.le_of_ble_eq_true rfl) (by decide) (by decide) ?_
  rintro v866 T866 h866 L866 X866 e866 ⟨o866, rfl, N866, K866, g866, E866, Fa866, Fb866⟩
  have N866a := Fr.app N849a N866
  have F874 := (Exa.keep E0 K849)
  have K879 : Keep h0 h849 [t_] := (Keep.trans K858 K849 all0)
  have b878 : h0.size ≤ o866 := Nat.le_trans (K879).1 g866
  show Ends p e below _ T866 (mkF m 14 #[rv t_, rv s1, rv s2, rv o849, rv l2] [(.ref o866)])
  refine go (fun _ => XS.astore X866.here hx rfl (hb hby d31_14) rfl rfl (l' := #[rv t_, rv s1, rv s2, rv o849, rv o866]) rfl) ?_
  refine go (fun _ => XS.aloadN X866.here hx rfl (hb hby d31_16) rfl rfl) ?_
  refine go (fun _ => XS.aloadN X866.here hx rfl (hb hby d31_17) rfl rfl) ?_
  show Ends p e below _ T866 (mkF m 18 #[rv t_, rv s1, rv s2, rv o849, rv o866] [(.ref s1), (.ref t_)])
  have F881 := (Exa.keep F874 K866)
  have F882 := (Fld.keep (Fld.keep F_schema K849 nin0) K866 nin0)
  obtain ⟨T883, h883, X883, e883, W883, s883⟩ := putF X866 hx hZ hown (host := "") (Or.inl (hwi hw 206 rfl)) Via.refl e866 F882 F881 (Or.inr ⟨(hwi hw 207 rfl), rfl, hnm⟩) (hwi hw 108 rfl) (ty := (.object "java/lang/String")) (by decide) rfl rfl (g := (mkF m 18 #[rv t_, rv s1, rv s2, rv o849, rv o866] [(.ref s1), (.ref t_)])) rfl rfl (hb hby d31_18)
  have N883 := Fr.snoc X883 N866a f0
  refine go s883 ?_
  show Ends p e below _ T883 (mkF m 21 #[rv t_, rv s1, rv s2, rv o849, rv o866] [])
  refine go (fun _ => XS.aloadN X883.here hx rfl (hb hby d31_21) rfl rfl) ?_
  refine go (fun _ => XS.aloadN X883.here hx rfl (hb hby d31_22) rfl rfl) ?_
  show Ends p e below _ T883 (mkF m 23 #[rv t_, rv s1, rv s2, rv o849, rv o866] [(.ref s2), (.ref t_)])
  have F885 := (Exa.wr W883 F881)
  have F886 := (Fld.other W883 (Fld.keep (Fld.keep F_name K849 nin0) K866 nin0) (Or.inr (slot_ne (a0 := a0) (Or.inr (hwi hw 209 rfl)) (Or.inr (hwi hw 207 rfl)) (by decide) (t := (.object "java/lang/String")) (t' := (.object "java/lang/String")) (by decide) (by decide))))
  obtain ⟨T887, h887, X887, e887, W887, s887⟩ := putF X883 hx hZ hown (host := "") (Or.inl (hwi hw 208 rfl)) Via.refl e883 F886 F885 (Or.inr ⟨(hwi hw 209 rfl), rfl, hnm⟩) (hwi hw 108 rfl) (ty := (.object "java/lang/String")) (by decide) rfl rfl (g := (mkF m 23 #[rv t_, rv s1, rv s2, rv o849, rv o866] [(.ref s2), (.ref t_)])) rfl rfl (hb hby d31_23)
  have N887 := Fr.snoc X887 N883 f0
  refine go s887 ?_
  show Ends p e below _ T887 (mkF m 26 #[rv t_, rv s1, rv s2, rv o849, rv o866] [])
  refine go (fun _ => XS.aloadN X887.here hx rfl (hb hby d31_26) rfl rfl) ?_
  refine go (fun _ => XS.aloadN X887.here hx rfl (hb hby d31_27) rfl rfl) ?_
  show Ends p e below _ T887 (mkF m 28 #[rv t_, rv s1, rv s2, rv o849, rv o866] [(.ref o849), (.ref t_)])
  have F889 := (Exa.wr W887 F885)
  have F890 := (Fld.other W887 (Fld.other W883 (Fld.keep (Fld.keep F_columns K849 nin0) K866 nin0) (Or.inr (slot_ne (a0 := a0) (Or.inr (hwi hw 211 rfl)) (Or.inr (hwi hw 207 rfl)) (by decide) (t := (.object "java/util/List")) (t' := (.object "java/lang/String")) (by decide) (by decide)))) (Or.inr (slot_ne (a0 := a0) (Or.inr (hwi hw 211 rfl)) (Or.inr (hwi hw 209 rfl)) (by decide) (t := (.object "java/util/List")) (t' := (.object "java/lang/String")) (by decide) (by decide))))
  obtain ⟨T891, h891, X891, e891, W891, s891⟩ := putF X887 hx hZ hown (host := "") (Or.inl (hwi hw 210 rfl)) Via.refl e887 F890 F889 (Or.inr ⟨(hwi hw 211 rfl), rfl, hnm⟩) (hwi hw 108 rfl) (ty := (.object "java/util/List")) (by decide) rfl rfl (g := (mkF m 28 #[rv t_, rv s1, rv s2, rv o849, rv o866] [(.ref o849), (.ref t_)])) rfl rfl (hb hby d31_28)
  have N891 := Fr.snoc X891 N887 f0
  refine go s891 ?_
  show Ends p e below _ T891 (mkF m 31 #[rv t_, rv s1, rv s2, rv o849, rv o866] [])
  refine go (fun _ => XS.aloadN X891.here hx rfl (hb hby d31_31) rfl rfl) ?_
  refine go (fun _ => XS.aload X891.here hx rfl (hb hby d31_32) rfl rfl) ?_
  show Ends p e below _ T891 (mkF m 34 #[rv t_, rv s1, rv s2, rv o849, rv o866] [(.ref o866), (.ref t_)])
  have F893 := (Exa.wr W891 F889)
  have F894 := (Fld.other W891 (Fld.other W887 (Fld.other W883 (Fld.keep (Fld.keep F_primaryKey K849 nin0) K866 nin0) (Or.inr (slot_ne (a0 := a0) (Or.inr (hwi hw 213 rfl)) (Or.inr (hwi hw 207 rfl)) (by decide) (t := (.object "java/util/List")) (t' := (.object "java/lang/String")) (by decide) (by decide)))) (Or.inr (slot_ne (a0 := a0) (Or.inr (hwi hw 213 rfl)) (Or.inr (hwi hw 209 rfl)) (by decide) (t := (.object "java/util/List")) (t' := (.object "java/lang/String")) (by decide) (by decide)))) (Or.inr (slot_ne (a0 := a0) (Or.inr (hwi hw 213 rfl)) (Or.inr (hwi hw 211 rfl)) (by decide) (t := (.object "java/util/List")) (t' := (.object "java/util/List")) (by decide) (by decide))))
  obtain ⟨T895, h895, X895, e895, W895, s895⟩ := putF X891 hx hZ hown (host := "") (Or.inl (hwi hw 212 rfl)) Via.refl e891 F894 F893 (Or.inr ⟨(hwi hw 213 rfl), rfl, hnm⟩) (hwi hw 108 rfl) (ty := (.object "java/util/List")) (by decide) rfl rfl (g := (mkF m 34 #[rv t_, rv s1, rv s2, rv o849, rv o866] [(.ref o866), (.ref t_)])) rfl rfl (hb hby d31_34)
  have N895 := Fr.snoc X895 N891 f0
  refine go s895 ?_
  show Ends p e below _ T895 (mkF m 37 #[rv t_, rv s1, rv s2, rv o849, rv o866] [])
  have F897 := (Fld.same W895 F894)
  have K898 : Keep h0 h895 [t_] := (Keep.wr (Keep.wr (Keep.wr (Keep.wr (Keep.trans K879 K866 all0) W883 (Or.inl (List.mem_of_getElem? (i := 0) rfl))) W887 (Or.inl (List.mem_of_getElem? (i := 0) rfl))) W891 (Or.inl (List.mem_of_getElem? (i := 0) rfl))) W895 (Or.inl (List.mem_of_getElem? (i := 0) rfl)))
  have F899 := (Exa.wr W895 (Exa.wr W891 (Exa.wr W887 (Exa.wr W883 E866))))
  exact endV X895 hx hret (hb hby d31_37) (lvN X895 hlk e895 (fun _ => rfl) ⟨o866, rfl, N895, K898, b878, F897, F899⟩ (by decide) (by decide))
set_option maxRecDepth 65536 in
set_option maxHeartbeats 40000000 in
theorem rm_tab_1_3 {l : Launch} {Z : State} {a0 : Array Value} (hw : ∀ d ∈ tables_1, d.before a0 Z = true) (t_ s1 s2 l1 l2 x y : Addr) (bl1 : Addr) (kl1 : ClassId) (bl2 : Addr) (kl2 : ClassId) (mr : Addr) (aL aN aE : Addr) (kN : ClassId) (h0 : Heap) (O0 : Ext Z.heap h0) (f0 : Z.heap.size ≤ t_) (E0 : Exa Z h0 t_ "com/example/scopa/scopa/schema/Table") (F_schema : Fld Z h0 t_ "com/example/scopa/scopa/schema/Table" "schema" "Ljava/lang/String;" .null) (F_name : Fld Z h0 t_ "com/example/scopa/scopa/schema/Table" "name" "Ljava/lang/String;" .null) (F_columns : Fld Z h0 t_ "com/example/scopa/scopa/schema/Table" "columns" "Ljava/util/List;" .null) (F_primaryKey : Fld Z h0 t_ "com/example/scopa/scopa/schema/Table" "primaryKey" "Ljava/util/List;" .null) (MM : Mid Z "[Ljava/lang/Object;" mr) (SL : Sta Z Z.heap "java/util/ImmutableCollections" "EMPTY_LIST" "Ljava/util/ImmutableCollections$ListN;" (.ref aL)) (XL : Exa Z Z.heap aL "java/util/ImmutableCollections$ListN") (FL : Fld Z Z.heap aL "java/util/ImmutableCollections$ListN" "elements" "[Ljava/lang/Object;" (.ref aN)) (VN : Arv Z Z.heap aN kN (.object "java/lang/Object") (0 : Int32) [] .null) (SE : Sta Z Z.heap "java/util/ImmutableCollections" "EMPTY" "Ljava/lang/Object;" (.ref aE)) (Ex : Exa Z h0 x "com/example/scopa/scopa/schema/Column") (Ey : Exa Z h0 y "com/example/scopa/scopa/schema/Column") (El1 : Exa Z h0 l1 "java/util/ArrayList") (F2l1 : Fld Z h0 l1 "java/util/ArrayList" "elementData" "[Ljava/lang/Object;" (.ref bl1)) (F3l1 : Fld Z h0 l1 "java/util/ArrayList" "size" "I" (.int 1)) (Ol1 : OvO Z kl1) (Vl1 : Arv Z h0 bl1 kl1 (.object "java/lang/Object") (10 : Int32) [(.ref x), .null, .null, .null, .null, .null, .null, .null, .null, .null] .null) (El2 : Exa Z h0 l2 "java/util/ArrayList") (F2l2 : Fld Z h0 l2 "java/util/ArrayList" "elementData" "[Ljava/lang/Object;" (.ref bl2)) (F3l2 : Fld Z h0 l2 "java/util/ArrayList" "size" "I" (.int 3)) (Ol2 : OvO Z kl2) (Vl2 : Arv Z h0 bl2 kl2 (.object "java/lang/Object") (10 : Int32) [(.ref y), (.ref x), (.ref y), .null, .null, .null, .null, .null, .null, .null] .null) (nex : t_ ≠ x) (ney : t_ ≠ y) :
    Con l (⟨"com/example/scopa/scopa/schema/Table", "<init>", "(Ljava/lang/String;Ljava/lang/String;Ljava/util/List;Ljava/util/List;)V"⟩ : MethodName) prog_14_method_1_code 5 none ({ frames := 9, cells := 5, slots := 11, locals := 115 } : Room) Z #[(.ref t_), (.ref s1), (.ref s2), (.ref l1), (.ref l2)] h0 (fun v h L => ∃ (o_ r_ : Addr) (kr : ClassId), v = none ∧ Fr Z.heap.size L ∧ Keep h0 h [t_] ∧ h0.size ≤ o_ ∧ Fld Z h t_ "com/example/scopa/scopa/schema/Table" "primaryKey" "Ljava/util/List;" (.ref o_) ∧ Exa Z h o_ "java/util/ImmutableCollections$ListN" ∧ Fld Z h o_ "java/util/ImmutableCollections$ListN" "elements" "[Ljava/lang/Object;" (.ref r_) ∧ Arv Z h r_ kr (.object "java/lang/Object") (3 : Int32) [(.ref y), (.ref x), (.ref y)] .null) := by
  refine Con.of (plainFor_of_name pn_35) (Ls := #[rv t_, rv s1, rv s2, rv l1, rv l2]) (fun m => efOf rfl) ?_
  intro p e s m below meth c T0 X0 hx hZ hby hml hown hnm hret hlk e0
  refine go (fun _ => XS.aloadN X0.here hx rfl (hb hby d31_0) rfl rfl) ?_
  show Ends p e below _ T0 (mkF m 1 #[rv t_, rv s1, rv s2, rv l1, rv l2] [(.ref t_)])
  refine cInit X0 hx hZ hown (by rw [hml]; rfl) e0 (hwi hw 113 rfl) (hwi hw 36 rfl) (hwi hw 38 rfl) (hwi hw 39 rfl) t_ [] [] rfl (rm_record hw t_ _) (hb hby d31_1) rfl (lenOf pd_7 rfl) rfl (by decide) (by decide) (Nat.le_of_ble_eq_true rfl) (by decide) (by decide) ?_
  rintro v900 T900 h900 L900 X900 e900 ⟨rfl, N900, rfl⟩
  have N900a := Fr.app (Fr.nil _) N900
  show Ends p e below _ T900 (mkF m 4 #[rv t_, rv s1, rv s2, rv l1, rv l2] [])
  refine go (fun _ => XS.aloadN X900.here hx rfl (hb hby d31_4) rfl rfl) ?_
  show Ends p e below _ T900 (mkF m 5 #[rv t_, rv s1, rv s2, rv l1, rv l2] [(.ref l1)])
  refine cStat X900 hx hZ hown (by rw [hml]; rfl) e900 (hwi hw 114 rfl) (hwi hw 115 rfl) (hwi hw 116 rfl) (hwi hw 117 rfl) [(.ref l1)] [] rfl (rm_co_1 hw l1 bl1 kl1 x mr aL aN aE kN _ O0 MM SL XL FL VN SE El1 Ol1 Vl1 Ex F2l1 F3l1) (hb hby d31_5) rfl (lenOf pd_25 rfl) (by decide) (by decide) (Nat.le_of_ble_eq_true rfl) (by decide) (by decide) ?_
  rintro v901 T901 h901 L901 X901 e901 ⟨o901, rfl, N901, K901, g901, E901, Fa901, Fb901⟩
  have N901a := Fr.app N900a N901
  have K910 : Keep h0 h0 [t_] := (Keep.refl _ _)
  have O911 : Ext Z.heap h901 := xk O0 K901 all0
  show Ends p e below _ T901 (mkF m 8 #[rv t_, rv s1, rv s2, rv l1, rv l2] [(.ref o901)])
  refine go (fun _ => XS.astoreN X901.here hx rfl (hb hby d31_8) rfl rfl (l' := #[rv t_, rv s1, rv s2, rv o901, rv l2]) rfl) ?_
  refine go (fun _ => XS.aload X901.here hx rfl (hb hby d31_9) rfl rfl) ?_
  show Ends p e below _ T901 (mkF m 11 #[rv t_, rv s1, rv s2, rv o901, rv l2] [(.ref l2)])
  have F912 := (Exa.keep El2 K901)
  have F913 := (Arv.keep Vl2 K901 nin0)
  have F914 := (Exa.keep Ey K901)
  have F915 := (Exa.keep Ex K901)
  have F916 := (Fld.keep F2l2 K901 nin0)
  have F917 := (Fld.keep F3l2 K901 nin0)
  refine cStat X901 hx hZ hown (by rw [hml]; rfl) e901 (hwi hw 114 rfl) (hwi hw 115 rfl) (hwi hw 116 rfl) (hwi hw 117 rfl) [(.ref l2)] [] rfl (rm_co_3 hw l2 bl2 kl2 y x y mr aL aN aE kN _ O911 MM SL XL FL VN SE F912 Ol2 F913 F914 F915 F914 F916 F917) (hb hby d31_11) rfl (lenOf pd_25 rfl) (by decide) (by decide) (Nat.le_of_ble_eq_true rfl) (by decide) (by decide) ?_
  rintro v918 T918 h918 L918 X918 e918 ⟨o918, r918, kr918, rfl, N918, K918, g918, gr918, E918, Fa918, Fb918⟩
  have N918a := Fr.app N901a N918
  have F926 := (Exa.keep E0 K901)
  have n927 : t_ ≠ o918 := Nat.ne_of_lt (Nat.lt_of_lt_of_le (F926.lt) g918)
  have K931 : Keep h0 h901 [t_] := (Keep.trans K910 K901 all0)
  have b930 : h0.size ≤ o918 := Nat.le_trans (K931).1 g918
  have n937 : t_ ≠ r918 := Nat.ne_of_lt (Nat.lt_of_lt_of_le (F926.lt) gr918)
  show Ends p e below _ T918 (mkF m 14 #[rv t_, rv s1, rv s2, rv o901, rv l2] [(.ref o918)])
  refine go (fun _ => XS.astore X918.here hx rfl (hb hby d31_14) rfl rfl (l' := #[rv t_, rv s1, rv s2, rv o901, rv o918]) rfl) ?_
  refine go (fun _ => XS.aloadN X918.here hx rfl (hb hby d31_16) rfl rfl) ?_
  refine go (fun _ => XS.aloadN X918.here hx rfl (hb hby d31_17) rfl rfl) ?_
  show Ends p e below _ T918 (mkF m 18 #[rv t_, rv s1, rv s2, rv o901, rv o918] [(.ref s1), (.ref t_)])
  have F942 := (Exa.keep F926 K918)
  have F943 := (Fld.keep (Fld.keep F_schema K901 nin0) K918 nin0)
  obtain ⟨T944, h944, X944, e944, W944, s944⟩ := putF X918 hx hZ hown (host := "") (Or.inl (hwi hw 206 rfl)) Via.refl e918 F943 F942 (Or.inr ⟨(hwi hw 207 rfl), rfl, hnm⟩) (hwi hw 108 rfl) (ty := (.object "java/lang/String")) (by decide) rfl rfl (g := (mkF m 18 #[rv t_, rv s1, rv s2, rv o901, rv o918] [(.ref s1), (.ref t_)])) rfl rfl (hb hby d31_18)
  have N944 := Fr.snoc X944 N918a f0
  refine go s944 ?_
  show Ends p e below _ T944 (mkF m 21 #[rv t_, rv s1, rv s2, rv o901, rv o918] [])
  refine go (fun _ => XS.aloadN X944.here hx rfl (hb hby d31_21) rfl rfl) ?_
  refine go (fun _ => XS.aloadN X944.here hx rfl (hb hby d31_22) rfl rfl) ?_
  show Ends p e below _ T944 (mkF m 23 #[rv t_, rv s1, rv s2, rv o901, rv o918] [(.ref s2), (.ref t_)])
  have F946 := (Exa.wr W944 F942)
  have F947 := (Fld.other W944 (Fld.keep (Fld.keep F_name K901 nin0) K918 nin0) (Or.inr (slot_ne (a0 := a0) (Or.inr (hwi hw 209 rfl)) (Or.inr (hwi hw 207 rfl)) (by decide) (t := (.object "java/lang/String")) (t' := (.object "java/lang/String")) (by decide) (by decide))))
  obtain ⟨T948, h948, X948, e948, W948, s948⟩ := putF X944 hx hZ hown (host := "") (Or.inl (hwi hw 208 rfl)) Via.refl e944 F947 F946 (Or.inr ⟨(hwi hw 209 rfl), rfl, hnm⟩) (hwi hw 108 rfl) (ty := (.object "java/lang/String")) (by decide) rfl rfl (g := (mkF m 23 #[rv t_, rv s1, rv s2, rv o901, rv o918] [(.ref s2), (.ref t_)])) rfl rfl (hb hby d31_23)
  have N948 := Fr.snoc X948 N944 f0
  refine go s948 ?_
  show Ends p e below _ T948 (mkF m 26 #[rv t_, rv s1, rv s2, rv o901, rv o918] [])
  refine go (fun _ => XS.aloadN X948.here hx rfl (hb hby d31_26) rfl rfl) ?_
  refine go (fun _ => XS.aloadN X948.here hx rfl (hb hby d31_27) rfl rfl) ?_
  show Ends p e below _ T948 (mkF m 28 #[rv t_, rv s1, rv s2, rv o901, rv o918] [(.ref o901), (.ref t_)])
  have F950 := (Exa.wr W948 F946)
  have F951 := (Fld.other W948 (Fld.other W944 (Fld.keep (Fld.keep F_columns K901 nin0) K918 nin0) (Or.inr (slot_ne (a0 := a0) (Or.inr (hwi hw 211 rfl)) (Or.inr (hwi hw 207 rfl)) (by decide) (t := (.object "java/util/List")) (t' := (.object "java/lang/String")) (by decide) (by decide)))) (Or.inr (slot_ne (a0 := a0) (Or.inr (hwi hw 211 rfl)) (Or.inr (hwi hw 209 rfl)) (by decide) (t := (.object "java/util/List")) (t' := (.object "java/lang/String")) (by decide) (by decide))))
  obtain ⟨T952, h952, X952, e952, W952, s952⟩ := putF X948 hx hZ hown (host := "") (Or.inl (hwi hw 210 rfl)) Via.refl e948 F951 F950 (Or.inr ⟨(hwi hw 211 rfl), rfl, hnm⟩) (hwi hw 108 rfl) (ty := (.object "java/util/List")) (by decide) rfl rfl (g := (mkF m 28 #[rv t_, rv s1, rv s2, rv o901, rv o918] [(.ref o901), (.ref t_)])) rfl rfl (hb hby d31_28)
  have N952 := Fr.snoc X952 N948 f0
  refine go s952 ?_
  show Ends p e below _ T952 (mkF m 31 #[rv t_, rv s1, rv s2, rv o901, rv o918] [])
  refine go (fun _ => XS.aloadN X952.here hx rfl (hb hby d31_31) rfl rfl) ?_
  refine go (fun _ => XS.aload X952.here hx rfl (hb hby d31_32) rfl rfl) ?_
  show Ends p e below _ T952 (mkF m 34 #[rv t_, rv s1, rv s2, rv o901, rv o918] [(.ref o918), (.ref t_)])
  have F954 := (Exa.wr W952 F950)
  have F955 := (Fld.other W952 (Fld.other W948 (Fld.other W944 (Fld.keep (Fld.keep F_primaryKey K901 nin0) K918 nin0) (Or.inr (slot_ne (a0 := a0) (Or.inr (hwi hw 213 rfl)) (Or.inr (hwi hw 207 rfl)) (by decide) (t := (.object "java/util/List")) (t' := (.object "java/lang/String")) (by decide) (by decide)))) (Or.inr (slot_ne (a0 := a0) (Or.inr (hwi hw 213 rfl)) (Or.inr (hwi hw 209 rfl)) (by decide) (t := (.object "java/util/List")) (t' := (.object "java/lang/String")) (by decide) (by decide)))) (Or.inr (slot_ne (a0 := a0) (Or.inr (hwi hw 213 rfl)) (Or.inr (hwi hw 211 rfl)) (by decide) (t := (.object "java/util/List")) (t' := (.object "java/util/List")) (by decide) (by decide))))
  obtain ⟨T956, h956, X956, e956, W956, s956⟩ := putF X952 hx hZ hown (host := "") (Or.inl (hwi hw 212 rfl)) Via.refl e952 F955 F954 (Or.inr ⟨(hwi hw 213 rfl), rfl, hnm⟩) (hwi hw 108 rfl) (ty := (.object "java/util/List")) (by decide) rfl rfl (g := (mkF m 34 #[rv t_, rv s1, rv s2, rv o901, rv o918] [(.ref o918), (.ref t_)])) rfl rfl (hb hby d31_34)
  have N956 := Fr.snoc X956 N952 f0
  refine go s956 ?_
  show Ends p e below _ T956 (mkF m 37 #[rv t_, rv s1, rv s2, rv o901, rv o918] [])
  have F958 := (Fld.same W956 F955)
  have K959 : Keep h0 h956 [t_] := (Keep.wr (Keep.wr (Keep.wr (Keep.wr (Keep.trans K931 K918 all0) W944 (Or.inl (List.mem_of_getElem? (i := 0) rfl))) W948 (Or.inl (List.mem_of_getElem? (i := 0) rfl))) W952 (Or.inl (List.mem_of_getElem? (i := 0) rfl))) W956 (Or.inl (List.mem_of_getElem? (i := 0) rfl)))
  have F960 := (Exa.wr W956 (Exa.wr W952 (Exa.wr W948 (Exa.wr W944 E918))))
  have F961 := (Fld.other W956 (Fld.other W952 (Fld.other W948 (Fld.other W944 Fa918 (Or.inl (Ne.symm n927))) (Or.inl (Ne.symm n927))) (Or.inl (Ne.symm n927))) (Or.inl (Ne.symm n927)))
  have F962 := (Arv.other (Arv.other (Arv.other (Arv.other Fb918 W944 (Ne.symm n937)) W948 (Ne.symm n937)) W952 (Ne.symm n937)) W956 (Ne.symm n937))
  exact endV X956 hx hret (hb hby d31_37) (lvN X956 hlk e956 (fun _ => rfl) ⟨o918, r918, _, rfl, N956, K959, b930, F958, F960, F961, F962⟩ (by decide) (by decide))
set_option maxRecDepth 65536 in
set_option maxHeartbeats 40000000 in
theorem rm_tab_2_0 {l : Launch} {Z : State} {a0 : Array Value} (hw : ∀ d ∈ tables_1, d.before a0 Z = true) (t_ s1 s2 l1 l2 x y : Addr) (bl1 : Addr) (kl1 : ClassId)  (mr : Addr) (aL aN aE : Addr) (kN : ClassId) (h0 : Heap) (O0 : Ext Z.heap h0) (f0 : Z.heap.size ≤ t_) (E0 : Exa Z h0 t_ "com/example/scopa/scopa/schema/Table") (F_schema : Fld Z h0 t_ "com/example/scopa/scopa/schema/Table" "schema" "Ljava/lang/String;" .null) (F_name : Fld Z h0 t_ "com/example/scopa/scopa/schema/Table" "name" "Ljava/lang/String;" .null) (F_columns : Fld Z h0 t_ "com/example/scopa/scopa/schema/Table" "columns" "Ljava/util/List;" .null) (F_primaryKey : Fld Z h0 t_ "com/example/scopa/scopa/schema/Table" "primaryKey" "Ljava/util/List;" .null) (MM : Mid Z "[Ljava/lang/Object;" mr) (SL : Sta Z Z.heap "java/util/ImmutableCollections" "EMPTY_LIST" "Ljava/util/ImmutableCollections$ListN;" (.ref aL)) (XL : Exa Z Z.heap aL "java/util/ImmutableCollections$ListN") (FL : Fld Z Z.heap aL "java/util/ImmutableCollections$ListN" "elements" "[Ljava/lang/Object;" (.ref aN)) (VN : Arv Z Z.heap aN kN (.object "java/lang/Object") (0 : Int32) [] .null) (SE : Sta Z Z.heap "java/util/ImmutableCollections" "EMPTY" "Ljava/lang/Object;" (.ref aE)) (Ex : Exa Z h0 x "com/example/scopa/scopa/schema/Column") (Ey : Exa Z h0 y "com/example/scopa/scopa/schema/Column") (El1 : Exa Z h0 l1 "java/util/ArrayList") (F2l1 : Fld Z h0 l1 "java/util/ArrayList" "elementData" "[Ljava/lang/Object;" (.ref bl1)) (F3l1 : Fld Z h0 l1 "java/util/ArrayList" "size" "I" (.int 2)) (Ol1 : OvO Z kl1) (Vl1 : Arv Z h0 bl1 kl1 (.object "java/lang/Object") (10 : Int32) [(.ref x), (.ref y), .null, .null, .null, .null, .null, .null, .null, .null] .null) (El2 : Exa Z h0 l2 "java/util/ArrayList") (F3l2 : Fld Z h0 l2 "java/util/ArrayList" "size" "I" (.int 0)) (nex : t_ ≠ x) (ney : t_ ≠ y) :
    Con l (⟨"com/example/scopa/scopa/schema/Table", "<init>", "(Ljava/lang/String;Ljava/lang/String;Ljava/util/List;Ljava/util/List;)V"⟩ : MethodName) prog_14_method_1_code 5 none ({ frames := 8, cells := 2, slots := 4, locals := 101 } : Room) Z #[(.ref t_), (.ref s1), (.ref s2), (.ref l1), (.ref l2)] h0 (fun v h L => v = none ∧ Fr Z.heap.size L ∧ Keep h0 h [t_] ∧ Fld Z h t_ "com/example/scopa/scopa/schema/Table" "primaryKey" "Ljava/util/List;" (.ref aL)) := by
  refine Con.of (plainFor_of_name pn_35) (Ls := #[rv t_, rv s1, rv s2, rv l1, rv l2]) (fun m => efOf rfl) ?_
  intro p e s m below meth c T0 X0 hx hZ hby hml hown hnm hret hlk e0
  refine go (fun _ => XS.aloadN X0.here hx rfl (hb hby d31_0) rfl rfl) ?_
  show Ends p e below _ T0 (mkF m 1 #[rv t_, rv s1, rv s2, rv l1, rv l2] [(.ref t_)])
  refine cInit X0 hx hZ hown (by rw [hml]; rfl) e0 (hwi hw 113 rfl) (hwi hw 36 rfl) (hwi hw 38 rfl) (hwi hw 39 rfl) t_ [] [] rfl (rm_record hw t_ _) (hb hby d31_1) rfl (lenOf pd_7 rfl) rfl (by decide) (by decide) (Nat.le_of_ble_eq_true rfl) (by decide) (by decide) ?_
  rintro v963 T963 h963 L963 X963 e963 ⟨rfl, N963, rfl⟩
  have N963a := Fr.app (Fr.nil _) N963
  show Ends p e below _ T963 (mkF m 4 #[rv t_, rv s1, rv s2, rv l1, rv l2] [])
  refine go (fun _ => XS.aloadN X963.here hx rfl (hb hby d31_4) rfl rfl) ?_
  show Ends p e below _ T963 (mkF m 5 #[rv t_, rv s1, rv s2, rv l1, rv l2] [(.ref l1)])
  refine cStat X963 hx hZ hown (by rw [hml]; rfl) e963 (hwi hw 114 rfl) (hwi hw 115 rfl) (hwi hw 116 rfl) (hwi hw 117 rfl) [(.ref l1)] [] rfl (rm_co_2 hw l1 bl1 kl1 x y mr aL aN aE kN _ O0 MM SL XL FL VN SE El1 Ol1 Vl1 Ex Ey F2l1 F3l1) (hb hby d31_5) rfl (lenOf pd_25 rfl) (by decide) (by decide) (Nat.le_of_ble_eq_true rfl) (by decide) (by decide) ?_
  rintro v964 T964 h964 L964 X964 e964 ⟨o964, rfl, N964, K964, g964, E964, Fa964, Fb964⟩
  have N964a := Fr.app N963a N964
  have K972 : Keep h0 h0 [t_] := (Keep.refl _ _)
  have O973 : Ext Z.heap h964 := xk O0 K964 all0
  show Ends p e below _ T964 (mkF m 8 #[rv t_, rv s1, rv s2, rv l1, rv l2] [(.ref o964)])
  refine go (fun _ => XS.astoreN X964.here hx rfl (hb hby d31_8) rfl rfl (l' := #[rv t_, rv s1, rv s2, rv o964, rv l2]) rfl) ?_
  refine go (fun _ => XS.aload X964.here hx rfl (hb hby d31_9) rfl rfl) ?_
  show Ends p e below _ T964 (mkF m 11 #[rv t_, rv s1, rv s2, rv o964, rv l2] [(.ref l2)])
  have F974 := (Exa.keep El2 K964)
  have F975 := (Fld.keep F3l2 K964 nin0)
  refine cStat X964 hx hZ hown (by rw [hml]; rfl) e964 (hwi hw 114 rfl) (hwi hw 115 rfl) (hwi hw 116 rfl) (hwi hw 117 rfl) [(.ref l2)] [] rfl (rm_co_0 hw l2 mr aL aN aE kN _ O973 MM SL XL FL VN SE F974 F975) (hb hby d31_11) rfl (lenOf pd_25 rfl) (by decide) (by decide) (Nat.le_of_ble_eq_true rfl) (by decide) (by decide) ?_
  rintro v976 T976 h976 L976 X976 e976 ⟨rfl, N976, rfl⟩
  have N976a := Fr.app N964a N976
  show Ends p e below _ T976 (mkF m 14 #[rv t_, rv s1, rv s2, rv o964, rv l2] [(.ref aL)])
  refine go (fun _ => XS.astore X976.here hx rfl (hb hby d31_14) rfl rfl (l' := #[rv t_, rv s1, rv s2, rv o964, rv aL]) rfl) ?_
  refine go (fun _ => XS.aloadN X976.here hx rfl (hb hby d31_16) rfl rfl) ?_
  refine go (fun _ => XS.aloadN X976.here hx rfl (hb hby d31_17) rfl rfl) ?_
  show Ends p e below _ T976 (mkF m 18 #[rv t_, rv s1, rv s2, rv o964, rv aL] [(.ref s1), (.ref t_)])
  have F977 := (Exa.keep E0 K964)
  have F978 := (Fld.keep F_schema K964 nin0)
  obtain ⟨T979, h979, X979, e979, W979, s979⟩ := putF X976 hx hZ hown (host := "") (Or.inl (hwi hw 206 rfl)) Via.refl e976 F978 F977 (Or.inr ⟨(hwi hw 207 rfl), rfl, hnm⟩) (hwi hw 108 rfl) (ty := (.object "java/lang/String")) (by decide) rfl rfl (g := (mkF m 18 #[rv t_, rv s1, rv s2, rv o964, rv aL] [(.ref s1), (.ref t_)])) rfl rfl (hb hby d31_18)
  have N979 := Fr.snoc X979 N976a f0
  refine go s979 ?_
  show Ends p e below _ T979 (mkF m 21 #[rv t_, rv s1, rv s2, rv o964, rv aL] [])
  refine go (fun _ => XS.aloadN X979.here hx rfl (hb hby d31_21) rfl rfl) ?_
  refine go (fun _ => XS.aloadN X979.here hx rfl (hb hby d31_22) rfl rfl) ?_
  show Ends p e below _ T979 (mkF m 23 #[rv t_, rv s1, rv s2, rv o964, rv aL] [(.ref s2), (.ref t_)])
  have F981 := (Exa.wr W979 F977)
  have F982 := (Fld.other W979 (Fld.keep F_name K964 nin0) (Or.inr (slot_ne (a0 := a0) (Or.inr (hwi hw 209 rfl)) (Or.inr (hwi hw 207 rfl)) (by decide) (t := (.object "java/lang/String")) (t' := (.object "java/lang/String")) (by decide) (by decide))))
  obtain ⟨T983, h983, X983, e983, W983, s983⟩ := putF X979 hx hZ hown (host := "") (Or.inl (hwi hw 208 rfl)) Via.refl e979 F982 F981 (Or.inr ⟨(hwi hw 209 rfl), rfl, hnm⟩) (hwi hw 108 rfl) (ty := (.object "java/lang/String")) (by decide) rfl rfl (g := (mkF m 23 #[rv t_, rv s1, rv s2, rv o964, rv aL] [(.ref s2), (.ref t_)])) rfl rfl (hb hby d31_23)
  have N983 := Fr.snoc X983 N979 f0
  refine go s983 ?_
  show Ends p e below _ T983 (mkF m 26 #[rv t_, rv s1, rv s2, rv o964, rv aL] [])
  refine go (fun _ => XS.aloadN X983.here hx rfl (hb hby d31_26) rfl rfl) ?_
  refine go (fun _ => XS.aloadN X983.here hx rfl (hb hby d31_27) rfl rfl) ?_
  show Ends p e below _ T983 (mkF m 28 #[rv t_, rv s1, rv s2, rv o964, rv aL] [(.ref o964), (.ref t_)])
  have F985 := (Exa.wr W983 F981)
  have F986 := (Fld.other W983 (Fld.other W979 (Fld.keep F_columns K964 nin0) (Or.inr (slot_ne (a0 := a0) (Or.inr (hwi hw 211 rfl)) (Or.inr (hwi hw 207 rfl)) (by decide) (t := (.object "java/util/List")) (t' := (.object "java/lang/String")) (by decide) (by decide)))) (Or.inr (slot_ne (a0 := a0) (Or.inr (hwi hw 211 rfl)) (Or.inr (hwi hw 209 rfl)) (by decide) (t := (.object "java/util/List")) (t' := (.object "java/lang/String")) (by decide) (by decide))))
  obtain ⟨T987, h987, X987, e987, W987, s987⟩ := putF X983 hx hZ hown (host := "") (Or.inl (hwi hw 210 rfl)) Via.refl e983 F986 F985 (Or.inr ⟨(hwi hw 211 rfl), rfl, hnm⟩) (hwi hw 108 rfl) (ty := (.object "java/util/List")) (by decide) rfl rfl (g := (mkF m 28 #[rv t_, rv s1, rv s2, rv o964, rv aL] [(.ref o964), (.ref t_)])) rfl rfl (hb hby d31_28)
  have N987 := Fr.snoc X987 N983 f0
  refine go s987 ?_
  show Ends p e below _ T987 (mkF m 31 #[rv t_, rv s1, rv s2, rv o964, rv aL] [])
  refine go (fun _ => XS.aloadN X987.here hx rfl (hb hby d31_31) rfl rfl) ?_
  refine go (fun _ => XS.aload X987.here hx rfl (hb hby d31_32) rfl rfl) ?_
  show Ends p e below _ T987 (mkF m 34 #[rv t_, rv s1, rv s2, rv o964, rv aL] [(.ref aL), (.ref t_)])
  have F989 := (Exa.wr W987 F985)
  have F990 := (Fld.other W987 (Fld.other W983 (Fld.other W979 (Fld.keep F_primaryKey K964 nin0) (Or.inr (slot_ne (a0 := a0) (Or.inr (hwi hw 213 rfl)) (Or.inr (hwi hw 207 rfl)) (by decide) (t := (.object "java/util/List")) (t' := (.object "java/lang/String")) (by decide) (by decide)))) (Or.inr (slot_ne (a0 := a0) (Or.inr (hwi hw 213 rfl)) (Or.inr (hwi hw 209 rfl)) (by decide) (t := (.object "java/util/List")) (t' := (.object "java/lang/String")) (by decide) (by decide)))) (Or.inr (slot_ne (a0 := a0) (Or.inr (hwi hw 213 rfl)) (Or.inr (hwi hw 211 rfl)) (by decide) (t := (.object "java/util/List")) (t' := (.object "java/util/List")) (by decide) (by decide))))
  obtain ⟨T991, h991, X991, e991, W991, s991⟩ := putF X987 hx hZ hown (host := "") (Or.inl (hwi hw 212 rfl)) Via.refl e987 F990 F989 (Or.inr ⟨(hwi hw 213 rfl), rfl, hnm⟩) (hwi hw 108 rfl) (ty := (.object "java/util/List")) (by decide) rfl rfl (g := (mkF m 34 #[rv t_, rv s1, rv s2, rv o964, rv aL] [(.ref aL), (.ref t_)])) rfl rfl (hb hby d31_34)
  have N991 := Fr.snoc X991 N987 f0
  refine go s991 ?_
  show Ends p e below _ T991 (mkF m 37 #[rv t_, rv s1, rv s2, rv o964, rv aL] [])
  have F993 := (Fld.same W991 F990)
  have K994 : Keep h0 h991 [t_] := (Keep.wr (Keep.wr (Keep.wr (Keep.wr (Keep.trans K972 K964 all0) W979 (Or.inl (List.mem_of_getElem? (i := 0) rfl))) W983 (Or.inl (List.mem_of_getElem? (i := 0) rfl))) W987 (Or.inl (List.mem_of_getElem? (i := 0) rfl))) W991 (Or.inl (List.mem_of_getElem? (i := 0) rfl)))
  exact endV X991 hx hret (hb hby d31_37) (lvN X991 hlk e991 (fun _ => rfl) ⟨rfl, N991, K994, F993⟩ (by decide) (by decide))
set_option maxRecDepth 65536 in
set_option maxHeartbeats 40000000 in
theorem rm_tab_2_1 {l : Launch} {Z : State} {a0 : Array Value} (hw : ∀ d ∈ tables_1, d.before a0 Z = true) (t_ s1 s2 l1 l2 x y : Addr) (bl1 : Addr) (kl1 : ClassId) (bl2 : Addr) (kl2 : ClassId) (mr : Addr) (aL aN aE : Addr) (kN : ClassId) (h0 : Heap) (O0 : Ext Z.heap h0) (f0 : Z.heap.size ≤ t_) (E0 : Exa Z h0 t_ "com/example/scopa/scopa/schema/Table") (F_schema : Fld Z h0 t_ "com/example/scopa/scopa/schema/Table" "schema" "Ljava/lang/String;" .null) (F_name : Fld Z h0 t_ "com/example/scopa/scopa/schema/Table" "name" "Ljava/lang/String;" .null) (F_columns : Fld Z h0 t_ "com/example/scopa/scopa/schema/Table" "columns" "Ljava/util/List;" .null) (F_primaryKey : Fld Z h0 t_ "com/example/scopa/scopa/schema/Table" "primaryKey" "Ljava/util/List;" .null) (MM : Mid Z "[Ljava/lang/Object;" mr) (SL : Sta Z Z.heap "java/util/ImmutableCollections" "EMPTY_LIST" "Ljava/util/ImmutableCollections$ListN;" (.ref aL)) (XL : Exa Z Z.heap aL "java/util/ImmutableCollections$ListN") (FL : Fld Z Z.heap aL "java/util/ImmutableCollections$ListN" "elements" "[Ljava/lang/Object;" (.ref aN)) (VN : Arv Z Z.heap aN kN (.object "java/lang/Object") (0 : Int32) [] .null) (SE : Sta Z Z.heap "java/util/ImmutableCollections" "EMPTY" "Ljava/lang/Object;" (.ref aE)) (Ex : Exa Z h0 x "com/example/scopa/scopa/schema/Column") (Ey : Exa Z h0 y "com/example/scopa/scopa/schema/Column") (El1 : Exa Z h0 l1 "java/util/ArrayList") (F2l1 : Fld Z h0 l1 "java/util/ArrayList" "elementData" "[Ljava/lang/Object;" (.ref bl1)) (F3l1 : Fld Z h0 l1 "java/util/ArrayList" "size" "I" (.int 2)) (Ol1 : OvO Z kl1) (Vl1 : Arv Z h0 bl1 kl1 (.object "java/lang/Object") (10 : Int32) [(.ref x), (.ref y), .null, .null, .null, .null, .null, .null, .null, .null] .null) (El2 : Exa Z h0 l2 "java/util/ArrayList") (F2l2 : Fld Z h0 l2 "java/util/ArrayList" "elementData" "[Ljava/lang/Object;" (.ref bl2)) (F3l2 : Fld Z h0 l2 "java/util/ArrayList" "size" "I" (.int 1)) (Ol2 : OvO Z kl2) (Vl2 : Arv Z h0 bl2 kl2 (.object "java/lang/Object") (10 : Int32) [(.ref y), .null, .null, .null, .null, .null, .null, .null, .null, .null] .null) (nex : t_ ≠ x) (ney : t_ ≠ y) :
    Con l (⟨"com/example/scopa/scopa/schema/Table", "<init>", "(Ljava/lang/String;Ljava/lang/String;Ljava/util/List;Ljava/util/List;)V"⟩ : MethodName) prog_14_method_1_code 5 none ({ frames := 8, cells := 4, slots := 7, locals := 101 } : Room) Z #[(.ref t_), (.ref s1), (.ref s2), (.ref l1), (.ref l2)] h0 (fun v h L => ∃ (o_ : Addr), v = none ∧ Fr Z.heap.size L ∧ Keep h0 h [t_] ∧ h0.size ≤ o_ ∧ Fld Z h t_ "com/example/scopa/scopa/schema/Table" "primaryKey" "Ljava/util/List;" (.ref o_) ∧ Exa Z h o_ "java/util/ImmutableCollections$List12") := by
  refine Con.of (plainFor_of_name pn_35) (Ls := #[rv t_, rv s1, rv s2, rv l1, rv l2]) (fun m => efOf rfl) ?_
  intro p e s m below meth c T0 X0 hx hZ hby hml hown hnm hret hlk e0
  refine go (fun _ => XS.aloadN X0.here hx rfl (hb hby d31_0) rfl rfl) ?_
  show Ends p e below _ T0 (mkF m 1 #[rv t_, rv s1, rv s2, rv l1, rv l2] [(.ref t_)])
  refine cInit X0 hx hZ hown (by rw [hml]; rfl) e0 (hwi hw 113 rfl) (hwi hw 36 rfl) (hwi hw 38 rfl) (hwi hw 39 rfl) t_ [] [] rfl (rm_record hw t_ _) (hb hby d31_1) rfl (lenOf pd_7 rfl) rfl (by decide) (by decide) (Nat.le_of_ble_eq_true rfl) (by decide) (by decide) ?_
  rintro v995 T995 h995 L995 X995 e995 ⟨rfl, N995, rfl⟩
  have N995a := Fr.app (Fr.nil _) N995
  show Ends p e below _ T995 (mkF m 4 #[rv t_, rv s1, rv s2, rv l1, rv l2] [])
  refine go (fun _ => XS.aloadN X995.here hx rfl (hb hby d31_4) rfl rfl) ?_
  show Ends p e below _ T995 (mkF m 5 #[rv t_, rv s1, rv s2, rv l1, rv l2] [(.ref l1)])
  refine cStat X995 hx hZ hown (by rw [hml]; rfl) e995 (hwi hw 114 rfl) (hwi hw 115 rfl) (hwi hw 116 rfl) (hwi hw 117 rfl) [(.ref l1)] [] rfl (rm_co_2 hw l1 bl1 kl1 x y mr aL aN aE kN _ O0 MM SL XL FL VN SE El1 Ol1 Vl1 Ex Ey F2l1 F3l1) (hb hby d31_5) rfl (lenOf pd_25 rfl) (by decide) (by decide) (Nat.le_of_ble_eq_true rfl) (by decide) (by decide) ?_
  rintro v996 T996 h996 L996 X996 e996 ⟨o996, rfl, N996, K996, g996, E996, Fa996, Fb996⟩
  have N996a := Fr.app N995a N996
  have K1005 : Keep h0 h0 [t_] := (Keep.refl _ _)
  have O1006 : Ext Z.heap h996 := xk O0 K996 all0
  show Ends p e below _ T996 (mkF m 8 #[rv t_, rv s1, rv s2, rv l1, rv l2] [(.ref o996)])
  refine go (fun _ => XS.astoreN X996.here hx rfl (hb hby d31_8) rfl rfl (l' := #[rv t_, rv s1, rv s2, rv o996, rv l2]) rfl) ?_
  refine go (fun _ => XS.aload X996.here hx rfl (hb hby d31_9) rfl rfl) ?_
  show Ends p e below _ T996 (mkF m 11 #[rv t_, rv s1, rv s2, rv o996, rv l2] [(.ref l2)])
  have F1007 := (Exa.keep El2 K996)
  have F1008 := (Arv.keep Vl2 K996 nin0)
  have F1009 := (Exa.keep Ey K996)
  have F1010 := (Fld.keep F2l2 K996 nin0)
  have F1011 := (Fld.keep F3l2 K996 nin0)
  refine cStat X996 hx hZ hown (by rw [hml]; rfl) e996 (hwi hw 114 rfl) (hwi hw 115 rfl) (hwi hw 116 rfl) (hwi hw 117 rfl) [(.ref l2)] [] rfl (rm_co_1 hw l2 bl2 kl2 y mr aL aN aE kN _ O1006 MM SL XL FL VN SE F1007 Ol2 F1008 F1009 F1010 F1011) (hb hby d31_11) rfl (lenOf pd_25 rfl) (by decide) (by decide) (Nat.le_of_ble_eq_true rfl) (by decide) (by decide) ?_
  rintro v1012 T1012 h1012 L1012 X1012 e1012 ⟨o1012, rfl, N1012, K1012, g1012, E1012, Fa1012, Fb1012⟩
  have N1012a := Fr.app N996a N1012
  have F1020 := (Exa.keep E0 K996)
  have K1026 : Keep h0 h996 [t_] := (Keep.trans K1005 K996 all0)
  have b1025 : h0.size ≤ o1012 := Nat.le_trans (K1026).1 g1012
  show Ends p e below _ T1012 (mkF m 14 #[rv t_, rv s1, rv s2, rv o996, rv l2] [(.ref o1012)])
  refine go (fun _ => XS.astore X1012.here hx rfl (hb hby d31_14) rfl rfl (l' := #[rv t_, rv s1, rv s2, rv o996, rv o1012]) rfl) ?_
  refine go (fun _ => XS.aloadN X1012.here hx rfl (hb hby d31_16) rfl rfl) ?_
  refine go (fun _ => XS.aloadN X1012.here hx rfl (hb hby d31_17) rfl rfl) ?_
  show Ends p e below _ T1012 (mkF m 18 #[rv t_, rv s1, rv s2, rv o996, rv o1012] [(.ref s1), (.ref t_)])
  have F1028 := (Exa.keep F1020 K1012)
  have F1029 := (Fld.keep (Fld.keep F_schema K996 nin0) K1012 nin0)
  obtain ⟨T1030, h1030, X1030, e1030, W1030, s1030⟩ := putF X1012 hx hZ hown (host := "") (Or.inl (hwi hw 206 rfl)) Via.refl e1012 F1029 F1028 (Or.inr ⟨(hwi hw 207 rfl), rfl, hnm⟩) (hwi hw 108 rfl) (ty := (.object "java/lang/String")) (by decide) rfl rfl (g := (mkF m 18 #[rv t_, rv s1, rv s2, rv o996, rv o1012] [(.ref s1), (.ref t_)])) rfl rfl (hb hby d31_18)
  have N1030 := Fr.snoc X1030 N1012a f0
  refine go s1030 ?_
  show Ends p e below _ T1030 (mkF m 21 #[rv t_, rv s1, rv s2, rv o996, rv o1012] [])
  refine go (fun _ => XS.aloadN X1030.here hx rfl (hb hby d31_21) rfl rfl) ?_
  refine go (fun _ => XS.aloadN X1030.here hx rfl (hb hby d31_22) rfl rfl) ?_
  show Ends p e below _ T1030 (mkF m 23 #[rv t_, rv s1, rv s2, rv o996, rv o1012] [(.ref s2), (.ref t_)])
  have F1032 := (Exa.wr W1030 F1028)
  have F1033 := (Fld.other W1030 (Fld.keep (Fld.keep F_name K996 nin0) K1012 nin0) (Or.inr (slot_ne (a0 := a0) (Or.inr (hwi hw 209 rfl)) (Or.inr (hwi hw 207 rfl)) (by decide) (t := (.object "java/lang/String")) (t' := (.object "java/lang/String")) (by decide) (by decide))))
  obtain ⟨T1034, h1034, X1034, e1034, W1034, s1034⟩ := putF X1030 hx hZ hown (host := "") (Or.inl (hwi hw 208 rfl)) Via.refl e1030 F1033 F1032 (Or.inr ⟨(hwi hw 209 rfl), rfl, hnm⟩) (hwi hw 108 rfl) (ty := (.object "java/lang/String")) (by decide) rfl rfl (g := (mkF m 23 #[rv t_, rv s1, rv s2, rv o996, rv o1012] [(.ref s2), (.ref t_)])) rfl rfl (hb hby d31_23)
  have N1034 := Fr.snoc X1034 N1030 f0
  refine go s1034 ?_
  show Ends p e below _ T1034 (mkF m 26 #[rv t_, rv s1, rv s2, rv o996, rv o1012] [])
  refine go (fun _ => XS.aloadN X1034.here hx rfl (hb hby d31_26) rfl rfl) ?_
  refine go (fun _ => XS.aloadN X1034.here hx rfl (hb hby d31_27) rfl rfl) ?_
  show Ends p e below _ T1034 (mkF m 28 #[rv t_, rv s1, rv s2, rv o996, rv o1012] [(.ref o996), (.ref t_)])
  have F1036 := (Exa.wr W1034 F1032)
  have F1037 := (Fld.other W1034 (Fld.other W1030 (Fld.keep (Fld.keep F_columns K996 nin0) K1012 nin0) (Or.inr (slot_ne (a0 := a0) (Or.inr (hwi hw 211 rfl)) (Or.inr (hwi hw 207 rfl)) (by decide) (t := (.object "java/util/List")) (t' := (.object "java/lang/String")) (by decide) (by decide)))) (Or.inr (slot_ne (a0 := a0) (Or.inr (hwi hw 211 rfl)) (Or.inr (hwi hw 209 rfl)) (by decide) (t := (.object "java/util/List")) (t' := (.object "java/lang/String")) (by decide) (by decide))))
  obtain ⟨T1038, h1038, X1038, e1038, W1038, s1038⟩ := putF X1034 hx hZ hown (host := "") (Or.inl (hwi hw 210 rfl)) Via.refl e1034 F1037 F1036 (Or.inr ⟨(hwi hw 211 rfl), rfl, hnm⟩) (hwi hw 108 rfl) (ty := (.object "java/util/List")) (by decide) rfl rfl (g := (mkF m 28 #[rv t_, rv s1, rv s2, rv o996, rv o1012] [(.ref o996), (.ref t_)])) rfl rfl (hb hby d31_28)
  have N1038 := Fr.snoc X1038 N1034 f0
  refine go s1038 ?_
  show Ends p e below _ T1038 (mkF m 31 #[rv t_, rv s1, rv s2, rv o996, rv o1012] [])
  refine go (fun _ => XS.aloadN X1038.here hx rfl (hb hby d31_31) rfl rfl) ?_
  refine go (fun _ => XS.aload X1038.here hx rfl (hb hby d31_32) rfl rfl) ?_
  show Ends p e below _ T1038 (mkF m 34 #[rv t_, rv s1, rv s2, rv o996, rv o1012] [(.ref o1012), (.ref t_)])
  have F1040 := (Exa.wr W1038 F1036)
  have F1041 := (Fld.other W1038 (Fld.other W1034 (Fld.other W1030 (Fld.keep (Fld.keep F_primaryKey K996 nin0) K1012 nin0) (Or.inr (slot_ne (a0 := a0) (Or.inr (hwi hw 213 rfl)) (Or.inr (hwi hw 207 rfl)) (by decide) (t := (.object "java/util/List")) (t' := (.object "java/lang/String")) (by decide) (by decide)))) (Or.inr (slot_ne (a0 := a0) (Or.inr (hwi hw 213 rfl)) (Or.inr (hwi hw 209 rfl)) (by decide) (t := (.object "java/util/List")) (t' := (.object "java/lang/String")) (by decide) (by decide)))) (Or.inr (slot_ne (a0 := a0) (Or.inr (hwi hw 213 rfl)) (Or.inr (hwi hw 211 rfl)) (by decide) (t := (.object "java/util/List")) (t' := (.object "java/util/List")) (by decide) (by decide))))
  obtain ⟨T1042, h1042, X1042, e1042, W1042, s1042⟩ := putF X1038 hx hZ hown (host := "") (Or.inl (hwi hw 212 rfl)) Via.refl e1038 F1041 F1040 (Or.inr ⟨(hwi hw 213 rfl), rfl, hnm⟩) (hwi hw 108 rfl) (ty := (.object "java/util/List")) (by decide) rfl rfl (g := (mkF m 34 #[rv t_, rv s1, rv s2, rv o996, rv o1012] [(.ref o1012), (.ref t_)])) rfl rfl (hb hby d31_34)
  have N1042 := Fr.snoc X1042 N1038 f0
  refine go s1042 ?_
  show Ends p e below _ T1042 (mkF m 37 #[rv t_, rv s1, rv s2, rv o996, rv o1012] [])
  have F1044 := (Fld.same W1042 F1041)
  have K1045 : Keep h0 h1042 [t_] := (Keep.wr (Keep.wr (Keep.wr (Keep.wr (Keep.trans K1026 K1012 all0) W1030 (Or.inl (List.mem_of_getElem? (i := 0) rfl))) W1034 (Or.inl (List.mem_of_getElem? (i := 0) rfl))) W1038 (Or.inl (List.mem_of_getElem? (i := 0) rfl))) W1042 (Or.inl (List.mem_of_getElem? (i := 0) rfl)))
  have F1046 := (Exa.wr W1042 (Exa.wr W1038 (Exa.wr W1034 (Exa.wr W1030 E1012))))
  exact endV X1042 hx hret (hb hby d31_37) (lvN X1042 hlk e1042 (fun _ => rfl) ⟨o1012, rfl, N1042, K1045, b1025, F1044, F1046⟩ (by decide) (by decide))
set_option maxRecDepth 65536 in
set_option maxHeartbeats 40000000 in
theorem rm_tab_2_2 {l : Launch} {Z : State} {a0 : Array Value} (hw : ∀ d ∈ tables_1, d.before a0 Z = true) (t_ s1 s2 l1 l2 x y : Addr) (bl1 : Addr) (kl1 : ClassId) (bl2 : Addr) (kl2 : ClassId) (mr : Addr) (aL aN aE : Addr) (kN : ClassId) (h0 : Heap) (O0 : Ext Z.heap h0) (f0 : Z.heap.size ≤ t_) (E0 : Exa Z h0 t_ "com/example/scopa/scopa/schema/Table") (F_schema : Fld Z h0 t_ "com/example/scopa/scopa/schema/Table" "schema" "Ljava/lang/String;" .null) (F_name : Fld Z h0 t_ "com/example/scopa/scopa/schema/Table" "name" "Ljava/lang/String;" .null) (F_columns : Fld Z h0 t_ "com/example/scopa/scopa/schema/Table" "columns" "Ljava/util/List;" .null) (F_primaryKey : Fld Z h0 t_ "com/example/scopa/scopa/schema/Table" "primaryKey" "Ljava/util/List;" .null) (MM : Mid Z "[Ljava/lang/Object;" mr) (SL : Sta Z Z.heap "java/util/ImmutableCollections" "EMPTY_LIST" "Ljava/util/ImmutableCollections$ListN;" (.ref aL)) (XL : Exa Z Z.heap aL "java/util/ImmutableCollections$ListN") (FL : Fld Z Z.heap aL "java/util/ImmutableCollections$ListN" "elements" "[Ljava/lang/Object;" (.ref aN)) (VN : Arv Z Z.heap aN kN (.object "java/lang/Object") (0 : Int32) [] .null) (SE : Sta Z Z.heap "java/util/ImmutableCollections" "EMPTY" "Ljava/lang/Object;" (.ref aE)) (Ex : Exa Z h0 x "com/example/scopa/scopa/schema/Column") (Ey : Exa Z h0 y "com/example/scopa/scopa/schema/Column") (El1 : Exa Z h0 l1 "java/util/ArrayList") (F2l1 : Fld Z h0 l1 "java/util/ArrayList" "elementData" "[Ljava/lang/Object;" (.ref bl1)) (F3l1 : Fld Z h0 l1 "java/util/ArrayList" "size" "I" (.int 2)) (Ol1 : OvO Z kl1) (Vl1 : Arv Z h0 bl1 kl1 (.object "java/lang/Object") (10 : Int32) [(.ref x), (.ref y), .null, .null, .null, .null, .null, .null, .null, .null] .null) (El2 : Exa Z h0 l2 "java/util/ArrayList") (F2l2 : Fld Z h0 l2 "java/util/ArrayList" "elementData" "[Ljava/lang/Object;" (.ref bl2)) (F3l2 : Fld Z h0 l2 "java/util/ArrayList" "size" "I" (.int 2)) (Ol2 : OvO Z kl2) (Vl2 : Arv Z h0 bl2 kl2 (.object "java/lang/Object") (10 : Int32) [(.ref y), (.ref x), .null, .null, .null, .null, .null, .null, .null, .null] .null) (nex : t_ ≠ x) (ney : t_ ≠ y) :
    Con l (⟨"com/example/scopa/scopa/schema/Table", "<init>", "(Ljava/lang/String;Ljava/lang/String;Ljava/util/List;Ljava/util/List;)V"⟩ : MethodName) prog_14_method_1_code 5 none ({ frames := 8, cells := 4, slots := 8, locals := 101 } : Room) Z #[(.ref t_), (.ref s1), (.ref s2), (.ref l1), (.ref l2)] h0 (fun v h L => ∃ (o_ : Addr), v = none ∧ Fr Z.heap.size L ∧ Keep h0 h [t_] ∧ h0.size ≤ o_ ∧ Fld Z h t_ "com/example/scopa/scopa/schema/Table" "primaryKey" "Ljava/util/List;" (.ref o_) ∧ Exa Z h o_ "java/util/ImmutableCollections$List12") := by
  refine Con.of (plainFor_of_name pn_35) (Ls := #[rv t_, rv s1, rv s2, rv l1, rv l2]) (fun m => efOf rfl) ?_
  intro p e s m below meth c T0 X0 hx hZ hby hml hown hnm hret hlk e0
  refine go (fun _ => XS.aloadN X0.here hx rfl (hb hby d31_0) rfl rfl) ?_
  show Ends p e below _ T0 (mkF m 1 #[rv t_, rv s1, rv s2, rv l1, rv l2] [(.ref t_)])
  refine cInit X0 hx hZ hown (by rw [hml]; rfl) e0 (hwi hw 113 rfl) (hwi hw 36 rfl) (hwi hw 38 rfl) (hwi hw 39 rfl) t_ [] [] rfl (rm_record hw t_ _) (hb hby d31_1) rfl (lenOf pd_7 rfl) rfl (by decide) (by decide) (Nat.le_of_ble_eq_true rfl) (by decide) (by decide) ?_
  rintro v1047 T1047 h1047 L1047 X1047 e1047 ⟨rfl, N1047, rfl⟩
  have N1047a := Fr.app (Fr.nil _) N1047
  show Ends p e below _ T1047 (mkF m 4 #[rv t_, rv s1, rv s2, rv l1, rv l2] [])
  refine go (fun _ => XS.aloadN X1047.here hx rfl (hb hby d31_4) rfl rfl) ?_
  show Ends p e below _ T1047 (mkF m 5 #[rv t_, rv s1, rv s2, rv l1, rv l2] [(.ref l1)])
  refine cStat X1047 hx hZ hown (by rw [hml]; rfl) e1047 (hwi hw 114 rfl) (hwi hw 115 rfl) (hwi hw 116 rfl) (hwi hw 117 rfl) [(.ref l1)] [] rfl (rm_co_2 hw l1 bl1 kl1 x y mr aL aN aE kN _ O0 MM SL XL FL VN SE El1 Ol1 Vl1 Ex Ey F2l1 F3l1) (hb hby d31_5) rfl (lenOf pd_25 rfl) (by decide) (by decide) (Nat.le_of_ble_eq_true rfl) (by decide) (by decide) ?_
  rintro v1048 T1048 h1048 L1048 X1048 e1048 ⟨o1048, rfl, N1048, K1048, g1048, E1048, Fa1048, Fb1048⟩
  have N1048a := Fr.app N1047a N1048
  have K1057 : Keep h0 h0 [t_] := (Keep.refl _ _)
  have O1058 : Ext Z.heap h1048 := xk O0 K1048 all0
  show Ends p e below _ T1048 (mkF m 8 #[rv t_, rv s1, rv s2, rv l1, rv l2] [(.ref o1048)])
  refine go (fun _ => XS.astoreN X1048.here hx rfl (hb hby d31_8) rfl rfl (l' := #[rv t_, rv s1, rv s2, rv o1048, rv l2]) rfl) ?_
  refine go (fun _ => XS.aload X1048.here hx rfl (hb hby d31_9) rfl rfl) ?_
  show Ends p e below _ T1048 (mkF m 11 #[rv t_, rv s1, rv s2, rv o1048, rv l2] [(.ref l2)])
  have F1059 := (Exa.keep El2 K1048)
  have F1060 := (Arv.keep Vl2 K1048 nin0)
  have F1061 := (Exa.keep Ey K1048)
  have F1062 := (Exa.keep Ex K1048)
  have F1063 := (Fld.keep F2l2 K1048 nin0)
  have F1064 := (Fld.keep F3l2 K1048 nin0)
  refine cStat X1048 hx hZ hown (by rw [hml]; rfl) e1048 (hwi hw 114 rfl) (hwi hw 115 rfl) (hwi hw 116 rfl) (hwi hw 117 rfl) [(.ref l2)] [] rfl (rm_co_2 hw l2 bl2 kl2 y x mr aL aN aE kN _ O1058 MM SL XL FL VN SE F1059 Ol2 F1060 F1061 F1062 F1063 F1064) (hb hby d31_11) rfl (lenOf pd_25 rfl) (by decide) (by decide) (Nat.le_of_ble_eq_true rfl) (by decide) (by decide) ?_
  rintro v1065 T1065 h1065 L1065 X1065 e1065 ⟨o1065, rfl, N1065, K1065, g1065, E1065, Fa1065, Fb1065⟩
  have N1065a := Fr.app N1048a N1065
  have F1073 := (Exa.keep E0 K1048)
  have K1078 : Keep h0 h1048 [t_] := (Keep.trans K1057 K1048 all0)
  have b1077 : h0.size ≤ o1065 := Nat.le_trans (K1078).1 g1065
  show Ends p e below _ T1065 (mkF m 14 #[rv t_, rv s1, rv s2, rv o1048, rv l2] [(.ref o1065)])
  refine go (fun _ => XS.astore X1065.here hx rfl (hb hby d31_14) rfl rfl (l' := #[rv t_, rv s1, rv s2, rv o1048, rv o1065]) rfl) ?_
  refine go (fun _ => XS.aloadN X1065.here hx rfl (hb hby d31_16) rfl rfl) ?_
  refine go (fun _ => XS.aloadN X1065.here hx rfl (hb hby d31_17) rfl rfl) ?_
  show Ends p e below _ T1065 (mkF m 18 #[rv t_, rv s1, rv s2, rv o1048, rv o1065] [(.ref s1), (.ref t_)])
  have F1080 := (Exa.keep F1073 K1065)
  have F1081 := (Fld.keep (Fld.keep F_schema K1048 nin0) K1065 nin0)
  obtain ⟨T1082, h1082, X1082, e1082, W1082, s1082⟩ := putF X1065 hx hZ hown (host := "") (Or.inl (hwi hw 206 rfl)) Via.refl e1065 F1081 F1080 (Or.inr ⟨(hwi hw 207 rfl), rfl, hnm⟩) (hwi hw 108 rfl) (ty := (.object "java/lang/String")) (by decide) rfl rfl (g := (mkF m 18 #[rv t_, rv s1, rv s2, rv o1048, rv o1065] [(.ref s1), (.ref t_)])) rfl rfl (hb hby d31_18)
  have N1082 := Fr.snoc X1082 N1065a f0
  refine go s1082 ?_
  show Ends p e below _ T1082 (mkF m 21 #[rv t_, rv s1, rv s2, rv o1048, rv o1065] [])
  refine go (fun _ => XS.aloadN X1082.here hx rfl (hb hby d31_21) rfl rfl) ?_
  refine go (fun _ => XS.aloadN X1082.here hx rfl (hb hby d31_22) rfl rfl) ?_
  show Ends p e below _ T1082 (mkF m 23 #[rv t_, rv s1, rv s2, rv o1048, rv o1065] [(.ref s2), (.ref t_)])
  have F1084 := (Exa.wr W1082 F1080)
  have F1085 := (Fld.other W1082 (Fld.keep (Fld.keep F_name K1048 nin0) K1065 nin0) (Or.inr (slot_ne (a0 := a0) (Or.inr (hwi hw 209 rfl)) (Or.inr (hwi hw 207 rfl)) (by decide) (t := (.object "java/lang/String")) (t' := (.object "java/lang/String")) (by decide) (by decide))))
  obtain ⟨T1086, h1086, X1086, e1086, W1086, s1086⟩ := putF X1082 hx hZ hown (host := "") (Or.inl (hwi hw 208 rfl)) Via.refl e1082 F1085 F1084 (Or.inr ⟨(hwi hw 209 rfl), rfl, hnm⟩) (hwi hw 108 rfl) (ty := (.object "java/lang/String")) (by decide) rfl rfl (g := (mkF m 23 #[rv t_, rv s1, rv s2, rv o1048, rv o1065] [(.ref s2), (.ref t_)])) rfl rfl (hb hby d31_23)
  have N1086 := Fr.snoc X1086 N1082 f0
  refine go s1086 ?_
  show Ends p e below _ T1086 (mkF m 26 #[rv t_, rv s1, rv s2, rv o1048, rv o1065] [])
  refine go (fun _ => XS.aloadN X1086.here hx rfl (hb hby d31_26) rfl rfl) ?_
  refine go (fun _ => XS.aloadN X1086.here hx rfl (hb hby d31_27) rfl rfl) ?_
  show Ends p e below _ T1086 (mkF m 28 #[rv t_, rv s1, rv s2, rv o1048, rv o1065] [(.ref o1048), (.ref t_)])
  have F1088 := (Exa.wr W1086 F1084)
  have F1089 := (Fld.other W1086 (Fld.other W1082 (Fld.keep (Fld.keep F_columns K1048 nin0) K1065 nin0) (Or.inr (slot_ne (a0 := a0) (Or.inr (hwi hw 211 rfl)) (Or.inr (hwi hw 207 rfl)) (by decide) (t := (.object "java/util/List")) (t' := (.object "java/lang/String")) (by decide) (by decide)))) (Or.inr (slot_ne (a0 := a0) (Or.inr (hwi hw 211 rfl)) (Or.inr (hwi hw 209 rfl)) (by decide) (t := (.object "java/util/List")) (t' := (.object "java/lang/String")) (by decide) (by decide))))
  obtain ⟨T1090, h1090, X1090, e1090, W1090, s1090⟩ := putF X1086 hx hZ hown (host := "") (Or.inl (hwi hw 210 rfl)) Via.refl e1086 F1089 F1088 (Or.inr ⟨(hwi hw 211 rfl), rfl, hnm⟩) (hwi hw 108 rfl) (ty := (.object "java/util/List")) (by decide) rfl rfl (g := (mkF m 28 #[rv t_, rv s1, rv s2, rv o1048, rv o1065] [(.ref o1048), (.ref t_)])) rfl rfl (hb hby d31_28)
  have N1090 := Fr.snoc X1090 N1086 f0
  refine go s1090 ?_
  show Ends p e below _ T1090 (mkF m 31 #[rv t_, rv s1, rv s2, rv o1048, rv o1065] [])
  refine go (fun _ => XS.aloadN X1090.here hx rfl (hb hby d31_31) rfl rfl) ?_
  refine go (fun _ => XS.aload X1090.here hx rfl (hb hby d31_32) rfl rfl) ?_
  show Ends p e below _ T1090 (mkF m 34 #[rv t_, rv s1, rv s2, rv o1048, rv o1065] [(.ref o1065), (.ref t_)])
  have F1092 := (Exa.wr W1090 F1088)
  have F1093 := (Fld.other W1090 (Fld.other W1086 (Fld.other W1082 (Fld.keep (Fld.keep F_primaryKey K1048 nin0) K1065 nin0) (Or.inr (slot_ne (a0 := a0) (Or.inr (hwi hw 213 rfl)) (Or.inr (hwi hw 207 rfl)) (by decide) (t := (.object "java/util/List")) (t' := (.object "java/lang/String")) (by decide) (by decide)))) (Or.inr (slot_ne (a0 := a0) (Or.inr (hwi hw 213 rfl)) (Or.inr (hwi hw 209 rfl)) (by decide) (t := (.object "java/util/List")) (t' := (.object "java/lang/String")) (by decide) (by decide)))) (Or.inr (slot_ne (a0 := a0) (Or.inr (hwi hw 213 rfl)) (Or.inr (hwi hw 211 rfl)) (by decide) (t := (.object "java/util/List")) (t' := (.object "java/util/List")) (by decide) (by decide))))
  obtain ⟨T1094, h1094, X1094, e1094, W1094, s1094⟩ := putF X1090 hx hZ hown (host := "") (Or.inl (hwi hw 212 rfl)) Via.refl e1090 F1093 F1092 (Or.inr ⟨(hwi hw 213 rfl), rfl, hnm⟩) (hwi hw 108 rfl) (ty := (.object "java/util/List")) (by decide) rfl rfl (g := (mkF m 34 #[rv t_, rv s1, rv s2, rv o1048, rv o1065] [(.ref o1065), (.ref t_)])) rfl rfl (hb hby d31_34)
  have N1094 := Fr.snoc X1094 N1090 f0
  refine go s1094 ?_
  show Ends p e below _ T1094 (mkF m 37 #[rv t_, rv s1, rv s2, rv o1048, rv o1065] [])
  have F1096 := (Fld.same W1094 F1093)
  have K1097 : Keep h0 h1094 [t_] := (Keep.wr (Keep.wr (Keep.wr (Keep.wr (Keep.trans K1078 K1065 all0) W1082 (Or.inl (List.mem_of_getElem? (i := 0) rfl))) W1086 (Or.inl (List.mem_of_getElem? (i := 0) rfl))) W1090 (Or.inl (List.mem_of_getElem? (i := 0) rfl))) W1094 (Or.inl (List.mem_of_getElem? (i := 0) rfl)))
  have F1098 := (Exa.wr W1094 (Exa.wr W1090 (Exa.wr W1086 (Exa.wr W1082 E1065))))
  exact endV X1094 hx hret (hb hby d31_37) (lvN X1094 hlk e1094 (fun _ => rfl) ⟨o1065, rfl, N1094, K1097, b1077, F1096, F1098⟩ (by decide) (by decide))
set_option maxRecDepth 65536 in
set_option maxHeartbeats 40000000 in
theorem rm_tab_2_3 {l : Launch} {Z : State} {a0 : Array Value} (hw : ∀ d ∈ tables_1, d.before a0 Z = true) (t_ s1 s2 l1 l2 x y : Addr) (bl1 : Addr) (kl1 : ClassId) (bl2 : Addr) (kl2 : ClassId) (mr : Addr) (aL aN aE : Addr) (kN : ClassId) (h0 : Heap) (O0 : Ext Z.heap h0) (f0 : Z.heap.size ≤ t_) (E0 : Exa Z h0 t_ "com/example/scopa/scopa/schema/Table") (F_schema : Fld Z h0 t_ "com/example/scopa/scopa/schema/Table" "schema" "Ljava/lang/String;" .null) (F_name : Fld Z h0 t_ "com/example/scopa/scopa/schema/Table" "name" "Ljava/lang/String;" .null) (F_columns : Fld Z h0 t_ "com/example/scopa/scopa/schema/Table" "columns" "Ljava/util/List;" .null) (F_primaryKey : Fld Z h0 t_ "com/example/scopa/scopa/schema/Table" "primaryKey" "Ljava/util/List;" .null) (MM : Mid Z "[Ljava/lang/Object;" mr) (SL : Sta Z Z.heap "java/util/ImmutableCollections" "EMPTY_LIST" "Ljava/util/ImmutableCollections$ListN;" (.ref aL)) (XL : Exa Z Z.heap aL "java/util/ImmutableCollections$ListN") (FL : Fld Z Z.heap aL "java/util/ImmutableCollections$ListN" "elements" "[Ljava/lang/Object;" (.ref aN)) (VN : Arv Z Z.heap aN kN (.object "java/lang/Object") (0 : Int32) [] .null) (SE : Sta Z Z.heap "java/util/ImmutableCollections" "EMPTY" "Ljava/lang/Object;" (.ref aE)) (Ex : Exa Z h0 x "com/example/scopa/scopa/schema/Column") (Ey : Exa Z h0 y "com/example/scopa/scopa/schema/Column") (El1 : Exa Z h0 l1 "java/util/ArrayList") (F2l1 : Fld Z h0 l1 "java/util/ArrayList" "elementData" "[Ljava/lang/Object;" (.ref bl1)) (F3l1 : Fld Z h0 l1 "java/util/ArrayList" "size" "I" (.int 2)) (Ol1 : OvO Z kl1) (Vl1 : Arv Z h0 bl1 kl1 (.object "java/lang/Object") (10 : Int32) [(.ref x), (.ref y), .null, .null, .null, .null, .null, .null, .null, .null] .null) (El2 : Exa Z h0 l2 "java/util/ArrayList") (F2l2 : Fld Z h0 l2 "java/util/ArrayList" "elementData" "[Ljava/lang/Object;" (.ref bl2)) (F3l2 : Fld Z h0 l2 "java/util/ArrayList" "size" "I" (.int 3)) (Ol2 : OvO Z kl2) (Vl2 : Arv Z h0 bl2 kl2 (.object "java/lang/Object") (10 : Int32) [(.ref y), (.ref x), (.ref y), .null, .null, .null, .null, .null, .null, .null] .null) (nex : t_ ≠ x) (ney : t_ ≠ y) :
    Con l (⟨"com/example/scopa/scopa/schema/Table", "<init>", "(Ljava/lang/String;Ljava/lang/String;Ljava/util/List;Ljava/util/List;)V"⟩ : MethodName) prog_14_method_1_code 5 none ({ frames := 9, cells := 5, slots := 12, locals := 115 } : Room) Z #[(.ref t_), (.ref s1), (.ref s2), (.ref l1), (.ref l2)] h0 (fun v h L => ∃ (o_ r_ : Addr) (kr : ClassId), v = none ∧ Fr Z.heap.size L ∧ Keep h0 h [t_] ∧ h0.size ≤ o_ ∧ Fld Z h t_ "com/example/scopa/scopa/schema/Table" "primaryKey" "Ljava/util/List;" (.ref o_) ∧ Exa Z h o_ "java/util/ImmutableCollections$ListN" ∧ Fld Z h o_ "java/util/ImmutableCollections$ListN" "elements" "[Ljava/lang/Object;" (.ref r_) ∧ Arv Z h r_ kr (.object "java/lang/Object") (3 : Int32) [(.ref y), (.ref x), (.ref y)] .null) := by
  refine Con.of (plainFor_of_name pn_35) (Ls := #[rv t_, rv s1, rv s2, rv l1, rv l2]) (fun m => efOf rfl) ?_
  intro p e s m below meth c T0 X0 hx hZ hby hml hown hnm hret hlk e0
  refine go (fun _ => XS.aloadN X0.here hx rfl (hb hby d31_0) rfl rfl) ?_
  show Ends p e below _ T0 (mkF m 1 #[rv t_, rv s1, rv s2, rv l1, rv l2] [(.ref t_)])
  refine cInit X0 hx hZ hown (by rw [hml]; rfl) e0 (hwi hw 113 rfl) (hwi hw 36 rfl) (hwi hw 38 rfl) (hwi hw 39 rfl) t_ [] [] rfl (rm_record hw t_ _) (hb hby d31_1) rfl (lenOf pd_7 rfl) rfl (by decide) (by decide) (Nat.le_of_ble_eq_true rfl) (by decide) (by decide) ?_
  rintro v1099 T1099 h1099 L1099 X1099 e1099 ⟨rfl, N1099, rfl⟩
  have N1099a := Fr.app (Fr.nil _) N1099
  show Ends p e below _ T1099 (mkF m 4 #[rv t_, rv s1, rv s2, rv l1, rv l2] [])
  refine go (fun _ => XS.aloadN X1099.here hx rfl (hb hby d31_4) rfl rfl) ?_
  show Ends p e below _ T1099 (mkF m 5 #[rv t_, rv s1, rv s2, rv l1, rv l2] [(.ref l1)])
  refine cStat X1099 hx hZ hown (by rw [hml]; rfl) e1099 (hwi hw 114 rfl) (hwi hw 115 rfl) (hwi hw 116 rfl) (hwi hw 117 rfl) [(.ref l1)] [] rfl (rm_co_2 hw l1 bl1 kl1 x y mr aL aN aE kN _ O0 MM SL XL FL VN SE El1 Ol1 Vl1 Ex Ey F2l1 F3l1) (hb hby d31_5) rfl (lenOf pd_25 rfl) (by decide) (by decide) (Nat.le_of_ble_eq_true rfl) (by decide) (by decide) ?_
  rintro v1100 T1100 h1100 L1100 X1100 e1100 ⟨o1100, rfl, N1100, K1100, g1100, E1100, Fa1100, Fb1100⟩
  have N1100a := Fr.app N1099a N1100
  have K1109 : Keep h0 h0 [t_] := (Keep.refl _ _)
  have O1110 : Ext Z.heap h1100 := xk O0 K1100 all0
  show Ends p e below _ T1100 (mkF m 8 #[rv t_, rv s1, rv s2, rv l1, rv l2] [(.ref o1100)])
  refine go (fun _ => XS.astoreN X1100.here hx rfl (hb hby d31_8) rfl rfl (l' := #[rv t_, rv s1, rv s2, rv o1100, rv l2]) rfl) ?_
  refine go (fun _ => XS.aload X1100.here hx rfl (hb hby d31_9) rfl rfl) ?_
  show Ends p e below _ T1100 (mkF m 11 #[rv t_, rv s1, rv s2, rv o1100, rv l2] [(.ref l2)])
  have F1111 := (Exa.keep El2 K1100)
  have F1112 := (Arv.keep Vl2 K1100 nin0)
  have F1113 := (Exa.keep Ey K1100)
  have F1114 := (Exa.keep Ex K1100)
  have F1115 := (Fld.keep F2l2 K1100 nin0)
  have F1116 := (Fld.keep F3l2 K1100 nin0)
  refine cStat X1100 hx hZ hown (by rw [hml]; rfl) e1100 (hwi hw 114 rfl) (hwi hw 115 rfl) (hwi hw 116 rfl) (hwi hw 117 rfl) [(.ref l2)] [] rfl (rm_co_3 hw l2 bl2 kl2 y x y mr aL aN aE kN _ O1110 MM SL XL FL VN SE F1111 Ol2 F1112 F1113 F1114 F1113 F1115 F1116) (hb hby d31_11) rfl (lenOf pd_25 rfl) (by decide) (by decide) (Nat.le_of_ble_eq_true rfl) (by decide) (by decide) ?_
  rintro v1117 T1117 h1117 L1117 X1117 e1117 ⟨o1117, r1117, kr1117, rfl, N1117, K1117, g1117, gr1117, E1117, Fa1117, Fb1117⟩
  have N1117a := Fr.app N1100a N1117
  have F1125 := (Exa.keep E0 K1100)
  have n1126 : t_ ≠ o1117 := Nat.ne_of_lt (Nat.lt_of_lt_of_le (F1125.lt) g1117)
  have K1130 : Keep h0 h1100 [t_] := (Keep.trans K1109 K1100 all0)
  have b1129 : h0.size ≤ o1117 := Nat.le_trans (K1130).1 g1117
  have n1136 : t_ ≠ r1117 := Nat.ne_of_lt (Nat.lt_of_lt_of_le (F1125.lt) gr1117)
  show Ends p e below _ T1117 (mkF m 14 #[rv t_, rv s1, rv s2, rv o1100, rv l2] [(.ref o1117)])
  refine go (fun _ => XS.astore X1117.here hx rfl (hb hby d31_14) rfl rfl (l' := #[rv t_, rv s1, rv s2, rv o1100, rv o1117]) rfl) ?_
  refine go (fun _ => XS.aloadN X1117.here hx rfl (hb hby d31_16) rfl rfl) ?_
  refine go (fun _ => XS.aloadN X1117.here hx rfl (hb hby d31_17) rfl rfl) ?_
  show Ends p e below _ T1117 (mkF m 18 #[rv t_, rv s1, rv s2, rv o1100, rv o1117] [(.ref s1), (.ref t_)])
  have F1141 := (Exa.keep F1125 K1117)
  have F1142 := (Fld.keep (Fld.keep F_schema K1100 nin0) K1117 nin0)
  obtain ⟨T1143, h1143, X1143, e1143, W1143, s1143⟩ := putF X1117 hx hZ hown (host := "") (Or.inl (hwi hw 206 rfl)) Via.refl e1117 F1142 F1141 (Or.inr ⟨(hwi hw 207 rfl), rfl, hnm⟩) (hwi hw 108 rfl) (ty := (.object "java/lang/String")) (by decide) rfl rfl (g := (mkF m 18 #[rv t_, rv s1, rv s2, rv o1100, rv o1117] [(.ref s1), (.ref t_)])) rfl rfl (hb hby d31_18)
  have N1143 := Fr.snoc X1143 N1117a f0
  refine go s1143 ?_
  show Ends p e below _ T1143 (mkF m 21 #[rv t_, rv s1, rv s2, rv o1100, rv o1117] [])
  refine go (fun _ => XS.aloadN X1143.here hx rfl (hb hby d31_21) rfl rfl) ?_
  refine go (fun _ => XS.aloadN X1143.here hx rfl (hb hby d31_22) rfl rfl) ?_
  show Ends p e below _ T1143 (mkF m 23 #[rv t_, rv s1, rv s2, rv o1100, rv o1117] [(.ref s2), (.ref t_)])
  have F1145 := (Exa.wr W1143 F1141)
  have F1146 := (Fld.other W1143 (Fld.keep (Fld.keep F_name K1100 nin0) K1117 nin0) (Or.inr (slot_ne (a0 := a0) (Or.inr (hwi hw 209 rfl)) (Or.inr (hwi hw 207 rfl)) (by decide) (t := (.object "java/lang/String")) (t' := (.object "java/lang/String")) (by decide) (by decide))))
  obtain ⟨T1147, h1147, X1147, e1147, W1147, s1147⟩ := putF X1143 hx hZ hown (host := "") (Or.inl (hwi hw 208 rfl)) Via.refl e1143 F1146 F1145 (Or.inr ⟨(hwi hw 209 rfl), rfl, hnm⟩) (hwi hw 108 rfl) (ty := (.object "java/lang/String")) (by decide) rfl rfl (g := (mkF m 23 #[rv t_, rv s1, rv s2, rv o1100, rv o1117] [(.ref s2), (.ref t_)])) rfl rfl (hb hby d31_23)
  have N1147 := Fr.snoc X1147 N1143 f0
  refine go s1147 ?_
  show Ends p e below _ T1147 (mkF m 26 #[rv t_, rv s1, rv s2, rv o1100, rv o1117] [])
  refine go (fun _ => XS.aloadN X1147.here hx rfl (hb hby d31_26) rfl rfl) ?_
  refine go (fun _ => XS.aloadN X1147.here hx rfl (hb hby d31_27) rfl rfl) ?_
  show Ends p e below _ T1147 (mkF m 28 #[rv t_, rv s1, rv s2, rv o1100, rv o1117] [(.ref o1100), (.ref t_)])
  have F1149 := (Exa.wr W1147 F1145)
  have F1150 := (Fld.other W1147 (Fld.other W1143 (Fld.keep (Fld.keep F_columns K1100 nin0) K1117 nin0) (Or.inr (slot_ne (a0 := a0) (Or.inr (hwi hw 211 rfl)) (Or.inr (hwi hw 207 rfl)) (by decide) (t := (.object "java/util/List")) (t' := (.object "java/lang/String")) (by decide) (by decide)))) (Or.inr (slot_ne (a0 := a0) (Or.inr (hwi hw 211 rfl)) (Or.inr (hwi hw 209 rfl)) (by decide) (t := (.object "java/util/List")) (t' := (.object "java/lang/String")) (by decide) (by decide))))
  obtain ⟨T1151, h1151, X1151, e1151, W1151, s1151⟩ := putF X1147 hx hZ hown (host := "") (Or.inl (hwi hw 210 rfl)) Via.refl e1147 F1150 F1149 (Or.inr ⟨(hwi hw 211 rfl), rfl, hnm⟩) (hwi hw 108 rfl) (ty := (.object "java/util/List")) (by decide) rfl rfl (g := (mkF m 28 #[rv t_, rv s1, rv s2, rv o1100, rv o1117] [(.ref o1100), (.ref t_)])) rfl rfl (hb hby d31_28)
  have N1151 := Fr.snoc X1151 N1147 f0
  refine go s1151 ?_
  show Ends p e below _ T1151 (mkF m 31 #[rv t_, rv s1, rv s2, rv o1100, rv o1117] [])
  refine go (fun _ => XS.aloadN X1151.here hx rfl (hb hby d31_31) rfl rfl) ?_
  refine go (fun _ => XS.aload X1151.here hx rfl (hb hby d31_32) rfl rfl) ?_
  show Ends p e below _ T1151 (mkF m 34 #[rv t_, rv s1, rv s2, rv o1100, rv o1117] [(.ref o1117), (.ref t_)])
  have F1153 := (Exa.wr W1151 F1149)
  have F1154 := (Fld.other W1151 (Fld.other W1147 (Fld.other W1143 (Fld.keep (Fld.keep F_primaryKey K1100 nin0) K1117 nin0) (Or.inr (slot_ne (a0 := a0) (Or.inr (hwi hw 213 rfl)) (Or.inr (hwi hw 207 rfl)) (by decide) (t := (.object "java/util/List")) (t' := (.object "java/lang/String")) (by decide) (by decide)))) (Or.inr (slot_ne (a0 := a0) (Or.inr (hwi hw 213 rfl)) (Or.inr (hwi hw 209 rfl)) (by decide) (t := (.object "java/util/List")) (t' := (.object "java/lang/String")) (by decide) (by decide)))) (Or.inr (slot_ne (a0 := a0) (Or.inr (hwi hw 213 rfl)) (Or.inr (hwi hw 211 rfl)) (by decide) (t := (.object "java/util/List")) (t' := (.object "java/util/List")) (by decide) (by decide))))
  obtain ⟨T1155, h1155, X1155, e1155, W1155, s1155⟩ := putF X1151 hx hZ hown (host := "") (Or.inl (hwi hw 212 rfl)) Via.refl e1151 F1154 F1153 (Or.inr ⟨(hwi hw 213 rfl), rfl, hnm⟩) (hwi hw 108 rfl) (ty := (.object "java/util/List")) (by decide) rfl rfl (g := (mkF m 34 #[rv t_, rv s1, rv s2, rv o1100, rv o1117] [(.ref o1117), (.ref t_)])) rfl rfl (hb hby d31_34)
  have N1155 := Fr.snoc X1155 N1151 f0
  refine go s1155 ?_
  show Ends p e below _ T1155 (mkF m 37 #[rv t_, rv s1, rv s2, rv o1100, rv o1117] [])
  have F1157 := (Fld.same W1155 F1154)
  have K1158 : Keep h0 h1155 [t_] := (Keep.wr (Keep.wr (Keep.wr (Keep.wr (Keep.trans K1130 K1117 all0) W1143 (Or.inl (List.mem_of_getElem? (i := 0) rfl))) W1147 (Or.inl (List.mem_of_getElem? (i := 0) rfl))) W1151 (Or.inl (List.mem_of_getElem? (i := 0) rfl))) W1155 (Or.inl (List.mem_of_getElem? (i := 0) rfl)))
  have F1159 := (Exa.wr W1155 (Exa.wr W1151 (Exa.wr W1147 (Exa.wr W1143 E1117))))
  have F1160 := (Fld.other W1155 (Fld.other W1151 (Fld.other W1147 (Fld.other W1143 Fa1117 (Or.inl (Ne.symm n1126))) (Or.inl (Ne.symm n1126))) (Or.inl (Ne.symm n1126))) (Or.inl (Ne.symm n1126)))
  have F1161 := (Arv.other (Arv.other (Arv.other (Arv.other Fb1117 W1143 (Ne.symm n1136)) W1147 (Ne.symm n1136)) W1151 (Ne.symm n1136)) W1155 (Ne.symm n1136))
  exact endV X1155 hx hret (hb hby d31_37) (lvN X1155 hlk e1155 (fun _ => rfl) ⟨o1117, r1117, _, rfl, N1155, K1158, b1129, F1157, F1159, F1160, F1161⟩ (by decide) (by decide))
set_option maxRecDepth 65536 in
set_option maxHeartbeats 40000000 in
theorem rm_tab_3_0 {l : Launch} {Z : State} {a0 : Array Value} (hw : ∀ d ∈ tables_1, d.before a0 Z = true) (t_ s1 s2 l1 l2 x y : Addr) (bl1 : Addr) (kl1 : ClassId)  (mr : Addr) (aL aN aE : Addr) (kN : ClassId) (h0 : Heap) (O0 : Ext Z.heap h0) (f0 : Z.heap.size ≤ t_) (E0 : Exa Z h0 t_ "com/example/scopa/scopa/schema/Table") (F_schema : Fld Z h0 t_ "com/example/scopa/scopa/schema/Table" "schema" "Ljava/lang/String;" .null) (F_name : Fld Z h0 t_ "com/example/scopa/scopa/schema/Table" "name" "Ljava/lang/String;" .null) (F_columns : Fld Z h0 t_ "com/example/scopa/scopa/schema/Table" "columns" "Ljava/util/List;" .null) (F_primaryKey : Fld Z h0 t_ "com/example/scopa/scopa/schema/Table" "primaryKey" "Ljava/util/List;" .null) (MM : Mid Z "[Ljava/lang/Object;" mr) (SL : Sta Z Z.heap "java/util/ImmutableCollections" "EMPTY_LIST" "Ljava/util/ImmutableCollections$ListN;" (.ref aL)) (XL : Exa Z Z.heap aL "java/util/ImmutableCollections$ListN") (FL : Fld Z Z.heap aL "java/util/ImmutableCollections$ListN" "elements" "[Ljava/lang/Object;" (.ref aN)) (VN : Arv Z Z.heap aN kN (.object "java/lang/Object") (0 : Int32) [] .null) (SE : Sta Z Z.heap "java/util/ImmutableCollections" "EMPTY" "Ljava/lang/Object;" (.ref aE)) (Ex : Exa Z h0 x "com/example/scopa/scopa/schema/Column") (Ey : Exa Z h0 y "com/example/scopa/scopa/schema/Column") (El1 : Exa Z h0 l1 "java/util/ArrayList") (F2l1 : Fld Z h0 l1 "java/util/ArrayList" "elementData" "[Ljava/lang/Object;" (.ref bl1)) (F3l1 : Fld Z h0 l1 "java/util/ArrayList" "size" "I" (.int 3)) (Ol1 : OvO Z kl1) (Vl1 : Arv Z h0 bl1 kl1 (.object "java/lang/Object") (10 : Int32) [(.ref x), (.ref y), (.ref x), .null, .null, .null, .null, .null, .null, .null] .null) (El2 : Exa Z h0 l2 "java/util/ArrayList") (F3l2 : Fld Z h0 l2 "java/util/ArrayList" "size" "I" (.int 0)) (nex : t_ ≠ x) (ney : t_ ≠ y) :
    Con l (⟨"com/example/scopa/scopa/schema/Table", "<init>", "(Ljava/lang/String;Ljava/lang/String;Ljava/util/List;Ljava/util/List;)V"⟩ : MethodName) prog_14_method_1_code 5 none ({ frames := 9, cells := 3, slots := 8, locals := 115 } : Room) Z #[(.ref t_), (.ref s1), (.ref s2), (.ref l1), (.ref l2)] h0 (fun v h L => v = none ∧ Fr Z.heap.size L ∧ Keep h0 h [t_] ∧ Fld Z h t_ "com/example/scopa/scopa/schema/Table" "primaryKey" "Ljava/util/List;" (.ref aL)) := by
  refine Con.of (plainFor_of_name pn_35) (Ls := #[rv t_, rv s1, rv s2, rv l1, rv l2]) (fun m => efOf rfl) ?_
  intro p e s m below meth c T0 X0 hx hZ hby hml hown hnm hret hlk e0
  refine go (fun _ => XS.aloadN X0.here hx rfl (hb hby d31_0) rfl rfl) ?_
  show Ends p e below _ T0 (mkF m 1 #[rv t_, rv s1, rv s2, rv l1, rv l2] [(.ref t_)])
  refine cInit X0 hx hZ hown (by rw [hml]; rfl) e0 (hwi hw 113 rfl) (hwi hw 36 rfl) (hwi hw 38 rfl) (hwi hw 39 rfl) t_ [] [] rfl (rm_record hw t_ _) (hb hby d31_1) rfl (lenOf pd_7 rfl) rfl (by decide) (by decide) (Nat.le_of_ble_eq_true rfl) (by decide) (by decide) ?_
  rintro v1162 T1162 h1162 L1162 X1162 e1162 ⟨rfl, N1162, rfl⟩
  have N1162a := Fr.app (Fr.nil _) N1162
  show Ends p e below _ T1162 (mkF m 4 #[rv t_, rv s1, rv s2, rv l1, rv l2] [])
  refine go (fun _ => XS.aloadN X1162.here hx rfl (hb hby d31_4) rfl rfl) ?_
  show Ends p e below _ T1162 (mkF m 5 #[rv t_, rv s1, rv s2, rv l1, rv l2] [(.ref l1)])
  refine cStat X1162 hx hZ hown (by rw [hml]; rfl) e1162 (hwi hw 114 rfl) (hwi hw 115 rfl) (hwi hw 116 rfl) (hwi hw 117 rfl) [(.ref l1)] [] rfl (rm_co_3 hw l1 bl1 kl1 x y x mr aL aN aE kN _ O0 MM SL XL FL VN SE El1 Ol1 Vl1 Ex Ey Ex F2l1 F3l1) (hb hby d31_5) rfl (lenOf pd_25 rfl) (by decide) (by decide) (Nat.le_of_ble_eq_true rfl) (by decide) (by decide) ?_
  rintro v1163 T1163 h1163 L1163 X1163 e1163 ⟨o1163, r1163, kr1163, rfl, N1163, K1163, g1163, gr1163, E1163, Fa1163, Fb1163⟩
  have N1163a := Fr.app N1162a N1163
  have K1171 : Keep h0 h0 [t_] := (Keep.refl _ _)
  have O1179 : Ext Z.heap h1163 := xk O0 K1163 all0
  show Ends p e below _ T1163 (mkF m 8 #[rv t_, rv s1, rv s2, rv l1, rv l2] [(.ref o1163)])
  refine go (fun _ => XS.astoreN X1163.here hx rfl (hb hby d31_8) rfl rfl (l' := #[rv t_, rv s1, rv s2, rv o1163, rv l2]) rfl) ?_
  refine go (fun _ => XS.aload X1163.here hx rfl (hb hby d31_9) rfl rfl) ?_
  show Ends p e below _ T1163 (mkF m 11 #[rv t_, rv s1, rv s2, rv o1163, rv l2] [(.ref l2)])
  have F1180 := (Exa.keep El2 K1163)
  have F1181 := (Fld.keep F3l2 K1163 nin0)
  refine cStat X1163 hx hZ hown (by rw [hml]; rfl) e1163 (hwi hw 114 rfl) (hwi hw 115 rfl) (hwi hw 116 rfl) (hwi hw 117 rfl) [(.ref l2)] [] rfl (rm_co_0 hw l2 mr aL aN aE kN _ O1179 MM SL XL FL VN SE F1180 F1181) (hb hby d31_11) rfl (lenOf pd_25 rfl) (by decide) (by decide) (Nat.le_of_ble_eq_true rfl) (by decide) (by decide) ?_
  rintro v1182 T1182 h1182 L1182 X1182 e1182 ⟨rfl, N1182, rfl⟩
  have N1182a := Fr.app N1163a N1182
  show Ends p e below _ T1182 (mkF m 14 #[rv t_, rv s1, rv s2, rv o1163, rv l2] [(.ref aL)])
  refine go (fun _ => XS.astore X1182.here hx rfl (hb hby d31_14) rfl rfl (l' := #[rv t_, rv s1, rv s2, rv o1163, rv aL]) rfl) ?_
  refine go (fun _ => XS.aloadN X1182.here hx rfl (hb hby d31_16) rfl rfl) ?_
  refine go (fun _ => XS.aloadN X1182.here hx rfl (hb hby d31_17) rfl rfl) ?_
  show Ends p e below _ T1182 (mkF m 18 #[rv t_, rv s1, rv s2, rv o1163, rv aL] [(.ref s1), (.ref t_)])
  have F1183 := (Exa.keep E0 K1163)
  have F1184 := (Fld.keep F_schema K1163 nin0)
  obtain ⟨T1185, h1185, X1185, e1185, W1185, s1185⟩ := putF X1182 hx hZ hown (host := "") (Or.inl (hwi hw 206 rfl)) Via.refl e1182 F1184 F1183 (Or.inr ⟨(hwi hw 207 rfl), rfl, hnm⟩) (hwi hw 108 rfl) (ty := (.object "java/lang/String")) (by decide) rfl rfl (g := (mkF m 18 #[rv t_, rv s1, rv s2, rv o1163, rv aL] [(.ref s1), (.ref t_)])) rfl rfl (hb hby d31_18)
  have N1185 := Fr.snoc X1185 N1182a f0
  refine go s1185 ?_
  show Ends p e below _ T1185 (mkF m 21 #[rv t_, rv s1, rv s2, rv o1163, rv aL] [])
  refine go (fun _ => XS.aloadN X1185.here hx rfl (hb hby d31_21) rfl rfl) ?_
  refine go (fun _ => XS.aloadN X1185.here hx rfl (hb hby d31_22) rfl rfl) ?_
  show Ends p e below _ T1185 (mkF m 23 #[rv t_, rv s1, rv s2, rv o1163, rv aL] [(.ref s2), (.ref t_)])
  have F1187 := (Exa.wr W1185 F1183)
  have F1188 := (Fld.other W1185 (Fld.keep F_name K1163 nin0) (Or.inr (slot_ne (a0 := a0) (Or.inr (hwi hw 209 rfl)) (Or.inr (hwi hw 207 rfl)) (by decide) (t := (.object "java/lang/String")) (t' := (.object "java/lang/String")) (by decide) (by decide))))
  obtain ⟨T1189, h1189, X1189, e1189, W1189, s1189⟩ := putF X1185 hx hZ hown (host := "") (Or.inl (hwi hw 208 rfl)) Via.refl e1185 F1188 F1187 (Or.inr ⟨(hwi hw 209 rfl), rfl, hnm⟩) (hwi hw 108 rfl) (ty := (.object "java/lang/String")) (by decide) rfl rfl (g := (mkF m 23 #[rv t_, rv s1, rv s2, rv o1163, rv aL] [(.ref s2), (.ref t_)])) rfl rfl (hb hby d31_23)
  have N1189 := Fr.snoc X1189 N1185 f0
  refine go s1189 ?_
  show Ends p e below _ T1189 (mkF m 26 #[rv t_, rv s1, rv s2, rv o1163, rv aL] [])
  refine go (fun _ => XS.aloadN X1189.here hx rfl (hb hby d31_26) rfl rfl) ?_
  refine go (fun _ => XS.aloadN X1189.here hx rfl (hb hby d31_27) rfl rfl) ?_
  show Ends p e below _ T1189 (mkF m 28 #[rv t_, rv s1, rv s2, rv o1163, rv aL] [(.ref o1163), (.ref t_)])
  have F1191 := (Exa.wr W1189 F1187)
  have F1192 := (Fld.other W1189 (Fld.other W1185 (Fld.keep F_columns K1163 nin0) (Or.inr (slot_ne (a0 := a0) (Or.inr (hwi hw 211 rfl)) (Or.inr (hwi hw 207 rfl)) (by decide) (t := (.object "java/util/List")) (t' := (.object "java/lang/String")) (by decide) (by decide)))) (Or.inr (slot_ne (a0 := a0) (Or.inr (hwi hw 211 rfl)) (Or.inr (hwi hw 209 rfl)) (by decide) (t := (.object "java/util/List")) (t' := (.object "java/lang/String")) (by decide) (by decide))))
  obtain ⟨T1193, h1193, X1193, e1193, W1193, s1193⟩ := putF X1189 hx hZ hown (host := "") (Or.inl (hwi hw 210 rfl)) Via.refl e1189 F1192 F1191 (Or.inr ⟨(hwi hw 211 rfl), rfl, hnm⟩) (hwi hw 108 rfl) (ty := (.object "java/util/List")) (by decide) rfl rfl (g := (mkF m 28 #[rv t_, rv s1, rv s2, rv o1163, rv aL] [(.ref o1163), (.ref t_)])) rfl rfl (hb hby d31_28)
  have N1193 := Fr.snoc X1193 N1189 f0
  refine go s1193 ?_
  show Ends p e below _ T1193 (mkF m 31 #[rv t_, rv s1, rv s2, rv o1163, rv aL] [])
  refine go (fun _ => XS.aloadN X1193.here hx rfl (hb hby d31_31) rfl rfl) ?_
  refine go (fun _ => XS.aload X1193.here hx rfl (hb hby d31_32) rfl rfl) ?_
  show Ends p e below _ T1193 (mkF m 34 #[rv t_, rv s1, rv s2, rv o1163, rv aL] [(.ref aL), (.ref t_)])
  have F1195 := (Exa.wr W1193 F1191)
  have F1196 := (Fld.other W1193 (Fld.other W1189 (Fld.other W1185 (Fld.keep F_primaryKey K1163 nin0) (Or.inr (slot_ne (a0 := a0) (Or.inr (hwi hw 213 rfl)) (Or.inr (hwi hw 207 rfl)) (by decide) (t := (.object "java/util/List")) (t' := (.object "java/lang/String")) (by decide) (by decide)))) (Or.inr (slot_ne (a0 := a0) (Or.inr (hwi hw 213 rfl)) (Or.inr (hwi hw 209 rfl)) (by decide) (t := (.object "java/util/List")) (t' := (.object "java/lang/String")) (by decide) (by decide)))) (Or.inr (slot_ne (a0 := a0) (Or.inr (hwi hw 213 rfl)) (Or.inr (hwi hw 211 rfl)) (by decide) (t := (.object "java/util/List")) (t' := (.object "java/util/List")) (by decide) (by decide))))
  obtain ⟨T1197, h1197, X1197, e1197, W1197, s1197⟩ := putF X1193 hx hZ hown (host := "") (Or.inl (hwi hw 212 rfl)) Via.refl e1193 F1196 F1195 (Or.inr ⟨(hwi hw 213 rfl), rfl, hnm⟩) (hwi hw 108 rfl) (ty := (.object "java/util/List")) (by decide) rfl rfl (g := (mkF m 34 #[rv t_, rv s1, rv s2, rv o1163, rv aL] [(.ref aL), (.ref t_)])) rfl rfl (hb hby d31_34)
  have N1197 := Fr.snoc X1197 N1193 f0
  refine go s1197 ?_
  show Ends p e below _ T1197 (mkF m 37 #[rv t_, rv s1, rv s2, rv o1163, rv aL] [])
  have F1199 := (Fld.same W1197 F1196)
  have K1200 : Keep h0 h1197 [t_] := (Keep.wr (Keep.wr (Keep.wr (Keep.wr (Keep.trans K1171 K1163 all0) W1185 (Or.inl (List.mem_of_getElem? (i := 0) rfl))) W1189 (Or.inl (List.mem_of_getElem? (i := 0) rfl))) W1193 (Or.inl (List.mem_of_getElem? (i := 0) rfl))) W1197 (Or.inl (List.mem_of_getElem? (i := 0) rfl)))
  exact endV X1197 hx hret (hb hby d31_37) (lvN X1197 hlk e1197 (fun _ => rfl) ⟨rfl, N1197, K1200, F1199⟩ (by decide) (by decide))
set_option maxRecDepth 65536 in
set_option maxHeartbeats 40000000 in
theorem rm_tab_3_1 {l : Launch} {Z : State} {a0 : Array Value} (hw : ∀ d ∈ tables_1, d.before a0 Z = true) (t_ s1 s2 l1 l2 x y : Addr) (bl1 : Addr) (kl1 : ClassId) (bl2 : Addr) (kl2 : ClassId) (mr : Addr) (aL aN aE : Addr) (kN : ClassId) (h0 : Heap) (O0 : Ext Z.heap h0) (f0 : Z.heap.size ≤ t_) (E0 : Exa Z h0 t_ "com/example/scopa/scopa/schema/Table") (F_schema : Fld Z h0 t_ "com/example/scopa/scopa/schema/Table" "schema" "Ljava/lang/String;" .null) (F_name : Fld Z h0 t_ "com/example/scopa/scopa/schema/Table" "name" "Ljava/lang/String;" .null) (F_columns : Fld Z h0 t_ "com/example/scopa/scopa/schema/Table" "columns" "Ljava/util/List;" .null) (F_primaryKey : Fld Z h0 t_ "com/example/scopa/scopa/schema/Table" "primaryKey" "Ljava/util/List;" .null) (MM : Mid Z "[Ljava/lang/Object;" mr) (SL : Sta Z Z.heap "java/util/ImmutableCollections" "EMPTY_LIST" "Ljava/util/ImmutableCollections$ListN;" (.ref aL)) (XL : Exa Z Z.heap aL "java/util/ImmutableCollections$ListN") (FL : Fld Z Z.heap aL "java/util/ImmutableCollections$ListN" "elements" "[Ljava/lang/Object;" (.ref aN)) (VN : Arv Z Z.heap aN kN (.object "java/lang/Object") (0 : Int32) [] .null) (SE : Sta Z Z.heap "java/util/ImmutableCollections" "EMPTY" "Ljava/lang/Object;" (.ref aE)) (Ex : Exa Z h0 x "com/example/scopa/scopa/schema/Column") (Ey : Exa Z h0 y "com/example/scopa/scopa/schema/Column") (El1 : Exa Z h0 l1 "java/util/ArrayList") (F2l1 : Fld Z h0 l1 "java/util/ArrayList" "elementData" "[Ljava/lang/Object;" (.ref bl1)) (F3l1 : Fld Z h0 l1 "java/util/ArrayList" "size" "I" (.int 3)) (Ol1 : OvO Z kl1) (Vl1 : Arv Z h0 bl1 kl1 (.object "java/lang/Object") (10 : Int32) [(.ref x), (.ref y), (.ref x), .null, .null, .null, .null, .null, .null, .null] .null) (El2 : Exa Z h0 l2 "java/util/ArrayList") (F2l2 : Fld Z h0 l2 "java/util/ArrayList" "elementData" "[Ljava/lang/Object;" (.ref bl2)) (F3l2 : Fld Z h0 l2 "java/util/ArrayList" "size" "I" (.int 1)) (Ol2 : OvO Z kl2) (Vl2 : Arv Z h0 bl2 kl2 (.object "java/lang/Object") (10 : Int32) [(.ref y), .null, .null, .null, .null, .null, .null, .null, .null, .null] .null) (nex : t_ ≠ x) (ney : t_ ≠ y) :
    Con l (⟨"com/example/scopa/scopa/schema/Table", "<init>", "(Ljava/lang/String;Ljava/lang/String;Ljava/util/List;Ljava/util/List;)V"⟩ : MethodName) prog_14_method_1_code 5 none ({ frames := 9, cells := 5, slots := 11, locals := 115 } : Room) Z #[(.ref t_), (.ref s1), (.ref s2), (.ref l1), (.ref l2)] h0 (fun v h L => ∃ (o_ : Addr), v = none ∧ Fr Z.heap.size L ∧ Keep h0 h [t_] ∧ h0.size ≤ o_ ∧ Fld Z h t_ "com/example/scopa/scopa/schema/Table" "primaryKey" "Ljava/util/List;" (.ref o_) ∧ Exa Z h o_ "java/util/ImmutableCollections$List12") := by
  refine Con.of (plainFor_of_name pn_35) (Ls := #[rv t_, rv s1, rv s2, rv l1, rv l2]) (fun m => efOf rfl) ?_
  intro p e s m below meth c T0 X0 hx hZ hby hml hown hnm hret hlk e0
  refine go (fun _ => XS.aloadN X0.here hx rfl (hb hby d31_0) rfl rfl) ?_
  show Ends p e below _ T0 (mkF m 1 #[rv t_, rv s1, rv s2, rv l1, rv l2] [(.ref t_)])
  refine cInit X0 hx hZ hown (by rw [hml]; rfl) e0 (hwi hw 113 rfl) (hwi hw 36 rfl) (hwi hw 38 rfl) (hwi hw 39 rfl) t_ [] [] rfl (rm_record hw t_ _) (hb hby d31_1) rfl (lenOf pd_7 rfl) rfl (by decide) (by decide) (Nat.le_of_ble_eq_true rfl) (by decide) (by decide) ?_
  rintro v1201 T1201 h1201 L1201 X1201 e1201 ⟨rfl, N1201, rfl⟩
  have N1201a := Fr.app (Fr.nil _) N1201
  show Ends p e below _ T1201 (mkF m 4 #[rv t_, rv s1, rv s2, rv l1, rv l2] [])
  refine go (fun _ => XS.aloadN X1201.here hx rfl (hb hby d31_4) rfl rfl) ?_
  show Ends p e below _ T1201 (mkF m 5 #[rv t_, rv s1, rv s2, rv l1, rv l2] [(.ref l1)])
  refine cStat X1201 hx hZ hown (by rw [hml]; rfl) e1201 (hwi hw 114 rfl) (hwi hw 115 rfl) (hwi hw 116 rfl) (hwi hw 117 rfl) [(.ref l1)] [] rfl (rm_co_3 hw l1 bl1 kl1 x y x mr aL aN aE kN _ O0 MM SL XL FL VN SE El1 Ol1 Vl1 Ex Ey Ex F2l1 F3l1) (hb hby d31_5) rfl (lenOf pd_25 rfl) (by decide) (by decide) (Nat.le_of_ble_eq_true rfl) (by decide) (by decide) ?_
  rintro v1202 T1202 h1202 L1202 X1202 e1202 ⟨o1202, r1202, kr1202, rfl, N1202, K1202, g1202, gr1202, E1202, Fa1202, Fb1202⟩
  have N1202a := Fr.app N1201a N1202
  have K1211 : Keep h0 h0 [t_] := (Keep.refl _ _)
  have O1220 : Ext Z.heap h1202 := xk O0 K1202 all0
  show Ends p e below _ T1202 (mkF m 8 #[rv t_, rv s1, rv s2, rv l1, rv l2] [(.ref o1202)])
  refine go (fun _ => XS.astoreN X1202.here hx rfl (hb hby d31_8) rfl rfl (l' := #[rv t_, rv s1, rv s2, rv o1202, rv l2]) rfl) ?_
  refine go (fun _ => XS.aload X1202.here hx rfl (hb hby d31_9) rfl rfl) ?_
  show Ends p e below _ T1202 (mkF m 11 #[rv t_, rv s1, rv s2, rv o1202, rv l2] [(.ref l2)])
  have F1221 := (Exa.keep El2 K1202)
  have F1222 := (Arv.keep Vl2 K1202 nin0)
  have F1223 := (Exa.keep Ey K1202)
  have F1224 := (Fld.keep F2l2 K1202 nin0)
  have F1225 := (Fld.keep F3l2 K1202 nin0)
  refine cStat X1202 hx hZ hown (by rw [hml]; rfl) e1202 (hwi hw 114 rfl) (hwi hw 115 rfl) (hwi hw 116 rfl) (hwi hw 117 rfl) [(.ref l2)] [] rfl (rm_co_1 hw l2 bl2 kl2 y mr aL aN aE kN _ O1220 MM SL XL FL VN SE F1221 Ol2 F1222 F1223 F1224 F1225) (hb hby d31_11) rfl (lenOf pd_25 rfl) (by decide) (by decide) (Nat.le_of_ble_eq_true rfl) (by decide) (by decide) ?_
  rintro v1226 T1226 h1226 L1226 X1226 e1226 ⟨o1226, rfl, N1226, K1226, g1226, E1226, Fa1226, Fb1226⟩
  have N1226a := Fr.app N1202a N1226
  have F1235 := (Exa.keep E0 K1202)
  have K1241 : Keep h0 h1202 [t_] := (Keep.trans K1211 K1202 all0)
  have b1240 : h0.size ≤ o1226 := Nat.le_trans (K1241).1 g1226
  show Ends p e below _ T1226 (mkF m 14 #[rv t_, rv s1, rv s2, rv o1202, rv l2] [(.ref o1226)])
  refine go (fun _ => XS.astore X1226.here hx rfl (hb hby d31_14) rfl rfl (l' := #[rv t_, rv s1, rv s2, rv o1202, rv o1226]) rfl) ?_
  refine go (fun _ => XS.aloadN X1226.here hx rfl (hb hby d31_16) rfl rfl) ?_
  refine go (fun _ => XS.aloadN X1226.here hx rfl (hb hby d31_17) rfl rfl) ?_
  show Ends p e below _ T1226 (mkF m 18 #[rv t_, rv s1, rv s2, rv o1202, rv o1226] [(.ref s1), (.ref t_)])
  have F1243 := (Exa.keep F1235 K1226)
  have F1244 := (Fld.keep (Fld.keep F_schema K1202 nin0) K1226 nin0)
  obtain ⟨T1245, h1245, X1245, e1245, W1245, s1245⟩ := putF X1226 hx hZ hown (host := "") (Or.inl (hwi hw 206 rfl)) Via.refl e1226 F1244 F1243 (Or.inr ⟨(hwi hw 207 rfl), rfl, hnm⟩) (hwi hw 108 rfl) (ty := (.object "java/lang/String")) (by decide) rfl rfl (g := (mkF m 18 #[rv t_, rv s1, rv s2, rv o1202, rv o1226] [(.ref s1), (.ref t_)])) rfl rfl (hb hby d31_18)
  have N1245 := Fr.snoc X1245 N1226a f0
  refine go s1245 ?_
  show Ends p e below _ T1245 (mkF m 21 #[rv t_, rv s1, rv s2, rv o1202, rv o1226] [])
  refine go (fun _ => XS.aloadN X1245.here hx rfl (hb hby d31_21) rfl rfl) ?_
  refine go (fun _ => XS.aloadN X1245.here hx rfl (hb hby d31_22) rfl rfl) ?_
  show Ends p e below _ T1245 (mkF m 23 #[rv t_, rv s1, rv s2, rv o1202, rv o1226] [(.ref s2), (.ref t_)])
  have F1247 := (Exa.wr W1245 F1243)
  have F1248 := (Fld.other W1245 (Fld.keep (Fld.keep F_name K1202 nin0) K1226 nin0) (Or.inr (slot_ne (a0 := a0) (Or.inr (hwi hw 209 rfl)) (Or.inr (hwi hw 207 rfl)) (by decide) (t := (.object "java/lang/String")) (t' := (.object "java/lang/String")) (by decide) (by decide))))
  obtain ⟨T1249, h1249, X1249, e1249, W1249, s1249⟩ := putF X1245 hx hZ hown (host := "") (Or.inl (hwi hw 208 rfl)) Via.refl e1245 F1248 F1247 (Or.inr ⟨(hwi hw 209 rfl), rfl, hnm⟩) (hwi hw 108 rfl) (ty := (.object "java/lang/String")) (by decide) rfl rfl (g := (mkF m 23 #[rv t_, rv s1, rv s2, rv o1202, rv o1226] [(.ref s2), (.ref t_)])) rfl rfl (hb hby d31_23)
  have N1249 := Fr.snoc X1249 N1245 f0
  refine go s1249 ?_
  show Ends p e below _ T1249 (mkF m 26 #[rv t_, rv s1, rv s2, rv o1202, rv o1226] [])
  refine go (fun _ => XS.aloadN X1249.here hx rfl (hb hby d31_26) rfl rfl) ?_
  refine go (fun _ => XS.aloadN X1249.here hx rfl (hb hby d31_27) rfl rfl) ?_
  show Ends p e below _ T1249 (mkF m 28 #[rv t_, rv s1, rv s2, rv o1202, rv o1226] [(.ref o1202), (.ref t_)])
  have F1251 := (Exa.wr W1249 F1247)
  have F1252 := (Fld.other W1249 (Fld.other W1245 (Fld.keep (Fld.keep F_columns K1202 nin0) K1226 nin0) (Or.inr (slot_ne (a0 := a0) (Or.inr (hwi hw 211 rfl)) (Or.inr (hwi hw 207 rfl)) (by decide) (t := (.object "java/util/List")) (t' := (.object "java/lang/String")) (by decide) (by decide)))) (Or.inr (slot_ne (a0 := a0) (Or.inr (hwi hw 211 rfl)) (Or.inr (hwi hw 209 rfl)) (by decide) (t := (.object "java/util/List")) (t' := (.object "java/lang/String")) (by decide) (by decide))))
  obtain ⟨T1253, h1253, X1253, e1253, W1253, s1253⟩ := putF X1249 hx hZ hown (host := "") (Or.inl (hwi hw 210 rfl)) Via.refl e1249 F1252 F1251 (Or.inr ⟨(hwi hw 211 rfl), rfl, hnm⟩) (hwi hw 108 rfl) (ty := (.object "java/util/List")) (by decide) rfl rfl (g := (mkF m 28 #[rv t_, rv s1, rv s2, rv o1202, rv o1226] [(.ref o1202), (.ref t_)])) rfl rfl (hb hby d31_28)
  have N1253 := Fr.snoc X1253 N1249 f0
  refine go s1253 ?_
  show Ends p e below _ T1253 (mkF m 31 #[rv t_, rv s1, rv s2, rv o1202, rv o1226] [])
  refine go (fun _ => XS.aloadN X1253.here hx rfl (hb hby d31_31) rfl rfl) ?_
  refine go (fun _ => XS.aload X1253.here hx rfl (hb hby d31_32) rfl rfl) ?_
  show Ends p e below _ T1253 (mkF m 34 #[rv t_, rv s1, rv s2, rv o1202, rv o1226] [(.ref o1226), (.ref t_)])
  have F1255 := (Exa.wr W1253 F1251)
  have F1256 := (Fld.other W1253 (Fld.other W1249 (Fld.other W1245 (Fld.keep (Fld.keep F_primaryKey K1202 nin0) K1226 nin0) (Or.inr (slot_ne (a0 := a0) (Or.inr (hwi hw 213 rfl)) (Or.inr (hwi hw 207 rfl)) (by decide) (t := (.object "java/util/List")) (t' := (.object "java/lang/String")) (by decide) (by decide)))) (Or.inr (slot_ne (a0 := a0) (Or.inr (hwi hw 213 rfl)) (Or.inr (hwi hw 209 rfl)) (by decide) (t := (.object "java/util/List")) (t' := (.object "java/lang/String")) (by decide) (by decide)))) (Or.inr (slot_ne (a0 := a0) (Or.inr (hwi hw 213 rfl)) (Or.inr (hwi hw 211 rfl)) (by decide) (t := (.object "java/util/List")) (t' := (.object "java/util/List")) (by decide) (by decide))))
  obtain ⟨T1257, h1257, X1257, e1257, W1257, s1257⟩ := putF X1253 hx hZ hown (host := "") (Or.inl (hwi hw 212 rfl)) Via.refl e1253 F1256 F1255 (Or.inr ⟨(hwi hw 213 rfl), rfl, hnm⟩) (hwi hw 108 rfl) (ty := (.object "java/util/List")) (by decide) rfl rfl (g := (mkF m 34 #[rv t_, rv s1, rv s2, rv o1202, rv o1226] [(.ref o1226), (.ref t_)])) rfl rfl (hb hby d31_34)
  have N1257 := Fr.snoc X1257 N1253 f0
  refine go s1257 ?_
  show Ends p e below _ T1257 (mkF m 37 #[rv t_, rv s1, rv s2, rv o1202, rv o1226] [])
  have F1259 := (Fld.same W1257 F1256)
  have K1260 : Keep h0 h1257 [t_] := (Keep.wr (Keep.wr (Keep.wr (Keep.wr (Keep.trans K1241 K1226 all0) W1245 (Or.inl (List.mem_of_getElem? (i := 0) rfl))) W1249 (Or.inl (List.mem_of_getElem? (i := 0) rfl))) W1253 (Or.inl (List.mem_of_getElem? (i := 0) rfl))) W1257 (Or.inl (List.mem_of_getElem? (i := 0) rfl)))
  have F1261 := (Exa.wr W1257 (Exa.wr W1253 (Exa.wr W1249 (Exa.wr W1245 E1226))))
  exact endV X1257 hx hret (hb hby d31_37) (lvN X1257 hlk e1257 (fun _ => rfl) ⟨o1226, rfl, N1257, K1260, b1240, F1259, F1261⟩ (by decide) (by decide))
set_option maxRecDepth 65536 in
set_option maxHeartbeats 40000000 in
theorem rm_tab_3_2 {l : Launch} {Z : State} {a0 : Array Value} (hw : ∀ d ∈ tables_1, d.before a0 Z = true) (t_ s1 s2 l1 l2 x y : Addr) (bl1 : Addr) (kl1 : ClassId) (bl2 : Addr) (kl2 : ClassId) (mr : Addr) (aL aN aE : Addr) (kN : ClassId) (h0 : Heap) (O0 : Ext Z.heap h0) (f0 : Z.heap.size ≤ t_) (E0 : Exa Z h0 t_ "com/example/scopa/scopa/schema/Table") (F_schema : Fld Z h0 t_ "com/example/scopa/scopa/schema/Table" "schema" "Ljava/lang/String;" .null) (F_name : Fld Z h0 t_ "com/example/scopa/scopa/schema/Table" "name" "Ljava/lang/String;" .null) (F_columns : Fld Z h0 t_ "com/example/scopa/scopa/schema/Table" "columns" "Ljava/util/List;" .null) (F_primaryKey : Fld Z h0 t_ "com/example/scopa/scopa/schema/Table" "primaryKey" "Ljava/util/List;" .null) (MM : Mid Z "[Ljava/lang/Object;" mr) (SL : Sta Z Z.heap "java/util/ImmutableCollections" "EMPTY_LIST" "Ljava/util/ImmutableCollections$ListN;" (.ref aL)) (XL : Exa Z Z.heap aL "java/util/ImmutableCollections$ListN") (FL : Fld Z Z.heap aL "java/util/ImmutableCollections$ListN" "elements" "[Ljava/lang/Object;" (.ref aN)) (VN : Arv Z Z.heap aN kN (.object "java/lang/Object") (0 : Int32) [] .null) (SE : Sta Z Z.heap "java/util/ImmutableCollections" "EMPTY" "Ljava/lang/Object;" (.ref aE)) (Ex : Exa Z h0 x "com/example/scopa/scopa/schema/Column") (Ey : Exa Z h0 y "com/example/scopa/scopa/schema/Column") (El1 : Exa Z h0 l1 "java/util/ArrayList") (F2l1 : Fld Z h0 l1 "java/util/ArrayList" "elementData" "[Ljava/lang/Object;" (.ref bl1)) (F3l1 : Fld Z h0 l1 "java/util/ArrayList" "size" "I" (.int 3)) (Ol1 : OvO Z kl1) (Vl1 : Arv Z h0 bl1 kl1 (.object "java/lang/Object") (10 : Int32) [(.ref x), (.ref y), (.ref x), .null, .null, .null, .null, .null, .null, .null] .null) (El2 : Exa Z h0 l2 "java/util/ArrayList") (F2l2 : Fld Z h0 l2 "java/util/ArrayList" "elementData" "[Ljava/lang/Object;" (.ref bl2)) (F3l2 : Fld Z h0 l2 "java/util/ArrayList" "size" "I" (.int 2)) (Ol2 : OvO Z kl2) (Vl2 : Arv Z h0 bl2 kl2 (.object "java/lang/Object") (10 : Int32) [(.ref y), (.ref x), .null, .null, .null, .null, .null, .null, .null, .null] .null) (nex : t_ ≠ x) (ney : t_ ≠ y) :
    Con l (⟨"com/example/scopa/scopa/schema/Table", "<init>", "(Ljava/lang/String;Ljava/lang/String;Ljava/util/List;Ljava/util/List;)V"⟩ : MethodName) prog_14_method_1_code 5 none ({ frames := 9, cells := 5, slots := 12, locals := 115 } : Room) Z #[(.ref t_), (.ref s1), (.ref s2), (.ref l1), (.ref l2)] h0 (fun v h L => ∃ (o_ : Addr), v = none ∧ Fr Z.heap.size L ∧ Keep h0 h [t_] ∧ h0.size ≤ o_ ∧ Fld Z h t_ "com/example/scopa/scopa/schema/Table" "primaryKey" "Ljava/util/List;" (.ref o_) ∧ Exa Z h o_ "java/util/ImmutableCollections$List12") := by
  refine Con.of (plainFor_of_name pn_35) (Ls := #[rv t_, rv s1, rv s2, rv l1, rv l2]) (fun m => efOf rfl) ?_
  intro p e s m below meth c T0 X0 hx hZ hby hml hown hnm hret hlk e0
  refine go (fun _ => XS.aloadN X0.here hx rfl (hb hby d31_0) rfl rfl) ?_
  show Ends p e below _ T0 (mkF m 1 #[rv t_, rv s1, rv s2, rv l1, rv l2] [(.ref t_)])
  refine cInit X0 hx hZ hown (by rw [hml]; rfl) e0 (hwi hw 113 rfl) (hwi hw 36 rfl) (hwi hw 38 rfl) (hwi hw 39 rfl) t_ [] [] rfl (rm_record hw t_ _) (hb hby d31_1) rfl (lenOf pd_7 rfl) rfl (by decide) (by decide) (Nat.le_of_ble_eq_true rfl) (by decide) (by decide) ?_
  rintro v1262 T1262 h1262 L1262 X1262 e1262 ⟨rfl, N1262, rfl⟩
  have N1262a := Fr.app (Fr.nil _) N1262
  show Ends p e below _ T1262 (mkF m 4 #[rv t_, rv s1, rv s2, rv l1, rv l2] [])
  refine go (fun _ => XS.aloadN X1262.here hx rfl (hb hby d31_4) rfl rfl) ?_
  show Ends p e below _ T1262 (mkF m 5 #[rv t_, rv s1, rv s2, rv l1, rv l2] [(.ref l1)])
  refine cStat X1262 hx hZ hown (by rw [hml]; rfl) e1262 (hwi hw 114 rfl) (hwi hw 115 rfl) (hwi hw 116 rfl) (hwi hw 117 rfl) [(.ref l1)] [] rfl (rm_co_3 hw l1 bl1 kl1 x y x mr aL aN aE kN _ O0 MM SL XL FL VN SE El1 Ol1 Vl1 Ex Ey Ex F2l1 F3l1) (hb hby d31_5) rfl (lenOf pd_25 rfl) (by decide) (by decide) (Nat.le_of_ble_eq_true rfl) (by decide) (by decide) ?_
  rintro v1263 T1263 h1263 L1263 X1263 e1263 ⟨o1263, r1263, kr1263, rfl, N1263, K1263, g1263, gr1263, E1263, Fa1263, Fb1263⟩
  have N1263a := Fr.app N1262a N1263
  have K1272 : Keep h0 h0 [t_] := (Keep.refl _ _)
  have O1281 : Ext Z.heap h1263 := xk O0 K1263 all0
  show Ends p e below _ T1263 (mkF m 8 #[rv t_, rv s1, rv s2, rv l1, rv l2] [(.ref o1263)])
  refine go (fun _ => XS.astoreN X1263.here hx rfl (hb hby d31_8) rfl rfl (l' := #[rv t_, rv s1, rv s2, rv o1263, rv l2]) rfl) ?_
  refine go (fun _ => XS.aload X1263.here hx rfl (hb hby d31_9) rfl rfl) ?_
  show Ends p e below _ T1263 (mkF m 11 #[rv t_, rv s1, rv s2, rv o1263, rv l2] [(.ref l2)])
  have F1282 := (Exa.keep El2 K1263)
  have F1283 := (Arv.keep Vl2 K1263 nin0)
  have F1284 := (Exa.keep Ey K1263)
  have F1285 := (Exa.keep Ex K1263)
  have F1286 := (Fld.keep F2l2 K1263 nin0)
  have F1287 := (Fld.keep F3l2 K1263 nin0)
  refine cStat X1263 hx hZ hown (by rw [hml]; rfl) e1263 (hwi hw 114 rfl) (hwi hw 115 rfl) (hwi hw 116 rfl) (hwi hw 117 rfl) [(.ref l2)] [] rfl (rm_co_2 hw l2 bl2 kl2 y x mr aL aN aE kN _ O1281 MM SL XL FL VN SE F1282 Ol2 F1283 F1284 F1285 F1286 F1287) (hb hby d31_11) rfl (lenOf pd_25 rfl) (by decide) (by decide) (Nat.le_of_ble_eq_true rfl) (by decide) (by decide) ?_
  rintro v1288 T1288 h1288 L1288 X1288 e1288 ⟨o1288, rfl, N1288, K1288, g1288, E1288, Fa1288, Fb1288⟩
  have N1288a := Fr.app N1263a N1288
  have F1297 := (Exa.keep E0 K1263)
  have K1302 : Keep h0 h1263 [t_] := (Keep.trans K1272 K1263 all0)
  have b1301 : h0.size ≤ o1288 := Nat.le_trans (K1302).1 g1288
  show Ends p e below _ T1288 (mkF m 14 #[rv t_, rv s1, rv s2, rv o1263, rv l2] [(.ref o1288)])
  refine go (fun _ => XS.astore X1288.here hx rfl (hb hby d31_14) rfl rfl (l' := #[rv t_, rv s1, rv s2, rv o1263, rv o1288]) rfl) ?_
  refine go (fun _ => XS.aloadN X1288.here hx rfl (hb hby d31_16) rfl rfl) ?_
  refine go (fun _ => XS.aloadN X1288.here hx rfl (hb hby d31_17) rfl rfl) ?_
  show Ends p e below _ T1288 (mkF m 18 #[rv t_, rv s1, rv s2, rv o1263, rv o1288] [(.ref s1), (.ref t_)])
  have F1304 := (Exa.keep F1297 K1288)
  have F1305 := (Fld.keep (Fld.keep F_schema K1263 nin0) K1288 nin0)
  obtain ⟨T1306, h1306, X1306, e1306, W1306, s1306⟩ := putF X1288 hx hZ hown (host := "") (Or.inl (hwi hw 206 rfl)) Via.refl e1288 F1305 F1304 (Or.inr ⟨(hwi hw 207 rfl), rfl, hnm⟩) (hwi hw 108 rfl) (ty := (.object "java/lang/String")) (by decide) rfl rfl (g := (mkF m 18 #[rv t_, rv s1, rv s2, rv o1263, rv o1288] [(.ref s1), (.ref t_)])) rfl rfl (hb hby d31_18)
  have N1306 := Fr.snoc X1306 N1288a f0
  refine go s1306 ?_
  show Ends p e below _ T1306 (mkF m 21 #[rv t_, rv s1, rv s2, rv o1263, rv o1288] [])
  refine go (fun _ => XS.aloadN X1306.here hx rfl (hb hby d31_21) rfl rfl) ?_
  refine go (fun _ => XS.aloadN X1306.here hx rfl (hb hby d31_22) rfl rfl) ?_
  show Ends p e below _ T1306 (mkF m 23 #[rv t_, rv s1, rv s2, rv o1263, rv o1288] [(.ref s2), (.ref t_)])
  have F1308 := (Exa.wr W1306 F1304)
  have F1309 := (Fld.other W1306 (Fld.keep (Fld.keep F_name K1263 nin0) K1288 nin0) (Or.inr (slot_ne (a0 := a0) (Or.inr (hwi hw 209 rfl)) (Or.inr (hwi hw 207 rfl)) (by decide) (t := (.object "java/lang/String")) (t' := (.object "java/lang/String")) (by decide) (by decide))))
  obtain ⟨T1310, h1310, X1310, e1310, W1310, s1310⟩ := putF X1306 hx hZ hown (host := "") (Or.inl (hwi hw 208 rfl)) Via.refl e1306 F1309 F1308 (Or.inr ⟨(hwi hw 209 rfl), rfl, hnm⟩) (hwi hw 108 rfl) (ty := (.object "java/lang/String")) (by decide) rfl rfl (g := (mkF m 23 #[rv t_, rv s1, rv s2, rv o1263, rv o1288] [(.ref s2), (.ref t_)])) rfl rfl (hb hby d31_23)
  have N1310 := Fr.snoc X1310 N1306 f0
  refine go s1310 ?_
  show Ends p e below _ T1310 (mkF m 26 #[rv t_, rv s1, rv s2, rv o1263, rv o1288] [])
  refine go (fun _ => XS.aloadN X1310.here hx rfl (hb hby d31_26) rfl rfl) ?_
  refine go (fun _ => XS.aloadN X1310.here hx rfl (hb hby d31_27) rfl rfl) ?_
  show Ends p e below _ T1310 (mkF m 28 #[rv t_, rv s1, rv s2, rv o1263, rv o1288] [(.ref o1263), (.ref t_)])
  have F1312 := (Exa.wr W1310 F1308)
  have F1313 := (Fld.other W1310 (Fld.other W1306 (Fld.keep (Fld.keep F_columns K1263 nin0) K1288 nin0) (Or.inr (slot_ne (a0 := a0) (Or.inr (hwi hw 211 rfl)) (Or.inr (hwi hw 207 rfl)) (by decide) (t := (.object "java/util/List")) (t' := (.object "java/lang/String")) (by decide) (by decide)))) (Or.inr (slot_ne (a0 := a0) (Or.inr (hwi hw 211 rfl)) (Or.inr (hwi hw 209 rfl)) (by decide) (t := (.object "java/util/List")) (t' := (.object "java/lang/String")) (by decide) (by decide))))
  obtain ⟨T1314, h1314, X1314, e1314, W1314, s1314⟩ := putF X1310 hx hZ hown (host := "") (Or.inl (hwi hw 210 rfl)) Via.refl e1310 F1313 F1312 (Or.inr ⟨(hwi hw 211 rfl), rfl, hnm⟩) (hwi hw 108 rfl) (ty := (.object "java/util/List")) (by decide) rfl rfl (g := (mkF m 28 #[rv t_, rv s1, rv s2, rv o1263, rv o1288] [(.ref o1263), (.ref t_)])) rfl rfl (hb hby d31_28)
  have N1314 := Fr.snoc X1314 N1310 f0
  refine go s1314 ?_
  show Ends p e below _ T1314 (mkF m 31 #[rv t_, rv s1, rv s2, rv o1263, rv o1288] [])
  refine go (fun _ => XS.aloadN X1314.here hx rfl (hb hby d31_31) rfl rfl) ?_
  refine go (fun _ => XS.aload X1314.here hx rfl (hb hby d31_32) rfl rfl) ?_
  show Ends p e below _ T1314 (mkF m 34 #[rv t_, rv s1, rv s2, rv o1263, rv o1288] [(.ref o1288), (.ref t_)])
  have F1316 := (Exa.wr W1314 F1312)
  have F1317 := (Fld.other W1314 (Fld.other W1310 (Fld.other W1306 (Fld.keep (Fld.keep F_primaryKey K1263 nin0) K1288 nin0) (Or.inr (slot_ne (a0 := a0) (Or.inr (hwi hw 213 rfl)) (Or.inr (hwi hw 207 rfl)) (by decide) (t := (.object "java/util/List")) (t' := (.object "java/lang/String")) (by decide) (by decide)))) (Or.inr (slot_ne (a0 := a0) (Or.inr (hwi hw 213 rfl)) (Or.inr (hwi hw 209 rfl)) (by decide) (t := (.object "java/util/List")) (t' := (.object "java/lang/String")) (by decide) (by decide)))) (Or.inr (slot_ne (a0 := a0) (Or.inr (hwi hw 213 rfl)) (Or.inr (hwi hw 211 rfl)) (by decide) (t := (.object "java/util/List")) (t' := (.object "java/util/List")) (by decide) (by decide))))
  obtain ⟨T1318, h1318, X1318, e1318, W1318, s1318⟩ := putF X1314 hx hZ hown (host := "") (Or.inl (hwi hw 212 rfl)) Via.refl e1314 F1317 F1316 (Or.inr ⟨(hwi hw 213 rfl), rfl, hnm⟩) (hwi hw 108 rfl) (ty := (.object "java/util/List")) (by decide) rfl rfl (g := (mkF m 34 #[rv t_, rv s1, rv s2, rv o1263, rv o1288] [(.ref o1288), (.ref t_)])) rfl rfl (hb hby d31_34)
  have N1318 := Fr.snoc X1318 N1314 f0
  refine go s1318 ?_
  show Ends p e below _ T1318 (mkF m 37 #[rv t_, rv s1, rv s2, rv o1263, rv o1288] [])
  have F1320 := (Fld.same W1318 F1317)
  have K1321 : Keep h0 h1318 [t_] := (Keep.wr (Keep.wr (Keep.wr (Keep.wr (Keep.trans K1302 K1288 all0) W1306 (Or.inl (List.mem_of_getElem? (i := 0) rfl))) W1310 (Or.inl (List.mem_of_getElem? (i := 0) rfl))) W1314 (Or.inl (List.mem_of_getElem? (i := 0) rfl))) W1318 (Or.inl (List.mem_of_getElem? (i := 0) rfl)))
  have F1322 := (Exa.wr W1318 (Exa.wr W1314 (Exa.wr W1310 (Exa.wr W1306 E1288))))
  exact endV X1318 hx hret (hb hby d31_37) (lvN X1318 hlk e1318 (fun _ => rfl) ⟨o1288, rfl, N1318, K1321, b1301, F1320, F1322⟩ (by decide) (by decide))
set_option maxRecDepth 65536 in
set_option maxHeartbeats 40000000 in
theorem rm_tab_3_3 {l : Launch} {Z : State} {a0 : Array Value} (hw : ∀ d ∈ tables_1, d.before a0 Z = true) (t_ s1 s2 l1 l2 x y : Addr) (bl1 : Addr) (kl1 : ClassId) (bl2 : Addr) (kl2 : ClassId) (mr : Addr) (aL aN aE : Addr) (kN : ClassId) (h0 : Heap) (O0 : Ext Z.heap h0) (f0 : Z.heap.size ≤ t_) (E0 : Exa Z h0 t_ "com/example/scopa/scopa/schema/Table") (F_schema : Fld Z h0 t_ "com/example/scopa/scopa/schema/Table" "schema" "Ljava/lang/String;" .null) (F_name : Fld Z h0 t_ "com/example/scopa/scopa/schema/Table" "name" "Ljava/lang/String;" .null) (F_columns : Fld Z h0 t_ "com/example/scopa/scopa/schema/Table" "columns" "Ljava/util/List;" .null) (F_primaryKey : Fld Z h0 t_ "com/example/scopa/scopa/schema/Table" "primaryKey" "Ljava/util/List;" .null) (MM : Mid Z "[Ljava/lang/Object;" mr) (SL : Sta Z Z.heap "java/util/ImmutableCollections" "EMPTY_LIST" "Ljava/util/ImmutableCollections$ListN;" (.ref aL)) (XL : Exa Z Z.heap aL "java/util/ImmutableCollections$ListN") (FL : Fld Z Z.heap aL "java/util/ImmutableCollections$ListN" "elements" "[Ljava/lang/Object;" (.ref aN)) (VN : Arv Z Z.heap aN kN (.object "java/lang/Object") (0 : Int32) [] .null) (SE : Sta Z Z.heap "java/util/ImmutableCollections" "EMPTY" "Ljava/lang/Object;" (.ref aE)) (Ex : Exa Z h0 x "com/example/scopa/scopa/schema/Column") (Ey : Exa Z h0 y "com/example/scopa/scopa/schema/Column") (El1 : Exa Z h0 l1 "java/util/ArrayList") (F2l1 : Fld Z h0 l1 "java/util/ArrayList" "elementData" "[Ljava/lang/Object;" (.ref bl1)) (F3l1 : Fld Z h0 l1 "java/util/ArrayList" "size" "I" (.int 3)) (Ol1 : OvO Z kl1) (Vl1 : Arv Z h0 bl1 kl1 (.object "java/lang/Object") (10 : Int32) [(.ref x), (.ref y), (.ref x), .null, .null, .null, .null, .null, .null, .null] .null) (El2 : Exa Z h0 l2 "java/util/ArrayList") (F2l2 : Fld Z h0 l2 "java/util/ArrayList" "elementData" "[Ljava/lang/Object;" (.ref bl2)) (F3l2 : Fld Z h0 l2 "java/util/ArrayList" "size" "I" (.int 3)) (Ol2 : OvO Z kl2) (Vl2 : Arv Z h0 bl2 kl2 (.object "java/lang/Object") (10 : Int32) [(.ref y), (.ref x), (.ref y), .null, .null, .null, .null, .null, .null, .null] .null) (nex : t_ ≠ x) (ney : t_ ≠ y) :
    Con l (⟨"com/example/scopa/scopa/schema/Table", "<init>", "(Ljava/lang/String;Ljava/lang/String;Ljava/util/List;Ljava/util/List;)V"⟩ : MethodName) prog_14_method_1_code 5 none ({ frames := 9, cells := 6, slots := 16, locals := 115 } : Room) Z #[(.ref t_), (.ref s1), (.ref s2), (.ref l1), (.ref l2)] h0 (fun v h L => ∃ (o_ r_ : Addr) (kr : ClassId), v = none ∧ Fr Z.heap.size L ∧ Keep h0 h [t_] ∧ h0.size ≤ o_ ∧ Fld Z h t_ "com/example/scopa/scopa/schema/Table" "primaryKey" "Ljava/util/List;" (.ref o_) ∧ Exa Z h o_ "java/util/ImmutableCollections$ListN" ∧ Fld Z h o_ "java/util/ImmutableCollections$ListN" "elements" "[Ljava/lang/Object;" (.ref r_) ∧ Arv Z h r_ kr (.object "java/lang/Object") (3 : Int32) [(.ref y), (.ref x), (.ref y)] .null) := by
  refine Con.of (plainFor_of_name pn_35) (Ls := #[rv t_, rv s1, rv s2, rv l1, rv l2]) (fun m => efOf rfl) ?_
  intro p e s m below meth c T0 X0 hx hZ hby hml hown hnm hret hlk e0
  refine go (fun _ => XS.aloadN X0.here hx rfl (hb hby d31_0) rfl rfl) ?_
  show Ends p e below _ T0 (mkF m 1 #[rv t_, rv s1, rv s2, rv l1, rv l2] [(.ref t_)])
  refine cInit X0 hx hZ hown (by rw [hml]; rfl) e0 (hwi hw 113 rfl) (hwi hw 36 rfl) (hwi hw 38 rfl) (hwi hw 39 rfl) t_ [] [] rfl (rm_record hw t_ _) (hb hby d31_1) rfl (lenOf pd_7 rfl) rfl (by decide) (by decide) (Nat.le_of_ble_eq_true rfl) (by decide) (by decide) ?_
  rintro v1323 T1323 h1323 L1323 X1323 e1323 ⟨rfl, N1323, rfl⟩
  have N1323a := Fr.app (Fr.nil _) N1323
  show Ends p e below _ T1323 (mkF m 4 #[rv t_, rv s1, rv s2, rv l1, rv l2] [])
  refine go (fun _ => XS.aloadN X1323.here hx rfl (hb hby d31_4) rfl rfl) ?_
  show Ends p e below _ T1323 (mkF m 5 #[rv t_, rv s1, rv s2, rv l1, rv l2] [(.ref l1)])
  refine cStat X1323 hx hZ hown (by rw [hml]; rfl) e1323 (hwi hw 114 rfl) (hwi hw 115 rfl) (hwi hw 116 rfl) (hwi hw 117 rfl) [(.ref l1)] [] rfl (rm_co_3 hw l1 bl1 kl1 x y x mr aL aN aE kN _ O0 MM SL XL FL VN SE El1 Ol1 Vl1 Ex Ey Ex F2l1 F3l1) (hb hby d31_5) rfl (lenOf pd_25 rfl) (by decide) (by decide) (Nat.le_of_ble_eq_true rfl) (by decide) (by decide) ?_
  rintro v1324 T1324 h1324 L1324 X1324 e1324 ⟨o1324, r1324, kr1324, rfl, N1324, K1324, g1324, gr1324, E1324, Fa1324, Fb1324⟩
  have N1324a := Fr.app N1323a N1324
  have K1333 : Keep h0 h0 [t_] := (Keep.refl _ _)
  have O1342 : Ext Z.heap h1324 := xk O0 K1324 all0
  show Ends p e below _ T1324 (mkF m 8 #[rv t_, rv s1, rv s2, rv l1, rv l2] [(.ref o1324)])
  refine go (fun _ => XS.astoreN X1324.here hx rfl (hb hby d31_8) rfl rfl (l' := #[rv t_, rv s1, rv s2, rv o1324, rv l2]) rfl) ?_
  refine go (fun _ => XS.aload X1324.here hx rfl (hb hby d31_9) rfl rfl) ?_
  show Ends p e below _ T1324 (mkF m 11 #[rv t_, rv s1, rv s2, rv o1324, rv l2] [(.ref l2)])
  have F1343 := (Exa.keep El2 K1324)
  have F1344 := (Arv.keep Vl2 K1324 nin0)
  have F1345 := (Exa.keep Ey K1324)
  have F1346 := (Exa.keep Ex K1324)
  have F1347 := (Fld.keep F2l2 K1324 nin0)
  have F1348 := (Fld.keep F3l2 K1324 nin0)
  refine cStat X1324 hx hZ hown (by rw [hml]; rfl) e1324 (hwi hw 114 rfl) (hwi hw 115 rfl) (hwi hw 116 rfl) (hwi hw 117 rfl) [(.ref l2)] [] rfl (rm_co_3 hw l2 bl2 kl2 y x y mr aL aN aE kN _ O1342 MM SL XL FL VN SE F1343 Ol2 F1344 F1345 F1346 F1345 F1347 F1348) (hb hby d31_11) rfl (lenOf pd_25 rfl) (by decide) (by decide) (Nat.le_of_ble_eq_true rfl) (by decide) (by decide) ?_
  rintro v1349 T1349 h1349 L1349 X1349 e1349 ⟨o1349, r1349, kr1349, rfl, N1349, K1349, g1349, gr1349, E1349, Fa1349, Fb1349⟩
  have N1349a := Fr.app N1324a N1349
  have F1358 := (Exa.keep E0 K1324)
  have n1359 : t_ ≠ o1349 := Nat.ne_of_lt (Nat.lt_of_lt_of_le (F1358.lt) g1349)
  have K1363 : Keep h0 h1324 [t_] := (Keep.trans K1333 K1324 all0)
  have b1362 : h0.size ≤ o1349 := Nat.le_trans (K1363).1 g1349
  have n1370 : t_ ≠ r1349 := Nat.ne_of_lt (Nat.lt_of_lt_of_le (F1358.lt) gr1349)
  show Ends p e below _ T1349 (mkF m 14 #[rv t_, rv s1, rv s2, rv o1324, rv l2] [(.ref o1349)])
  refine go (fun _ => XS.astore X1349.here hx rfl (hb hby d31_14) rfl rfl (l' := #[rv t_, rv s1, rv s2, rv o1324, rv o1349]) rfl) ?_
  refine go (fun _ => XS.aloadN X1349.here hx rfl (hb hby d31_16) rfl rfl) ?_
  refine go (fun _ => XS.aloadN X1349.here hx rfl (hb hby d31_17) rfl rfl) ?_
  show Ends p e below _ T1349 (mkF m 18 #[rv t_, rv s1, rv s2, rv o1324, rv o1349] [(.ref s1), (.ref t_)])
  have F1375 := (Exa.keep F1358 K1349)
  have F1376 := (Fld.keep (Fld.keep F_schema K1324 nin0) K1349 nin0)
  obtain ⟨T1377, h1377, X1377, e1377, W1377, s1377⟩ := putF X1349 hx hZ hown (host := "") (Or.inl (hwi hw 206 rfl)) Via.refl e1349 F1376 F1375 (Or.inr ⟨(hwi hw 207 rfl), rfl, hnm⟩) (hwi hw 108 rfl) (ty := (.object "java/lang/String")) (by decide) rfl rfl (g := (mkF m 18 #[rv t_, rv s1, rv s2, rv o1324, rv o1349] [(.ref s1), (.ref t_)])) rfl rfl (hb hby d31_18)
  have N1377 := Fr.snoc X1377 N1349a f0
  refine go s1377 ?_
  show Ends p e below _ T1377 (mkF m 21 #[rv t_, rv s1, rv s2, rv o1324, rv o1349] [])
  refine go (fun _ => XS.aloadN X1377.here hx rfl (hb hby d31_21) rfl rfl) ?_
  refine go (fun _ => XS.aloadN X1377.here hx rfl (hb hby d31_22) rfl rfl) ?_
  show Ends p e below _ T1377 (mkF m 23 #[rv t_, rv s1, rv s2, rv o1324, rv o1349] [(.ref s2), (.ref t_)])
  have F1379 := (Exa.wr W1377 F1375)
  have F1380 := (Fld.other W1377 (Fld.keep (Fld.keep F_name K1324 nin0) K1349 nin0) (Or.inr (slot_ne (a0 := a0) (Or.inr (hwi hw 209 rfl)) (Or.inr (hwi hw 207 rfl)) (by decide) (t := (.object "java/lang/String")) (t' := (.object "java/lang/String")) (by decide) (by decide))))
  obtain ⟨T1381, h1381, X1381, e1381, W1381, s1381⟩ := putF X1377 hx hZ hown (host := "") (Or.inl (hwi hw 208 rfl)) Via.refl e1377 F1380 F1379 (Or.inr ⟨(hwi hw 209 rfl), rfl, hnm⟩) (hwi hw 108 rfl) (ty := (.object "java/lang/String")) (by decide) rfl rfl (g := (mkF m 23 #[rv t_, rv s1, rv s2, rv o1324, rv o1349] [(.ref s2), (.ref t_)])) rfl rfl (hb hby d31_23)
  have N1381 := Fr.snoc X1381 N1377 f0
  refine go s1381 ?_
  show Ends p e below _ T1381 (mkF m 26 #[rv t_, rv s1, rv s2, rv o1324, rv o1349] [])
  refine go (fun _ => XS.aloadN X1381.here hx rfl (hb hby d31_26) rfl rfl) ?_
  refine go (fun _ => XS.aloadN X1381.here hx rfl (hb hby d31_27) rfl rfl) ?_
  show Ends p e below _ T1381 (mkF m 28 #[rv t_, rv s1, rv s2, rv o1324, rv o1349] [(.ref o1324), (.ref t_)])
  have F1383 := (Exa.wr W1381 F1379)
  have F1384 := (Fld.other W1381 (Fld.other W1377 (Fld.keep (Fld.keep F_columns K1324 nin0) K1349 nin0) (Or.inr (slot_ne (a0 := a0) (Or.inr (hwi hw 211 rfl)) (Or.inr (hwi hw 207 rfl)) (by decide) (t := (.object "java/util/List")) (t' := (.object "java/lang/String")) (by decide) (by decide)))) (Or.inr (slot_ne (a0 := a0) (Or.inr (hwi hw 211 rfl)) (Or.inr (hwi hw 209 rfl)) (by decide) (t := (.object "java/util/List")) (t' := (.object "java/lang/String")) (by decide) (by decide))))
  obtain ⟨T1385, h1385, X1385, e1385, W1385, s1385⟩ := putF X1381 hx hZ hown (host := "") (Or.inl (hwi hw 210 rfl)) Via.refl e1381 F1384 F1383 (Or.inr ⟨(hwi hw 211 rfl), rfl, hnm⟩) (hwi hw 108 rfl) (ty := (.object "java/util/List")) (by decide) rfl rfl (g := (mkF m 28 #[rv t_, rv s1, rv s2, rv o1324, rv o1349] [(.ref o1324), (.ref t_)])) rfl rfl (hb hby d31_28)
  have N1385 := Fr.snoc X1385 N1381 f0
  refine go s1385 ?_
  show Ends p e below _ T1385 (mkF m 31 #[rv t_, rv s1, rv s2, rv o1324, rv o1349] [])
  refine go (fun _ => XS.aloadN X1385.here hx rfl (hb hby d31_31) rfl rfl) ?_
  refine go (fun _ => XS.aload X1385.here hx rfl (hb hby d31_32) rfl rfl) ?_
  show Ends p e below _ T1385 (mkF m 34 #[rv t_, rv s1, rv s2, rv o1324, rv o1349] [(.ref o1349), (.ref t_)])
  have F1387 := (Exa.wr W1385 F1383)
  have F1388 := (Fld.other W1385 (Fld.other W1381 (Fld.other W1377 (Fld.keep (Fld.keep F_primaryKey K1324 nin0) K1349 nin0) (Or.inr (slot_ne (a0 := a0) (Or.inr (hwi hw 213 rfl)) (Or.inr (hwi hw 207 rfl)) (by decide) (t := (.object "java/util/List")) (t' := (.object "java/lang/String")) (by decide) (by decide)))) (Or.inr (slot_ne (a0 := a0) (Or.inr (hwi hw 213 rfl)) (Or.inr (hwi hw 209 rfl)) (by decide) (t := (.object "java/util/List")) (t' := (.object "java/lang/String")) (by decide) (by decide)))) (Or.inr (slot_ne (a0 := a0) (Or.inr (hwi hw 213 rfl)) (Or.inr (hwi hw 211 rfl)) (by decide) (t := (.object "java/util/List")) (t' := (.object "java/util/List")) (by decide) (by decide))))
  obtain ⟨T1389, h1389, X1389, e1389, W1389, s1389⟩ := putF X1385 hx hZ hown (host := "") (Or.inl (hwi hw 212 rfl)) Via.refl e1385 F1388 F1387 (Or.inr ⟨(hwi hw 213 rfl), rfl, hnm⟩) (hwi hw 108 rfl) (ty := (.object "java/util/List")) (by decide) rfl rfl (g := (mkF m 34 #[rv t_, rv s1, rv s2, rv o1324, rv o1349] [(.ref o1349), (.ref t_)])) rfl rfl (hb hby d31_34)
  have N1389 := Fr.snoc X1389 N1385 f0
  refine go s1389 ?_
  show Ends p e below _ T1389 (mkF m 37 #[rv t_, rv s1, rv s2, rv o1324, rv o1349] [])
  have F1391 := (Fld.same W1389 F1388)
  have K1392 : Keep h0 h1389 [t_] := (Keep.wr (Keep.wr (Keep.wr (Keep.wr (Keep.trans K1363 K1349 all0) W1377 (Or.inl (List.mem_of_getElem? (i := 0) rfl))) W1381 (Or.inl (List.mem_of_getElem? (i := 0) rfl))) W1385 (Or.inl (List.mem_of_getElem? (i := 0) rfl))) W1389 (Or.inl (List.mem_of_getElem? (i := 0) rfl)))
  have F1393 := (Exa.wr W1389 (Exa.wr W1385 (Exa.wr W1381 (Exa.wr W1377 E1349))))
  have F1394 := (Fld.other W1389 (Fld.other W1385 (Fld.other W1381 (Fld.other W1377 Fa1349 (Or.inl (Ne.symm n1359))) (Or.inl (Ne.symm n1359))) (Or.inl (Ne.symm n1359))) (Or.inl (Ne.symm n1359)))
  have F1395 := (Arv.other (Arv.other (Arv.other (Arv.other Fb1349 W1377 (Ne.symm n1370)) W1381 (Ne.symm n1370)) W1385 (Ne.symm n1370)) W1389 (Ne.symm n1370))
  exact endV X1389 hx hret (hb hby d31_37) (lvN X1389 hlk e1389 (fun _ => rfl) ⟨o1349, r1349, _, rfl, N1389, K1392, b1362, F1391, F1393, F1394, F1395⟩ (by decide) (by decide))
set_option maxRecDepth 65536 in
set_option maxHeartbeats 40000000 in
theorem rm_i12 {l : Launch} {Z : State} {a0 : Array Value} (hw : ∀ d ∈ tables_1, d.before a0 Z = true) (a : Addr) (h0 : Heap)  :
    Con l (⟨"java/util/ImmutableCollections$List12", "isEmpty", "()Z"⟩ : MethodName) jdk_44_method_4_code 1 (some .boolean) ({ frames := 0, cells := 0, slots := 0, locals := 0 } : Room) Z #[(.ref a)] h0 (fun v h L => v = some (.int 0) ∧ Fr Z.heap.size L ∧ h0 = h) := by
  refine Con.of (plainFor_of_name pn_18) (Ls := #[rv a]) (fun m => efOf rfl) ?_
  intro p e s m below meth c T0 X0 hx hZ hby hml hown hnm hret hlk e0
  refine go (fun _ => XT.iconstV X0.here hx rfl (0 : Int32) (hb hby d32_0) (by decide)) ?_
  show Ends p e below _ T0 (mkF m 1 #[rv a] [(.int (0 : Int32))])
  exact endN X0 hx hret (by simp) (hb hby d32_1) (lvN X0 hlk e0 (fun h => by rw [hret] at h; cases h) ⟨by simp [nar], (Fr.nil _), rfl⟩ (by decide) (by decide))
set_option maxRecDepth 65536 in
set_option maxHeartbeats 40000000 in
theorem rm_iln_0 {l : Launch} {Z : State} {a0 : Array Value} (hw : ∀ d ∈ tables_1, d.before a0 Z = true) (a b : Addr) (k : ClassId) (vs : List Value) (h0 : Heap) (F1 : Fld Z h0 a "java/util/ImmutableCollections$ListN" "elements" "[Ljava/lang/Object;" (.ref b)) (V1 : Arv Z h0 b k (.object "java/lang/Object") (0 : Int32) vs .null) :
    Con l (⟨"java/util/ImmutableCollections$ListN", "isEmpty", "()Z"⟩ : MethodName) jdk_45_method_2_code 1 (some .boolean) ({ frames := 0, cells := 0, slots := 0, locals := 0 } : Room) Z #[(.ref a)] h0 (fun v h L => v = some (.int 1) ∧ Fr Z.heap.size L ∧ h0 = h) := by
  refine Con.of (plainFor_of_name pn_20) (Ls := #[rv a]) (fun m => efOf rfl) ?_
  intro p e s m below meth c T0 X0 hx hZ hby hml hown hnm hret hlk e0
  refine go (fun _ => XS.aloadN X0.here hx rfl (hb hby d33_0) rfl rfl) ?_
  show Ends p e below _ T0 (mkF m 1 #[rv a] [(.ref a)])
  obtain ⟨T1396, X1396, e1396, s1396⟩ := getF X0 hx hZ hown (host := "") (Or.inl (hwi hw 198 rfl)) Via.refl e0 F1 (g := (mkF m 1 #[rv a] [(.ref a)])) rfl rfl (hb hby d33_1)
  refine go s1396 ?_
  show Ends p e below _ T1396 (mkF m 4 #[rv a] [(.ref b)])
  obtain ⟨cl1397, A1397, -, S1397, M1397, -⟩ := id V1
  refine go (fun _ => X1396.arraylength hx (cell := cl1397) (by rw [e1396]; exact A1397.1) (State.isArrayOf_alike hZ.alike A1397.2.1) (g := (mkF m 4 #[rv a] [(.ref b)])) rfl rfl (hb hby d33_4) _) ?_
  rw [len_of S1397 M1397]
  show Ends p e below _ T1396 (mkF m 5 #[rv a] [(.int (0 : Int32))])
  refine go (fun _ => XS.ifNo X1396.here hx rfl (hb hby d33_5) rfl (XT.i0_ne_f ((by decide) : (0 : Int32) = (0 : Int32)))) ?_
  show Ends p e below _ T1396 (mkF m 8 #[rv a] [])
  refine go (fun _ => XT.iconstV X1396.here hx rfl (1 : Int32) (hb hby d33_8) (by decide)) ?_
  refine go (fun _ => XS.goto X1396.here hx rfl (pc0 := 9) (pc' := 13) rfl (hb hby d33_9) (by decide) (by decide)) ?_
  show Ends p e below _ T1396 (mkF m 13 #[rv a] [(.int (1 : Int32))])
  exact endN X1396 hx hret (by simp) (hb hby d33_13) (lvN X1396 hlk e1396 (fun h => by rw [hret] at h; cases h) ⟨by simp [nar], (Fr.nil _), rfl⟩ (by decide) (by decide))
set_option maxRecDepth 65536 in
set_option maxHeartbeats 40000000 in
theorem rm_iln_3 {l : Launch} {Z : State} {a0 : Array Value} (hw : ∀ d ∈ tables_1, d.before a0 Z = true) (a b : Addr) (k : ClassId) (vs : List Value) (h0 : Heap) (F1 : Fld Z h0 a "java/util/ImmutableCollections$ListN" "elements" "[Ljava/lang/Object;" (.ref b)) (V1 : Arv Z h0 b k (.object "java/lang/Object") (3 : Int32) vs .null) :
    Con l (⟨"java/util/ImmutableCollections$ListN", "isEmpty", "()Z"⟩ : MethodName) jdk_45_method_2_code 1 (some .boolean) ({ frames := 0, cells := 0, slots := 0, locals := 0 } : Room) Z #[(.ref a)] h0 (fun v h L => v = some (.int 0) ∧ Fr Z.heap.size L ∧ h0 = h) := by
  refine Con.of (plainFor_of_name pn_20) (Ls := #[rv a]) (fun m => efOf rfl) ?_
  intro p e s m below meth c T0 X0 hx hZ hby hml hown hnm hret hlk e0
  refine go (fun _ => XS.aloadN X0.here hx rfl (hb hby d33_0) rfl rfl) ?_
  show Ends p e below _ T0 (mkF m 1 #[rv a] [(.ref a)])
  obtain ⟨T1398, X1398, e1398, s1398⟩ := getF X0 hx hZ hown (host := "") (Or.inl (hwi hw 198 rfl)) Via.refl e0 F1 (g := (mkF m 1 #[rv a] [(.ref a)])) rfl rfl (hb hby d33_1)
  refine go s1398 ?_
  show Ends p e below _ T1398 (mkF m 4 #[rv a] [(.ref b)])
  obtain ⟨cl1399, A1399, -, S1399, M1399, -⟩ := id V1
  refine go (fun _ => X1398.arraylength hx (cell := cl1399) (by rw [e1398]; exact A1399.1) (State.isArrayOf_alike hZ.alike A1399.2.1) (g := (mkF m 4 #[rv a] [(.ref b)])) rfl rfl (hb hby d33_4) _) ?_
  rw [len_of S1399 M1399]
  show Ends p e below _ T1398 (mkF m 5 #[rv a] [(.int (3 : Int32))])
  refine go (fun _ => XS.ifYes X1398.here hx rfl (pc0 := 5) (pc' := 12) rfl (hb hby d33_5) rfl (XT.i0_ne_t ((by decide) : ¬ ((3 : Int32) = (0 : Int32)))) (by decide) (by decide)) ?_
  show Ends p e below _ T1398 (mkF m 12 #[rv a] [])
  refine go (fun _ => XT.iconstV X1398.here hx rfl (0 : Int32) (hb hby d33_12) (by decide)) ?_
  show Ends p e below _ T1398 (mkF m 13 #[rv a] [(.int (0 : Int32))])
  exact endN X1398 hx hret (by simp) (hb hby d33_13) (lvN X1398 hlk e1398 (fun h => by rw [hret] at h; cases h) ⟨by simp [nar], (Fr.nil _), rfl⟩ (by decide) (by decide))
set_option maxRecDepth 65536 in
set_option maxHeartbeats 40000000 in
theorem rm_hp_0 {l : Launch} {Z : State} {a0 : Array Value} (hw : ∀ d ∈ tables_1, d.before a0 Z = true) (t_ a : Addr) (b : Addr) (k : ClassId) (vs : List Value) (h0 : Heap) (Ft : Fld Z h0 t_ "com/example/scopa/scopa/schema/Table" "primaryKey" "Ljava/util/List;" (.ref a)) (Ea : Exa Z h0 a "java/util/ImmutableCollections$ListN") (F1 : Fld Z h0 a "java/util/ImmutableCollections$ListN" "elements" "[Ljava/lang/Object;" (.ref b)) (V1 : Arv Z h0 b k (.object "java/lang/Object") (0 : Int32) vs .null) :
    Con l (⟨"com/example/scopa/scopa/schema/Table", "hasPrimaryKey", "()Z"⟩ : MethodName) prog_14_method_5_code 1 (some .boolean) ({ frames := 1, cells := 0, slots := 0, locals := 12 } : Room) Z #[(.ref t_)] h0 (fun v h L => v = some (.int 0) ∧ Fr Z.heap.size L ∧ h0 = h) := by
  refine Con.of (plainFor_of_name pn_35) (Ls := #[rv t_]) (fun m => efOf rfl) ?_
  intro p e s m below meth c T0 X0 hx hZ hby hml hown hnm hret hlk e0
  refine go (fun _ => XS.aloadN X0.here hx rfl (hb hby d34_0) rfl rfl) ?_
  show Ends p e below _ T0 (mkF m 1 #[rv t_] [(.ref t_)])
  obtain ⟨T1400, X1400, e1400, s1400⟩ := getF X0 hx hZ hown (host := "") (Or.inl (hwi hw 212 rfl)) Via.refl e0 Ft (g := (mkF m 1 #[rv t_] [(.ref t_)])) rfl rfl (hb hby d34_1)
  refine go s1400 ?_
  show Ends p e below _ T1400 (mkF m 4 #[rv t_] [(.ref a)])
  refine cFace X1400 hx hZ hown (by rw [hml]; rfl) e1400 (hwi hw 219 rfl) (hwi hw 220 rfl) (mvT hZ (hwi hw 221 rfl)) (hwi hw 222 rfl) (hwi hw 223 rfl) (hwi hw 224 rfl) (mvT hZ (hwi hw 225 rfl)) (hwi hw 226 rfl) (hwi hw 179 rfl) (hwi hw 227 rfl) a Ea [] [] rfl (rm_iln_0 hw a b k vs _ F1 V1) (hb hby d34_4) rfl (lenOf pd_23 rfl) (by decide) (by decide) (Nat.le_of_ble_eq_true rfl) (by decide) (by decide) ?_
  rintro v1401 T1401 h1401 L1401 X1401 e1401 ⟨rfl, N1401, rfl⟩
  have N1401a := Fr.app (Fr.nil _) N1401
  show Ends p e below _ T1401 (mkF m 9 #[rv t_] [(.int (1 : Int32))])
  refine go (fun _ => XS.ifYes X1401.here hx rfl (pc0 := 9) (pc' := 16) rfl (hb hby d34_9) rfl (XT.i0_ne_t ((by decide) : ¬ ((1 : Int32) = (0 : Int32)))) (by decide) (by decide)) ?_
  show Ends p e below _ T1401 (mkF m 16 #[rv t_] [])
  refine go (fun _ => XT.iconstV X1401.here hx rfl (0 : Int32) (hb hby d34_16) (by decide)) ?_
  show Ends p e below _ T1401 (mkF m 17 #[rv t_] [(.int (0 : Int32))])
  exact endN X1401 hx hret (by simp) (hb hby d34_17) (lvN X1401 hlk e1401 (fun h => by rw [hret] at h; cases h) ⟨by simp [nar], N1401a, rfl⟩ (by decide) (by decide))
set_option maxRecDepth 65536 in
set_option maxHeartbeats 40000000 in
theorem rm_hp_1 {l : Launch} {Z : State} {a0 : Array Value} (hw : ∀ d ∈ tables_1, d.before a0 Z = true) (t_ a : Addr) (h0 : Heap) (Ft : Fld Z h0 t_ "com/example/scopa/scopa/schema/Table" "primaryKey" "Ljava/util/List;" (.ref a)) (Ea : Exa Z h0 a "java/util/ImmutableCollections$List12") :
    Con l (⟨"com/example/scopa/scopa/schema/Table", "hasPrimaryKey", "()Z"⟩ : MethodName) prog_14_method_5_code 1 (some .boolean) ({ frames := 1, cells := 0, slots := 0, locals := 12 } : Room) Z #[(.ref t_)] h0 (fun v h L => v = some (.int 1) ∧ Fr Z.heap.size L ∧ h0 = h) := by
  refine Con.of (plainFor_of_name pn_35) (Ls := #[rv t_]) (fun m => efOf rfl) ?_
  intro p e s m below meth c T0 X0 hx hZ hby hml hown hnm hret hlk e0
  refine go (fun _ => XS.aloadN X0.here hx rfl (hb hby d34_0) rfl rfl) ?_
  show Ends p e below _ T0 (mkF m 1 #[rv t_] [(.ref t_)])
  obtain ⟨T1402, X1402, e1402, s1402⟩ := getF X0 hx hZ hown (host := "") (Or.inl (hwi hw 212 rfl)) Via.refl e0 Ft (g := (mkF m 1 #[rv t_] [(.ref t_)])) rfl rfl (hb hby d34_1)
  refine go s1402 ?_
  show Ends p e below _ T1402 (mkF m 4 #[rv t_] [(.ref a)])
  refine cFace X1402 hx hZ hown (by rw [hml]; rfl) e1402 (hwi hw 219 rfl) (hwi hw 220 rfl) (mvT hZ (hwi hw 221 rfl)) (hwi hw 244 rfl) (hwi hw 245 rfl) (hwi hw 246 rfl) (mvT hZ (hwi hw 247 rfl)) (hwi hw 248 rfl) (hwi hw 230 rfl) (hwi hw 249 rfl) a Ea [] [] rfl (rm_i12 hw a _) (hb hby d34_4) rfl (lenOf pd_23 rfl) (by decide) (by decide) (Nat.le_of_ble_eq_true rfl) (by decide) (by decide) ?_
  rintro v1403 T1403 h1403 L1403 X1403 e1403 ⟨rfl, N1403, rfl⟩
  have N1403a := Fr.app (Fr.nil _) N1403
  show Ends p e below _ T1403 (mkF m 9 #[rv t_] [(.int (0 : Int32))])
  refine go (fun _ => XS.ifNo X1403.here hx rfl (hb hby d34_9) rfl (XT.i0_ne_f ((by decide) : (0 : Int32) = (0 : Int32)))) ?_
  show Ends p e below _ T1403 (mkF m 12 #[rv t_] [])
  refine go (fun _ => XT.iconstV X1403.here hx rfl (1 : Int32) (hb hby d34_12) (by decide)) ?_
  refine go (fun _ => XS.goto X1403.here hx rfl (pc0 := 13) (pc' := 17) rfl (hb hby d34_13) (by decide) (by decide)) ?_
  show Ends p e below _ T1403 (mkF m 17 #[rv t_] [(.int (1 : Int32))])
  exact endN X1403 hx hret (by simp) (hb hby d34_17) (lvN X1403 hlk e1403 (fun h => by rw [hret] at h; cases h) ⟨by simp [nar], N1403a, rfl⟩ (by decide) (by decide))
set_option maxRecDepth 65536 in
set_option maxHeartbeats 40000000 in
theorem rm_hp_3 {l : Launch} {Z : State} {a0 : Array Value} (hw : ∀ d ∈ tables_1, d.before a0 Z = true) (t_ a : Addr) (b : Addr) (k : ClassId) (vs : List Value) (h0 : Heap) (Ft : Fld Z h0 t_ "com/example/scopa/scopa/schema/Table" "primaryKey" "Ljava/util/List;" (.ref a)) (Ea : Exa Z h0 a "java/util/ImmutableCollections$ListN") (F1 : Fld Z h0 a "java/util/ImmutableCollections$ListN" "elements" "[Ljava/lang/Object;" (.ref b)) (V1 : Arv Z h0 b k (.object "java/lang/Object") (3 : Int32) vs .null) :
    Con l (⟨"com/example/scopa/scopa/schema/Table", "hasPrimaryKey", "()Z"⟩ : MethodName) prog_14_method_5_code 1 (some .boolean) ({ frames := 1, cells := 0, slots := 0, locals := 12 } : Room) Z #[(.ref t_)] h0 (fun v h L => v = some (.int 1) ∧ Fr Z.heap.size L ∧ h0 = h) := by
  refine Con.of (plainFor_of_name pn_35) (Ls := #[rv t_]) (fun m => efOf rfl) ?_
  intro p e s m below meth c T0 X0 hx hZ hby hml hown hnm hret hlk e0
  refine go (fun _ => XS.aloadN X0.here hx rfl (hb hby d34_0) rfl rfl) ?_
  show Ends p e below _ T0 (mkF m 1 #[rv t_] [(.ref t_)])
  obtain ⟨T1404, X1404, e1404, s1404⟩ := getF X0 hx hZ hown (host := "") (Or.inl (hwi hw 212 rfl)) Via.refl e0 Ft (g := (mkF m 1 #[rv t_] [(.ref t_)])) rfl rfl (hb hby d34_1)
  refine go s1404 ?_
  show Ends p e below _ T1404 (mkF m 4 #[rv t_] [(.ref a)])
  refine cFace X1404 hx hZ hown (by rw [hml]; rfl) e1404 (hwi hw 219 rfl) (hwi hw 220 rfl) (mvT hZ (hwi hw 221 rfl)) (hwi hw 222 rfl) (hwi hw 223 rfl) (hwi hw 224 rfl) (mvT hZ (hwi hw 225 rfl)) (hwi hw 226 rfl) (hwi hw 179 rfl) (hwi hw 227 rfl) a Ea [] [] rfl (rm_iln_3 hw a b k vs _ F1 V1) (hb hby d34_4) rfl (lenOf pd_23 rfl) (by decide) (by decide) (Nat.le_of_ble_eq_true rfl) (by decide) (by decide) ?_
  rintro v1405 T1405 h1405 L1405 X1405 e1405 ⟨rfl, N1405, rfl⟩
  have N1405a := Fr.app (Fr.nil _) N1405
  show Ends p e below _ T1405 (mkF m 9 #[rv t_] [(.int (0 : Int32))])
  refine go (fun _ => XS.ifNo X1405.here hx rfl (hb hby d34_9) rfl (XT.i0_ne_f ((by decide) : (0 : Int32) = (0 : Int32)))) ?_
  show Ends p e below _ T1405 (mkF m 12 #[rv t_] [])
  refine go (fun _ => XT.iconstV X1405.here hx rfl (1 : Int32) (hb hby d34_12) (by decide)) ?_
  refine go (fun _ => XS.goto X1405.here hx rfl (pc0 := 13) (pc' := 17) rfl (hb hby d34_13) (by decide) (by decide)) ?_
  show Ends p e below _ T1405 (mkF m 17 #[rv t_] [(.int (1 : Int32))])
  exact endN X1405 hx hret (by simp) (hb hby d34_17) (lvN X1405 hlk e1405 (fun h => by rw [hret] at h; cases h) ⟨by simp [nar], N1405a, rfl⟩ (by decide) (by decide))
set_option maxRecDepth 65536 in
set_option maxHeartbeats 40000000 in
theorem rm_law {l : Launch} {Z : State} {a0 : Array Value} (hw : ∀ d ∈ tables_1, d.before a0 Z = true) (i0 i1 i2 i3 : Int32) (aD : Addr) (kD : ClassId) (mr : Addr) (aL aN aE : Addr) (kN : ClassId) (h0 : Heap) (O0 : Ext Z.heap h0) (cz : Int32) (SCS : Sta Z Z.heap "java/lang/String" "COMPACT_STRINGS" "Z" (.int cz)) (hcz : ¬ cz = (0 : Int32)) (SD : Sta Z Z.heap "java/util/ArrayList" "DEFAULTCAPACITY_EMPTY_ELEMENTDATA" "[Ljava/lang/Object;" (.ref aD)) (VD : Arv Z Z.heap aD kD (.object "java/lang/Object") (0 : Int32) [] .null) (MM : Mid Z "[Ljava/lang/Object;" mr) (SL : Sta Z Z.heap "java/util/ImmutableCollections" "EMPTY_LIST" "Ljava/util/ImmutableCollections$ListN;" (.ref aL)) (XL : Exa Z Z.heap aL "java/util/ImmutableCollections$ListN") (FL : Fld Z Z.heap aL "java/util/ImmutableCollections$ListN" "elements" "[Ljava/lang/Object;" (.ref aN)) (VN : Arv Z Z.heap aN kN (.object "java/lang/Object") (0 : Int32) [] .null) (SE : Sta Z Z.heap "java/util/ImmutableCollections" "EMPTY" "Ljava/lang/Object;" (.ref aE)) :
    ConW l x code maxLocals ret room_1 Z own_EL #[(.int i0), (.int i1), (.int i2), (.int i3)] h0 (fun v h L => v = some (.int 1) ∧ Fr Z.heap.size L) := by
  refine ConW.of (plainFor_of_name pn_33) (Ls := #[iv i0, iv i1, iv i2, iv i3, .unset, .unset, .unset, .unset, .unset, .unset, .unset]) (fun m => efOf rfl) ?_
  intro p e s m below meth c T0 X0 hx hZ hby hml hown hnm hret hlk e0 hs0 hS hk H0
  have hml : c.maxLocals = 11 := hml
  refine go (fun _ => XS.iloadN X0.here hx rfl (hb hby at_0) rfl) ?_
  refine go (fun _ => XT.iconstV X0.here hx rfl (3 : Int32) (hb hby at_1) (by decide)) ?_
  refine go (fun _ => XS.iand X0.here hx rfl (hb hby at_2) rfl) ?_
  refine go (fun _ => XS.istore X0.here hx rfl (hb hby at_3) rfl (l' := #[iv i0, iv i1, iv i2, iv i3, iv (i0 &&& (3 : Int32)), .unset, .unset, .unset, .unset, .unset, .unset]) rfl) ?_
  refine go (fun _ => XS.iloadN X0.here hx rfl (hb hby at_5) rfl) ?_
  refine go (fun _ => XT.iconstV X0.here hx rfl (3 : Int32) (hb hby at_6) (by decide)) ?_
  show Ends p e below _ T0 (mkF m 7 #[iv i0, iv i1, iv i2, iv i3, iv (i0 &&& (3 : Int32)), .unset, .unset, .unset, .unset, .unset, .unset] [(.int (3 : Int32)), (.int i1)])
  refine go (fun _ => XS.iand X0.here hx rfl (hb hby at_7) rfl) ?_
  refine go (fun _ => XS.istore X0.here hx rfl (hb hby at_8) rfl (l' := #[iv i0, iv i1, iv i2, iv i3, iv (i0 &&& (3 : Int32)), iv (i1 &&& (3 : Int32)), .unset, .unset, .unset, .unset, .unset]) rfl) ?_
  show Ends p e below _ T0 (mkF m 10 #[iv i0, iv i1, iv i2, iv i3, iv (i0 &&& (3 : Int32)), iv (i1 &&& (3 : Int32)), .unset, .unset, .unset, .unset, .unset] [])
  obtain ⟨T1406, h1406, X1406, e1406, E1406, A1406, D1406, U1406, s1406⟩ := newO X0 hx hZ hown (hwi hw 0 rfl) (hwi hw 1 rfl) (hwi hw 2 rfl) e0 (g := (mkF m 10 #[iv i0, iv i1, iv i2, iv i3, iv (i0 &&& (3 : Int32)), iv (i1 &&& (3 : Int32)), .unset, .unset, .unset, .unset, .unset] [])) rfl (hb hby at_10) (by decide) (by decide)
  obtain ⟨a1406, g1406⟩ : ∃ z : Addr, z = h0.size := ⟨_, rfl⟩
  have f1406 : Z.heap.size ≤ a1406 := by rw [g1406]; exact (O0).1
  rw [← g1406] at A1406 D1406 U1406 s1406
  have C1407 : CHr Z own_EL s.vm h0 s.vm h1406 := CHr.ext E1406 H0.1
  have hk := Nat.le_trans hk C1407.2.1
  have H1407 := H0.trans C1407
  have O1408 : Ext Z.heap h1406 := xx O0 E1406
  have SF1406 : Safe Z own_EL s.vm h1406 a1406 := Safe.ext E1406 H0.1 (Safe.new (by rw [g1406]; exact Nat.le_refl _))
  refine go s1406 ?_
  show Ends p e below _ T1406 (mkF m 13 #[iv i0, iv i1, iv i2, iv i3, iv (i0 &&& (3 : Int32)), iv (i1 &&& (3 : Int32)), .unset, .unset, .unset, .unset, .unset] [(.ref a1406)])
  refine go (fun _ => XS.dup X1406.here hx rfl (hb hby at_13) rfl rfl) ?_
  refine go (fun _ => XS.iloadN X1406.here hx rfl (hb hby at_14) rfl) ?_
  refine go (fun _ => XT.sipushV X1406.here hx rfl (255 : Int32) (hb hby at_15) (by decide)) ?_
  refine go (fun _ => XS.iand X1406.here hx rfl (hb hby at_18) rfl) ?_
  refine go (fun _ => XT.i2c X1406.here hx rfl (hb hby at_19) rfl) ?_
  show Ends p e below _ T1406 (mkF m 20 #[iv i0, iv i1, iv i2, iv i3, iv (i0 &&& (3 : Int32)), iv (i1 &&& (3 : Int32)), .unset, .unset, .unset, .unset, .unset] [(.int (i2 &&& (255 : Int32)).toUInt32.toUInt16.toUInt32.toInt32), (.ref a1406), (.ref a1406)])
  obtain ⟨ch1409, hch1409⟩ : ∃ z : Int32, z = (i2 &&& (255 : Int32)).toUInt32.toUInt16.toUInt32.toInt32 := ⟨_, rfl⟩
  have lc1409 : ¬ (255 : Int32) < ch1409 := by rw [hch1409]; exact (own_ch _).1
  rw [← hch1409]
  show Ends p e below _ T1406 (mkF m 20 #[iv i0, iv i1, iv i2, iv i3, iv (i0 &&& (3 : Int32)), iv (i1 &&& (3 : Int32)), .unset, .unset, .unset, .unset, .unset] [(.int ch1409), (.ref a1406), (.ref a1406)])
  refine cStat X1406 hx hZ hown (by rw [hml]; rfl) e1406 (hwi hw 3 rfl) (hwi hw 4 rfl) (hwi hw 5 rfl) (hwi hw 6 rfl) [(.int ch1409)] [(.ref a1406), (.ref a1406)] rfl (rm_cvalueOf hw ch1409 _ O1408 lc1409 cz SCS hcz) (hb hby at_20) rfl (lenOf pd_36 rfl) (by decide) (by decide) (Nat.le_of_ble_eq_true rfl) (by decide) (by decide) ?_
  rintro v1410 T1410 h1410 L1410 X1410 e1410 ⟨a1410, b1410, k1410, rfl, N1410, K1410, ga1410, gb1410, nn1410, E1410, Fv1410, Fc1410, V1410⟩
  have N1410a := Fr.app (Fr.nil _) N1410
  have n1413 : a1406 ≠ b1410 := Nat.ne_of_lt (Nat.lt_of_lt_of_le (A1406.lt) gb1410)
  have C1415 : CHr Z own_EL s.vm h1406 s.vm h1410 := CHr.keep K1410 sf0 H1407.1
  have hk := Nat.le_trans hk C1415.2.1
  have H1415 := H1407.trans C1415
  have O1416 : Ext Z.heap h1410 := xk O1408 K1410 all0
  show Ends p e below _ T1410 (mkF m 23 #[iv i0, iv i1, iv i2, iv i3, iv (i0 &&& (3 : Int32)), iv (i1 &&& (3 : Int32)), .unset, .unset, .unset, .unset, .unset] [(.ref a1410), (.ref a1406), (.ref a1406)])
  obtain ⟨a1417, T1417, h1417, k1417w, X1417, e1417, E1417, hS, hk, hZ, hown, s1417⟩ := ldcS X1410 hx hZ hown (hwi hw 29 rfl) (own_SA hw) e1410 hS hk (g := (mkF m 23 #[iv i0, iv i1, iv i2, iv i3, iv (i0 &&& (3 : Int32)), iv (i1 &&& (3 : Int32)), .unset, .unset, .unset, .unset, .unset] [(.ref a1410), (.ref a1406), (.ref a1406)])) rfl (hb hby at_23) (n := 28) (by decide) (by decide) (by decide) (by decide)
  have C1417 : CHr Z own_EL s.vm h1410 T1417.vm h1417 := own_chr0 E1417.1
  have F1418 := (Exa.keep A1406 K1410)
  have H1419 := H1415.trans C1417
  have O1420 : Ext Z.heap h1417 := xx O1416 E1417
  refine go s1417 ?_
  show Ends p e below _ T1417 (mkF m 25 #[iv i0, iv i1, iv i2, iv i3, iv (i0 &&& (3 : Int32)), iv (i1 &&& (3 : Int32)), .unset, .unset, .unset, .unset, .unset] [(.ref a1417), (.ref a1410), (.ref a1406), (.ref a1406)])
  obtain ⟨a1421, T1421, h1421, k1421w, X1421, e1421, E1421, hS, hk, hZ, hown, s1421⟩ := ldcS X1417 hx hZ hown (hwi hw 29 rfl) (own_SA hw) e1417 hS hk (g := (mkF m 25 #[iv i0, iv i1, iv i2, iv i3, iv (i0 &&& (3 : Int32)), iv (i1 &&& (3 : Int32)), .unset, .unset, .unset, .unset, .unset] [(.ref a1417), (.ref a1410), (.ref a1406), (.ref a1406)])) rfl (hb hby at_25) (n := 28) (by decide) (by decide) (by decide) (by decide)
  have C1421 : CHr Z own_EL T1417.vm h1417 T1421.vm h1421 := own_chr0 E1421.1
  have F1422 := (Exa.ext E1417 F1418)
  have H1423 := H1419.trans C1421
  have O1424 : Ext Z.heap h1421 := xx O1420 E1421
  refine go s1421 ?_
  show Ends p e below _ T1421 (mkF m 27 #[iv i0, iv i1, iv i2, iv i3, iv (i0 &&& (3 : Int32)), iv (i1 &&& (3 : Int32)), .unset, .unset, .unset, .unset, .unset] [(.ref a1421), (.ref a1417), (.ref a1410), (.ref a1406), (.ref a1406)])
  have F1425 := (Exa.ext E1421 F1422)
  have F1426 := (Fld.ext E1421 (Fld.ext E1417 (Fld.keep (D1406 (Or.inr (hwi hw 42 rfl)) (ty := (.object "java/lang/String")) (by decide)) K1410 nin0)))
  have F1427 := (Fld.ext E1421 (Fld.ext E1417 (Fld.keep (D1406 (Or.inr (hwi hw 44 rfl)) (ty := (.object "java/lang/String")) (by decide)) K1410 nin0)))
  have F1428 := (Fld.ext E1421 (Fld.ext E1417 (Fld.keep (D1406 (Or.inr (hwi hw 46 rfl)) (ty := (.object "java/lang/String")) (by decide)) K1410 nin0)))
  refine cInit X1421 hx hZ hown (by rw [hml]; rfl) e1421 (hwi hw 32 rfl) (hwi hw 33 rfl) (hwi hw 2 rfl) (hwi hw 34 rfl) a1406 [(.ref a1410), (.ref a1417), (.ref a1421)] [(.ref a1406)] rfl (rm_col hw a1406 a1410 a1417 a1421 _ O1424 f1406 F1425 F1426 F1427 F1428  ) (hb hby at_27) rfl (lenOf pd_37 rfl) rfl (by decide) (by decide) (Nat.le_of_ble_eq_true rfl) (by decide) (by decide) ?_
  rintro v1429 T1429 h1429 L1429 X1429 e1429 ⟨rfl, N1429, K1429, F1429_0, F1429_1, F1429_2⟩
  have N1429a := Fr.app N1410a N1429
  have F1431 := (CHr.safe C1421 (F1422.lt) (CHr.safe C1417 (F1418.lt) (Safe.keep K1410 sf0 H1407.1 SF1406)))
  have sf1430 : ∀ x ∈ [a1406], Safe Z own_EL T1421.vm h1421 x := (sfS F1431 sf0)
  have C1430 : CHr Z own_EL T1421.vm h1421 T1421.vm h1429 := CHr.keep K1429 sf1430 H1423.1
  have hk := Nat.le_trans hk C1430.2.1
  have H1430 := H1423.trans C1430
  have O1432 : Ext Z.heap h1429 := xk O1424 K1429 (allS f1406 all0)
  show Ends p e below _ T1429 (mkF m 30 #[iv i0, iv i1, iv i2, iv i3, iv (i0 &&& (3 : Int32)), iv (i1 &&& (3 : Int32)), .unset, .unset, .unset, .unset, .unset] [(.ref a1406)])
  refine go (fun _ => XS.astore X1429.here hx rfl (hb hby at_30) rfl rfl (l' := #[iv i0, iv i1, iv i2, iv i3, iv (i0 &&& (3 : Int32)), iv (i1 &&& (3 : Int32)), rv a1406, .unset, .unset, .unset, .unset]) rfl) ?_
  show Ends p e below _ T1429 (mkF m 32 #[iv i0, iv i1, iv i2, iv i3, iv (i0 &&& (3 : Int32)), iv (i1 &&& (3 : Int32)), rv a1406, .unset, .unset, .unset, .unset] [])
  obtain ⟨T1433, h1433, X1433, e1433, E1433, A1433, D1433, U1433, s1433⟩ := newO X1429 hx hZ hown (hwi hw 0 rfl) (hwi hw 1 rfl) (hwi hw 2 rfl) e1429 (g := (mkF m 32 #[iv i0, iv i1, iv i2, iv i3, iv (i0 &&& (3 : Int32)), iv (i1 &&& (3 : Int32)), rv a1406, .unset, .unset, .unset, .unset] [])) rfl (hb hby at_32) (by decide) (by decide)
  have F1434 := (Exa.keep F1425 K1429)
  have F1435 := (Exa.keep (Exa.ext E1421 (Exa.ext E1417 E1410)) K1429)
  have F1436 := (Arv.keep (Arv.ext (Arv.ext V1410 E1417) E1421) K1429 (ninS (Ne.symm n1413) nin0))
  obtain ⟨a1433, g1433⟩ : ∃ z : Addr, z = h1429.size := ⟨_, rfl⟩
  have n1439 : b1410 ≠ a1433 := fun q => absurd (F1436.lt) (by rw [q, g1433]; exact Nat.lt_irrefl _)
  have f1433 : Z.heap.size ≤ a1433 := by rw [g1433]; exact (O1432).1
  rw [← g1433] at A1433 D1433 U1433 s1433
  have C1440 : CHr Z own_EL T1421.vm h1429 T1421.vm h1433 := CHr.ext E1433 H1430.1
  have hk := Nat.le_trans hk C1440.2.1
  have H1440 := H1430.trans C1440
  have O1441 : Ext Z.heap h1433 := xx O1432 E1433
  have SF1433 : Safe Z own_EL T1421.vm h1433 a1433 := Safe.ext E1433 H1430.1 (Safe.new (by rw [g1433]; exact Nat.le_refl _))
  refine go s1433 ?_
  show Ends p e below _ T1433 (mkF m 35 #[iv i0, iv i1, iv i2, iv i3, iv (i0 &&& (3 : Int32)), iv (i1 &&& (3 : Int32)), rv a1406, .unset, .unset, .unset, .unset] [(.ref a1433)])
  refine go (fun _ => XS.dup X1433.here hx rfl (hb hby at_35) rfl rfl) ?_
  refine go (fun _ => XS.iloadN X1433.here hx rfl (hb hby at_36) rfl) ?_
  refine go (fun _ => XT.sipushV X1433.here hx rfl (255 : Int32) (hb hby at_37) (by decide)) ?_
  refine go (fun _ => XS.iand X1433.here hx rfl (hb hby at_40) rfl) ?_
  refine go (fun _ => XT.i2c X1433.here hx rfl (hb hby at_41) rfl) ?_
  show Ends p e below _ T1433 (mkF m 42 #[iv i0, iv i1, iv i2, iv i3, iv (i0 &&& (3 : Int32)), iv (i1 &&& (3 : Int32)), rv a1406, .unset, .unset, .unset, .unset] [(.int (i3 &&& (255 : Int32)).toUInt32.toUInt16.toUInt32.toInt32), (.ref a1433), (.ref a1433)])
  obtain ⟨ch1442, hch1442⟩ : ∃ z : Int32, z = (i3 &&& (255 : Int32)).toUInt32.toUInt16.toUInt32.toInt32 := ⟨_, rfl⟩
  have lc1442 : ¬ (255 : Int32) < ch1442 := by rw [hch1442]; exact (own_ch _).1
  rw [← hch1442]
  show Ends p e below _ T1433 (mkF m 42 #[iv i0, iv i1, iv i2, iv i3, iv (i0 &&& (3 : Int32)), iv (i1 &&& (3 : Int32)), rv a1406, .unset, .unset, .unset, .unset] [(.int ch1442), (.ref a1433), (.ref a1433)])
  refine cStat X1433 hx hZ hown (by rw [hml]; rfl) e1433 (hwi hw 3 rfl) (hwi hw 4 rfl) (hwi hw 5 rfl) (hwi hw 6 rfl) [(.int ch1442)] [(.ref a1433), (.ref a1433)] rfl (rm_cvalueOf hw ch1442 _ O1441 lc1442 cz SCS hcz) (hb hby at_42) rfl (lenOf pd_36 rfl) (by decide) (by decide) (Nat.le_of_ble_eq_true rfl) (by decide) (by decide) ?_
  rintro v1443 T1443 h1443 L1443 X1443 e1443 ⟨a1443, b1443, k1443, rfl, N1443, K1443, ga1443, gb1443, nn1443, E1443, Fv1443, Fc1443, V1443⟩
  have N1443a := Fr.app N1429a N1443
  have F1444 := (Exa.ext E1433 F1434)
  have F1446 := (Exa.ext E1433 F1435)
  have F1449 := (Arv.ext F1436 E1433)
  have n1454 : a1433 ≠ b1443 := Nat.ne_of_lt (Nat.lt_of_lt_of_le (A1433.lt) gb1443)
  have C1457 : CHr Z own_EL T1421.vm h1433 T1421.vm h1443 := CHr.keep K1443 sf0 H1440.1
  have hk := Nat.le_trans hk C1457.2.1
  have H1457 := H1440.trans C1457
  have O1458 : Ext Z.heap h1443 := xk O1441 K1443 all0
  show Ends p e below _ T1443 (mkF m 45 #[iv i0, iv i1, iv i2, iv i3, iv (i0 &&& (3 : Int32)), iv (i1 &&& (3 : Int32)), rv a1406, .unset, .unset, .unset, .unset] [(.ref a1443), (.ref a1433), (.ref a1433)])
  obtain ⟨a1459, T1459, h1459, k1459w, X1459, e1459, E1459, hS, hk, hZ, hown, s1459⟩ := ldcS X1443 hx hZ hown (hwi hw 47 rfl) (own_SA hw) e1443 hS hk (g := (mkF m 45 #[iv i0, iv i1, iv i2, iv i3, iv (i0 &&& (3 : Int32)), iv (i1 &&& (3 : Int32)), rv a1406, .unset, .unset, .unset, .unset] [(.ref a1443), (.ref a1433), (.ref a1433)])) rfl (hb hby at_45) (n := 16) (by decide) (by decide) (by decide) (by decide)
  have C1459 : CHr Z own_EL T1421.vm h1443 T1459.vm h1459 := own_chr0 E1459.1
  have F1460 := (Exa.keep F1444 K1443)
  have F1461 := (Exa.keep A1433 K1443)
  have H1462 := H1457.trans C1459
  have O1463 : Ext Z.heap h1459 := xx O1458 E1459
  refine go s1459 ?_
  show Ends p e below _ T1459 (mkF m 47 #[iv i0, iv i1, iv i2, iv i3, iv (i0 &&& (3 : Int32)), iv (i1 &&& (3 : Int32)), rv a1406, .unset, .unset, .unset, .unset] [(.ref a1459), (.ref a1443), (.ref a1433), (.ref a1433)])
  obtain ⟨a1464, T1464, h1464, k1464w, X1464, e1464, E1464, hS, hk, hZ, hown, s1464⟩ := ldcS X1459 hx hZ hown (hwi hw 47 rfl) (own_SA hw) e1459 hS hk (g := (mkF m 47 #[iv i0, iv i1, iv i2, iv i3, iv (i0 &&& (3 : Int32)), iv (i1 &&& (3 : Int32)), rv a1406, .unset, .unset, .unset, .unset] [(.ref a1459), (.ref a1443), (.ref a1433), (.ref a1433)])) rfl (hb hby at_47) (n := 16) (by decide) (by decide) (by decide) (by decide)
  have C1464 : CHr Z own_EL T1459.vm h1459 T1464.vm h1464 := own_chr0 E1464.1
  have F1465 := (Exa.ext E1459 F1460)
  have F1466 := (Exa.ext E1459 F1461)
  have H1467 := H1462.trans C1464
  have O1468 : Ext Z.heap h1464 := xx O1463 E1464
  refine go s1464 ?_
  show Ends p e below _ T1464 (mkF m 49 #[iv i0, iv i1, iv i2, iv i3, iv (i0 &&& (3 : Int32)), iv (i1 &&& (3 : Int32)), rv a1406, .unset, .unset, .unset, .unset] [(.ref a1464), (.ref a1459), (.ref a1443), (.ref a1433), (.ref a1433)])
  have F1469 := (Exa.ext E1464 F1466)
  have F1470 := (Fld.ext E1464 (Fld.ext E1459 (Fld.keep (D1433 (Or.inr (hwi hw 42 rfl)) (ty := (.object "java/lang/String")) (by decide)) K1443 nin0)))
  have F1471 := (Fld.ext E1464 (Fld.ext E1459 (Fld.keep (D1433 (Or.inr (hwi hw 44 rfl)) (ty := (.object "java/lang/String")) (by decide)) K1443 nin0)))
  have F1472 := (Fld.ext E1464 (Fld.ext E1459 (Fld.keep (D1433 (Or.inr (hwi hw 46 rfl)) (ty := (.object "java/lang/String")) (by decide)) K1443 nin0)))
  refine cInit X1464 hx hZ hown (by rw [hml]; rfl) e1464 (hwi hw 32 rfl) (hwi hw 33 rfl) (hwi hw 2 rfl) (hwi hw 34 rfl) a1433 [(.ref a1443), (.ref a1459), (.ref a1464)] [(.ref a1433)] rfl (rm_col hw a1433 a1443 a1459 a1464 _ O1468 f1433 F1469 F1470 F1471 F1472  ) (hb hby at_49) rfl (lenOf pd_37 rfl) rfl (by decide) (by decide) (Nat.le_of_ble_eq_true rfl) (by decide) (by decide) ?_
  rintro v1473 T1473 h1473 L1473 X1473 e1473 ⟨rfl, N1473, K1473, F1473_0, F1473_1, F1473_2⟩
  have N1473a := Fr.app N1443a N1473
  have F1475 := (CHr.safe C1464 (F1466.lt) (CHr.safe C1459 (F1461.lt) (Safe.keep K1443 sf0 H1440.1 SF1433)))
  have sf1474 : ∀ x ∈ [a1433], Safe Z own_EL T1464.vm h1464 x := (sfS F1475 sf0)
  have C1474 : CHr Z own_EL T1464.vm h1464 T1464.vm h1473 := CHr.keep K1473 sf1474 H1467.1
  have hk := Nat.le_trans hk C1474.2.1
  have H1474 := H1467.trans C1474
  have O1476 : Ext Z.heap h1473 := xk O1468 K1473 (allS f1433 all0)
  show Ends p e below _ T1473 (mkF m 52 #[iv i0, iv i1, iv i2, iv i3, iv (i0 &&& (3 : Int32)), iv (i1 &&& (3 : Int32)), rv a1406, .unset, .unset, .unset, .unset] [(.ref a1433)])
  refine go (fun _ => XS.astore X1473.here hx rfl (hb hby at_52) rfl rfl (l' := #[iv i0, iv i1, iv i2, iv i3, iv (i0 &&& (3 : Int32)), iv (i1 &&& (3 : Int32)), rv a1406, rv a1433, .unset, .unset, .unset]) rfl) ?_
  show Ends p e below _ T1473 (mkF m 54 #[iv i0, iv i1, iv i2, iv i3, iv (i0 &&& (3 : Int32)), iv (i1 &&& (3 : Int32)), rv a1406, rv a1433, .unset, .unset, .unset] [])
  refine go (fun _ => XS.aload X1473.here hx rfl (hb hby at_54) rfl rfl) ?_
  refine go (fun _ => XS.aload X1473.here hx rfl (hb hby at_56) rfl rfl) ?_
  refine go (fun _ => XS.iload X1473.here hx rfl (hb hby at_58) rfl) ?_
  show Ends p e below _ T1473 (mkF m 60 #[iv i0, iv i1, iv i2, iv i3, iv (i0 &&& (3 : Int32)), iv (i1 &&& (3 : Int32)), rv a1406, rv a1433, .unset, .unset, .unset] [(.int (i1 &&& (3 : Int32))), (.ref a1433), (.ref a1406)])
  have F1477 := (Exa.keep (Exa.ext E1464 F1465) K1473)
  have F1478 := (Exa.keep F1469 K1473)
  refine cStat X1473 hx hZ hown (by rw [hml]; rfl) e1473 (hwi hw 48 rfl) (hwi hw 49 rfl) (hwi hw 50 rfl) (hwi hw 51 rfl) [(.ref a1406), (.ref a1433), (.int (i1 &&& (3 : Int32)))] [] rfl (rm_listOf hw a1406 a1433 (i1 &&& (3 : Int32)) aD kD _ O1476 SD VD F1477 F1478 (own_q4 i1)) (hb hby at_60) rfl (lenOf pd_38 rfl) (by decide) (by decide) (Nat.le_of_ble_eq_true rfl) (by decide) (by decide) ?_
  rintro v1479 T1479 h1479 L1479 X1479 e1479 (⟨c1479, a1479, rfl, N1479, K1479, ga1479, E1479, F31479⟩ | ⟨c1479, a1479, b1479, k1479, rfl, N1479, K1479, ga1479, gb1479, E1479, F21479, F31479, O1479, V1479⟩ | ⟨c1479, a1479, b1479, k1479, rfl, N1479, K1479, ga1479, gb1479, E1479, F21479, F31479, O1479, V1479⟩ | ⟨c1479, a1479, b1479, k1479, rfl, N1479, K1479, ga1479, gb1479, E1479, F21479, F31479, O1479, V1479⟩)
  · have N1479a := Fr.app N1473a N1479
    have F1486 := (Arv.keep (Arv.ext (Arv.ext (Arv.keep F1449 K1443 nin0) E1459) E1464) K1473 (ninS n1439 nin0))
    have C1491 : CHr Z own_EL T1464.vm h1473 T1464.vm h1479 := CHr.keep K1479 sf0 H1474.1
    have hk := Nat.le_trans hk C1491.2.1
    have H1491 := H1474.trans C1491
    have O1492 : Ext Z.heap h1479 := xk O1476 K1479 all0
    show Ends p e below _ T1479 (mkF m 63 #[iv i0, iv i1, iv i2, iv i3, iv (i0 &&& (3 : Int32)), iv (i1 &&& (3 : Int32)), rv a1406, rv a1433, .unset, .unset, .unset] [(.ref a1479)])
    refine go (fun _ => XS.astore X1479.here hx rfl (hb hby at_63) rfl rfl (l' := #[iv i0, iv i1, iv i2, iv i3, iv (i0 &&& (3 : Int32)), iv (i1 &&& (3 : Int32)), rv a1406, rv a1433, rv a1479, .unset, .unset]) rfl) ?_
    refine go (fun _ => XS.aload X1479.here hx rfl (hb hby at_65) rfl rfl) ?_
    refine go (fun _ => XS.aload X1479.here hx rfl (hb hby at_67) rfl rfl) ?_
    refine go (fun _ => XS.iload X1479.here hx rfl (hb hby at_69) rfl) ?_
    show Ends p e below _ T1479 (mkF m 71 #[iv i0, iv i1, iv i2, iv i3, iv (i0 &&& (3 : Int32)), iv (i1 &&& (3 : Int32)), rv a1406, rv a1433, rv a1479, .unset, .unset] [(.int (i0 &&& (3 : Int32))), (.ref a1406), (.ref a1433)])
    have F1493 := (Exa.keep F1478 K1479)
    have F1494 := (Exa.keep F1477 K1479)
    refine cStat X1479 hx hZ hown (by rw [hml]; rfl) e1479 (hwi hw 48 rfl) (hwi hw 49 rfl) (hwi hw 50 rfl) (hwi hw 51 rfl) [(.ref a1433), (.ref a1406), (.int (i0 &&& (3 : Int32)))] [] rfl (rm_listOf hw a1433 a1406 (i0 &&& (3 : Int32)) aD kD _ O1492 SD VD F1493 F1494 (own_q4 i0)) (hb hby at_71) rfl (lenOf pd_38 rfl) (by decide) (by decide) (Nat.le_of_ble_eq_true rfl) (by decide) (by decide) ?_
    rintro v1495 T1495 h1495 L1495 X1495 e1495 (⟨c1495, a1495, rfl, N1495, K1495, ga1495, E1495, F31495⟩ | ⟨c1495, a1495, b1495, k1495, rfl, N1495, K1495, ga1495, gb1495, E1495, F21495, F31495, O1495, V1495⟩ | ⟨c1495, a1495, b1495, k1495, rfl, N1495, K1495, ga1495, gb1495, E1495, F21495, F31495, O1495, V1495⟩ | ⟨c1495, a1495, b1495, k1495, rfl, N1495, K1495, ga1495, gb1495, E1495, F21495, F31495, O1495, V1495⟩)
    · have N1495a := Fr.app N1479a N1495
      have F1503 := (Arv.keep F1486 K1479 nin0)
      have C1508 : CHr Z own_EL T1464.vm h1479 T1464.vm h1495 := CHr.keep K1495 sf0 H1491.1
      have hk := Nat.le_trans hk C1508.2.1
      have H1508 := H1491.trans C1508
      have O1509 : Ext Z.heap h1495 := xk O1492 K1495 all0
      show Ends p e below _ T1495 (mkF m 74 #[iv i0, iv i1, iv i2, iv i3, iv (i0 &&& (3 : Int32)), iv (i1 &&& (3 : Int32)), rv a1406, rv a1433, rv a1479, .unset, .unset] [(.ref a1495)])
      refine go (fun _ => XS.astore X1495.here hx rfl (hb hby at_74) rfl rfl (l' := #[iv i0, iv i1, iv i2, iv i3, iv (i0 &&& (3 : Int32)), iv (i1 &&& (3 : Int32)), rv a1406, rv a1433, rv a1479, rv a1495, .unset]) rfl) ?_
      show Ends p e below _ T1495 (mkF m 76 #[iv i0, iv i1, iv i2, iv i3, iv (i0 &&& (3 : Int32)), iv (i1 &&& (3 : Int32)), rv a1406, rv a1433, rv a1479, rv a1495, .unset] [])
      obtain ⟨T1510, h1510, X1510, e1510, E1510, A1510, D1510, U1510, s1510⟩ := newO X1495 hx hZ hown (hwi hw 107 rfl) (hwi hw 108 rfl) (hwi hw 109 rfl) e1495 (g := (mkF m 76 #[iv i0, iv i1, iv i2, iv i3, iv (i0 &&& (3 : Int32)), iv (i1 &&& (3 : Int32)), rv a1406, rv a1433, rv a1479, rv a1495, .unset] [])) rfl (hb hby at_76) (by decide) (by decide)
      have F1511 := (Exa.keep F1494 K1495)
      have F1513 := (Exa.keep F1493 K1495)
      have F1515 := (Exa.keep E1479 K1495)
      have F1516 := (Arv.keep F1503 K1495 nin0)
      obtain ⟨a1510, g1510⟩ : ∃ z : Addr, z = h1495.size := ⟨_, rfl⟩
      have n1518 : a1406 ≠ a1510 := fun q => absurd (F1511.lt) (by rw [q, g1510]; exact Nat.lt_irrefl _)
      have n1520 : a1433 ≠ a1510 := fun q => absurd (F1513.lt) (by rw [q, g1510]; exact Nat.lt_irrefl _)
      have f1510 : Z.heap.size ≤ a1510 := by rw [g1510]; exact (O1509).1
      rw [← g1510] at A1510 D1510 U1510 s1510
      have C1526 : CHr Z own_EL T1464.vm h1495 T1464.vm h1510 := CHr.ext E1510 H1508.1
      have hk := Nat.le_trans hk C1526.2.1
      have H1526 := H1508.trans C1526
      have O1527 : Ext Z.heap h1510 := xx O1509 E1510
      have SF1510 : Safe Z own_EL T1464.vm h1510 a1510 := Safe.ext E1510 H1508.1 (Safe.new (by rw [g1510]; exact Nat.le_refl _))
      refine go s1510 ?_
      show Ends p e below _ T1510 (mkF m 79 #[iv i0, iv i1, iv i2, iv i3, iv (i0 &&& (3 : Int32)), iv (i1 &&& (3 : Int32)), rv a1406, rv a1433, rv a1479, rv a1495, .unset] [(.ref a1510)])
      refine go (fun _ => XS.dup X1510.here hx rfl (hb hby at_79) rfl rfl) ?_
      refine go (fun _ => XS.iloadN X1510.here hx rfl (hb hby at_80) rfl) ?_
      refine go (fun _ => XT.bipushV X1510.here hx rfl (8 : Int32) (hb hby at_81) (by decide)) ?_
      refine go (fun _ => XT.iushr X1510.here hx rfl (hb hby at_83) rfl) ?_
      refine go (fun _ => XT.sipushV X1510.here hx rfl (255 : Int32) (hb hby at_84) (by decide)) ?_
      refine go (fun _ => XS.iand X1510.here hx rfl (hb hby at_87) rfl) ?_
      show Ends p e below _ T1510 (mkF m 88 #[iv i0, iv i1, iv i2, iv i3, iv (i0 &&& (3 : Int32)), iv (i1 &&& (3 : Int32)), rv a1406, rv a1433, rv a1479, rv a1495, .unset] [(.int ((XT.ushr i2 (8 : Int32)) &&& (255 : Int32))), (.ref a1510), (.ref a1510)])
      refine go (fun _ => XT.i2c X1510.here hx rfl (hb hby at_88) rfl) ?_
      show Ends p e below _ T1510 (mkF m 89 #[iv i0, iv i1, iv i2, iv i3, iv (i0 &&& (3 : Int32)), iv (i1 &&& (3 : Int32)), rv a1406, rv a1433, rv a1479, rv a1495, .unset] [(.int ((XT.ushr i2 (8 : Int32)) &&& (255 : Int32)).toUInt32.toUInt16.toUInt32.toInt32), (.ref a1510), (.ref a1510)])
      obtain ⟨ch1528, hch1528⟩ : ∃ z : Int32, z = ((XT.ushr i2 (8 : Int32)) &&& (255 : Int32)).toUInt32.toUInt16.toUInt32.toInt32 := ⟨_, rfl⟩
      have lc1528 : ¬ (255 : Int32) < ch1528 := by rw [hch1528]; exact (own_ch _).1
      rw [← hch1528]
      show Ends p e below _ T1510 (mkF m 89 #[iv i0, iv i1, iv i2, iv i3, iv (i0 &&& (3 : Int32)), iv (i1 &&& (3 : Int32)), rv a1406, rv a1433, rv a1479, rv a1495, .unset] [(.int ch1528), (.ref a1510), (.ref a1510)])
      refine cStat X1510 hx hZ hown (by rw [hml]; rfl) e1510 (hwi hw 3 rfl) (hwi hw 4 rfl) (hwi hw 5 rfl) (hwi hw 6 rfl) [(.int ch1528)] [(.ref a1510), (.ref a1510)] rfl (rm_cvalueOf hw ch1528 _ O1527 lc1528 cz SCS hcz) (hb hby at_89) rfl (lenOf pd_36 rfl) (by decide) (by decide) (Nat.le_of_ble_eq_true rfl) (by decide) (by decide) ?_
      rintro v1529 T1529 h1529 L1529 X1529 e1529 ⟨a1529, b1529, k1529, rfl, N1529, K1529, ga1529, gb1529, nn1529, E1529, Fv1529, Fc1529, V1529⟩
      have N1529a := Fr.app N1495a N1529
      have F1530 := (Exa.ext E1510 F1511)
      have F1534 := (Exa.ext E1510 F1513)
      have F1538 := (Exa.ext E1510 F1515)
      have F1540 := (Exa.ext E1510 E1495)
      have F1543 := (Arv.ext F1516 E1510)
      have C1558 : CHr Z own_EL T1464.vm h1510 T1464.vm h1529 := CHr.keep K1529 sf0 H1526.1
      have hk := Nat.le_trans hk C1558.2.1
      have H1558 := H1526.trans C1558
      have O1559 : Ext Z.heap h1529 := xk O1527 K1529 all0
      show Ends p e below _ T1529 (mkF m 92 #[iv i0, iv i1, iv i2, iv i3, iv (i0 &&& (3 : Int32)), iv (i1 &&& (3 : Int32)), rv a1406, rv a1433, rv a1479, rv a1495, .unset] [(.ref a1529), (.ref a1510), (.ref a1510)])
      refine go (fun _ => XS.iloadN X1529.here hx rfl (hb hby at_92) rfl) ?_
      refine go (fun _ => XT.bipushV X1529.here hx rfl (8 : Int32) (hb hby at_93) (by decide)) ?_
      refine go (fun _ => XT.iushr X1529.here hx rfl (hb hby at_95) rfl) ?_
      refine go (fun _ => XT.sipushV X1529.here hx rfl (255 : Int32) (hb hby at_96) (by decide)) ?_
      refine go (fun _ => XS.iand X1529.here hx rfl (hb hby at_99) rfl) ?_
      refine go (fun _ => XT.i2c X1529.here hx rfl (hb hby at_100) rfl) ?_
      show Ends p e below _ T1529 (mkF m 101 #[iv i0, iv i1, iv i2, iv i3, iv (i0 &&& (3 : Int32)), iv (i1 &&& (3 : Int32)), rv a1406, rv a1433, rv a1479, rv a1495, .unset] [(.int ((XT.ushr i3 (8 : Int32)) &&& (255 : Int32)).toUInt32.toUInt16.toUInt32.toInt32), (.ref a1529), (.ref a1510), (.ref a1510)])
      obtain ⟨ch1560, hch1560⟩ : ∃ z : Int32, z = ((XT.ushr i3 (8 : Int32)) &&& (255 : Int32)).toUInt32.toUInt16.toUInt32.toInt32 := ⟨_, rfl⟩
      have lc1560 : ¬ (255 : Int32) < ch1560 := by rw [hch1560]; exact (own_ch _).1
      rw [← hch1560]
      show Ends p e below _ T1529 (mkF m 101 #[iv i0, iv i1, iv i2, iv i3, iv (i0 &&& (3 : Int32)), iv (i1 &&& (3 : Int32)), rv a1406, rv a1433, rv a1479, rv a1495, .unset] [(.int ch1560), (.ref a1529), (.ref a1510), (.ref a1510)])
      refine cStat X1529 hx hZ hown (by rw [hml]; rfl) e1529 (hwi hw 3 rfl) (hwi hw 4 rfl) (hwi hw 5 rfl) (hwi hw 6 rfl) [(.int ch1560)] [(.ref a1529), (.ref a1510), (.ref a1510)] rfl (rm_cvalueOf hw ch1560 _ O1559 lc1560 cz SCS hcz) (hb hby at_101) rfl (lenOf pd_36 rfl) (by decide) (by decide) (Nat.le_of_ble_eq_true rfl) (by decide) (by decide) ?_
      rintro v1561 T1561 h1561 L1561 X1561 e1561 ⟨a1561, b1561, k1561, rfl, N1561, K1561, ga1561, gb1561, nn1561, E1561, Fv1561, Fc1561, V1561⟩
      have N1561a := Fr.app N1529a N1561
      have F1562 := (Exa.keep F1530 K1529)
      have F1566 := (Exa.keep F1534 K1529)
      have F1570 := (Exa.keep F1538 K1529)
      have F1572 := (Exa.keep F1540 K1529)
      have F1574 := (Exa.keep A1510 K1529)
      have F1577 := (Arv.keep F1543 K1529 nin0)
      have C1595 : CHr Z own_EL T1464.vm h1529 T1464.vm h1561 := CHr.keep K1561 sf0 H1558.1
      have hk := Nat.le_trans hk C1595.2.1
      have H1595 := H1558.trans C1595
      have O1596 : Ext Z.heap h1561 := xk O1559 K1561 all0
      show Ends p e below _ T1561 (mkF m 104 #[iv i0, iv i1, iv i2, iv i3, iv (i0 &&& (3 : Int32)), iv (i1 &&& (3 : Int32)), rv a1406, rv a1433, rv a1479, rv a1495, .unset] [(.ref a1561), (.ref a1529), (.ref a1510), (.ref a1510)])
      refine go (fun _ => XS.aload X1561.here hx rfl (hb hby at_104) rfl rfl) ?_
      refine go (fun _ => XS.aload X1561.here hx rfl (hb hby at_106) rfl rfl) ?_
      show Ends p e below _ T1561 (mkF m 108 #[iv i0, iv i1, iv i2, iv i3, iv (i0 &&& (3 : Int32)), iv (i1 &&& (3 : Int32)), rv a1406, rv a1433, rv a1479, rv a1495, .unset] [(.ref a1495), (.ref a1479), (.ref a1561), (.ref a1529), (.ref a1510), (.ref a1510)])
      have F1597 := (Exa.keep F1570 K1561)
      have F1598 := (Fld.keep (Fld.keep (Fld.ext E1510 (Fld.keep F31479 K1495 nin0)) K1529 nin0) K1561 nin0)
      have F1599 := (Exa.keep F1572 K1561)
      have F1600 := (Fld.keep (Fld.keep (Fld.ext E1510 F31495) K1529 nin0) K1561 nin0)
      have F1601 := (Exa.keep F1574 K1561)
      have F1602 := (Fld.keep (Fld.keep (D1510 (Or.inr (hwi hw 207 rfl)) (ty := (.object "java/lang/String")) (by decide)) K1529 nin0) K1561 nin0)
      have F1603 := (Fld.keep (Fld.keep (D1510 (Or.inr (hwi hw 209 rfl)) (ty := (.object "java/lang/String")) (by decide)) K1529 nin0) K1561 nin0)
      have F1604 := (Fld.keep (Fld.keep (D1510 (Or.inr (hwi hw 211 rfl)) (ty := (.object "java/util/List")) (by decide)) K1529 nin0) K1561 nin0)
      have F1605 := (Fld.keep (Fld.keep (D1510 (Or.inr (hwi hw 213 rfl)) (ty := (.object "java/util/List")) (by decide)) K1529 nin0) K1561 nin0)
      have F1606 := (Exa.keep F1562 K1561)
      have F1607 := (Exa.keep F1566 K1561)
      refine cInit X1561 hx hZ hown (by rw [hml]; rfl) e1561 (hwi hw 110 rfl) (hwi hw 111 rfl) (hwi hw 109 rfl) (hwi hw 112 rfl) a1510 [(.ref a1529), (.ref a1561), (.ref a1479), (.ref a1495)] [(.ref a1510)] rfl (rm_tab_0_0 hw a1510 a1529 a1561 a1479 a1495 a1406 a1433  mr aL aN aE kN _ O1596 f1510 F1601 F1602 F1603 F1604 F1605 MM SL XL FL VN SE F1606 F1607 F1597 F1598 F1599 F1600 (Ne.symm n1518) (Ne.symm n1520)) (hb hby at_108) rfl (lenOf pd_39 rfl) rfl (by decide) (by decide) (Nat.le_of_ble_eq_true rfl) (by decide) (by decide) ?_
      rintro v1608 T1608 h1608 L1608 X1608 e1608 ⟨rfl, N1608, K1608, F1608⟩
      have N1608a := Fr.app N1561a N1608
      have F1610 := (Safe.keep K1561 sf0 H1558.1 (Safe.keep K1529 sf0 H1526.1 SF1510))
      have sf1609 : ∀ x ∈ [a1510], Safe Z own_EL T1464.vm h1561 x := (sfS F1610 sf0)
      have C1609 : CHr Z own_EL T1464.vm h1561 T1464.vm h1608 := CHr.keep K1608 sf1609 H1595.1
      have hk := Nat.le_trans hk C1609.2.1
      have H1609 := H1595.trans C1609
      have O1611 : Ext Z.heap h1608 := xk O1596 K1608 (allS f1510 all0)
      show Ends p e below _ T1608 (mkF m 111 #[iv i0, iv i1, iv i2, iv i3, iv (i0 &&& (3 : Int32)), iv (i1 &&& (3 : Int32)), rv a1406, rv a1433, rv a1479, rv a1495, .unset] [(.ref a1510)])
      refine go (fun _ => XS.astore X1608.here hx rfl (hb hby at_111) rfl rfl (l' := #[iv i0, iv i1, iv i2, iv i3, iv (i0 &&& (3 : Int32)), iv (i1 &&& (3 : Int32)), rv a1406, rv a1433, rv a1479, rv a1495, rv a1510]) rfl) ?_
      refine go (fun _ => XS.aload X1608.here hx rfl (hb hby at_113) rfl rfl) ?_
      show Ends p e below _ T1608 (mkF m 115 #[iv i0, iv i1, iv i2, iv i3, iv (i0 &&& (3 : Int32)), iv (i1 &&& (3 : Int32)), rv a1406, rv a1433, rv a1479, rv a1495, rv a1510] [(.ref a1510)])
      have F1613 := (Exa.keep F1601 K1608)
      refine cVirt X1608 hx hZ hown (by rw [hml]; rfl) e1608 (hwi hw 214 rfl) (hwi hw 215 rfl) (hwi hw 217 rfl) (hwi hw 216 rfl) (hwi hw 109 rfl) (hwi hw 218 rfl) (notFace_of_selects (args := #[]) (mvT hZ (hwi hw 217 rfl))) a1510 F1613 [] [] rfl (rm_hp_0 hw a1510 aL aN kN _ _ F1608 (Exa.ext O1611 XL) (Fld.ext O1611 FL) (Arv.ext VN O1611)) (hb hby at_115) rfl (lenOf pd_23 rfl) (by decide) (by decide) (Nat.le_of_ble_eq_true rfl) (by decide) (by decide) ?_
      rintro v1612 T1612 h1612 L1612 X1612 e1612 ⟨rfl, N1612, rfl⟩
      have N1612a := Fr.app N1608a N1612
      show Ends p e below _ T1612 (mkF m 118 #[iv i0, iv i1, iv i2, iv i3, iv (i0 &&& (3 : Int32)), iv (i1 &&& (3 : Int32)), rv a1406, rv a1433, rv a1479, rv a1495, rv a1510] [(.int (0 : Int32))])
      refine go (fun _ => XS.iload X1612.here hx rfl (hb hby at_118) rfl) ?_
      show Ends p e below _ T1612 (mkF m 120 #[iv i0, iv i1, iv i2, iv i3, iv (i0 &&& (3 : Int32)), iv (i1 &&& (3 : Int32)), rv a1406, rv a1433, rv a1479, rv a1495, rv a1510] [(.int (i0 &&& (3 : Int32))), (.int (0 : Int32))])
      refine go (fun _ => XS.ifYes X1612.here hx rfl (pc0 := 120) (pc' := 127) rfl (hb hby at_120) rfl (XT.i0_eq_t c1495) (by decide) (by decide)) ?_
      show Ends p e below _ T1612 (mkF m 127 #[iv i0, iv i1, iv i2, iv i3, iv (i0 &&& (3 : Int32)), iv (i1 &&& (3 : Int32)), rv a1406, rv a1433, rv a1479, rv a1495, rv a1510] [(.int (0 : Int32))])
      refine go (fun _ => XT.iconstV X1612.here hx rfl (0 : Int32) (hb hby at_127) (by decide)) ?_
      show Ends p e below _ T1612 (mkF m 128 #[iv i0, iv i1, iv i2, iv i3, iv (i0 &&& (3 : Int32)), iv (i1 &&& (3 : Int32)), rv a1406, rv a1433, rv a1479, rv a1495, rv a1510] [(.int (0 : Int32)), (.int (0 : Int32))])
      refine go (fun _ => XS.icmpNo X1612.here hx rfl (hb hby at_128) rfl (XT.ii_ne_f ((by decide) : (0 : Int32) = (0 : Int32)))) ?_
      show Ends p e below _ T1612 (mkF m 131 #[iv i0, iv i1, iv i2, iv i3, iv (i0 &&& (3 : Int32)), iv (i1 &&& (3 : Int32)), rv a1406, rv a1433, rv a1479, rv a1495, rv a1510] [])
      refine go (fun _ => XT.iconstV X1612.here hx rfl (1 : Int32) (hb hby at_131) (by decide)) ?_
      refine go (fun _ => XS.goto X1612.here hx rfl (pc0 := 132) (pc' := 136) rfl (hb hby at_132) (by decide) (by decide)) ?_
      show Ends p e below _ T1612 (mkF m 136 #[iv i0, iv i1, iv i2, iv i3, iv (i0 &&& (3 : Int32)), iv (i1 &&& (3 : Int32)), rv a1406, rv a1433, rv a1479, rv a1495, rv a1510] [(.int (1 : Int32))])
      exact endN X1612 hx hret (by simp) (hb hby at_136) (lvW X1612 hlk hZ (own_EW hw) hs0 hS hk H1609 e1612 (fun h => by rw [hret] at h; cases h) ⟨rfl, N1612a⟩ (by decide) (by decide))
    · have N1495a := Fr.app N1479a N1495
      have F1621 := (Arv.keep F1486 K1479 nin0)
      have C1634 : CHr Z own_EL T1464.vm h1479 T1464.vm h1495 := CHr.keep K1495 sf0 H1491.1
      have hk := Nat.le_trans hk C1634.2.1
      have H1634 := H1491.trans C1634
      have O1635 : Ext Z.heap h1495 := xk O1492 K1495 all0
      show Ends p e below _ T1495 (mkF m 74 #[iv i0, iv i1, iv i2, iv i3, iv (i0 &&& (3 : Int32)), iv (i1 &&& (3 : Int32)), rv a1406, rv a1433, rv a1479, .unset, .unset] [(.ref a1495)])
      refine go (fun _ => XS.astore X1495.here hx rfl (hb hby at_74) rfl rfl (l' := #[iv i0, iv i1, iv i2, iv i3, iv (i0 &&& (3 : Int32)), iv (i1 &&& (3 : Int32)), rv a1406, rv a1433, rv a1479, rv a1495, .unset]) rfl) ?_
      show Ends p e below _ T1495 (mkF m 76 #[iv i0, iv i1, iv i2, iv i3, iv (i0 &&& (3 : Int32)), iv (i1 &&& (3 : Int32)), rv a1406, rv a1433, rv a1479, rv a1495, .unset] [])
      obtain ⟨T1636, h1636, X1636, e1636, E1636, A1636, D1636, U1636, s1636⟩ := newO X1495 hx hZ hown (hwi hw 107 rfl) (hwi hw 108 rfl) (hwi hw 109 rfl) e1495 (g := (mkF m 76 #[iv i0, iv i1, iv i2, iv i3, iv (i0 &&& (3 : Int32)), iv (i1 &&& (3 : Int32)), rv a1406, rv a1433, rv a1479, rv a1495, .unset] [])) rfl (hb hby at_76) (by decide) (by decide)
      have F1637 := (Exa.keep F1494 K1495)
      have F1639 := (Exa.keep F1493 K1495)
      have F1641 := (Exa.keep E1479 K1495)
      obtain ⟨a1636, g1636⟩ : ∃ z : Addr, z = h1495.size := ⟨_, rfl⟩
      have n1644 : a1406 ≠ a1636 := fun q => absurd (F1637.lt) (by rw [q, g1636]; exact Nat.lt_irrefl _)
      have n1646 : a1433 ≠ a1636 := fun q => absurd (F1639.lt) (by rw [q, g1636]; exact Nat.lt_irrefl _)
      have f1636 : Z.heap.size ≤ a1636 := by rw [g1636]; exact (O1635).1
      rw [← g1636] at A1636 D1636 U1636 s1636
      have C1653 : CHr Z own_EL T1464.vm h1495 T1464.vm h1636 := CHr.ext E1636 H1634.1
      have hk := Nat.le_trans hk C1653.2.1
      have H1653 := H1634.trans C1653
      have O1654 : Ext Z.heap h1636 := xx O1635 E1636
      have SF1636 : Safe Z own_EL T1464.vm h1636 a1636 := Safe.ext E1636 H1634.1 (Safe.new (by rw [g1636]; exact Nat.le_refl _))
      refine go s1636 ?_
      show Ends p e below _ T1636 (mkF m 79 #[iv i0, iv i1, iv i2, iv i3, iv (i0 &&& (3 : Int32)), iv (i1 &&& (3 : Int32)), rv a1406, rv a1433, rv a1479, rv a1495, .unset] [(.ref a1636)])
      refine go (fun _ => XS.dup X1636.here hx rfl (hb hby at_79) rfl rfl) ?_
      refine go (fun _ => XS.iloadN X1636.here hx rfl (hb hby at_80) rfl) ?_
      refine go (fun _ => XT.bipushV X1636.here hx rfl (8 : Int32) (hb hby at_81) (by decide)) ?_
      refine go (fun _ => XT.iushr X1636.here hx rfl (hb hby at_83) rfl) ?_
      refine go (fun _ => XT.sipushV X1636.here hx rfl (255 : Int32) (hb hby at_84) (by decide)) ?_
      refine go (fun _ => XS.iand X1636.here hx rfl (hb hby at_87) rfl) ?_
      show Ends p e below _ T1636 (mkF m 88 #[iv i0, iv i1, iv i2, iv i3, iv (i0 &&& (3 : Int32)), iv (i1 &&& (3 : Int32)), rv a1406, rv a1433, rv a1479, rv a1495, .unset] [(.int ((XT.ushr i2 (8 : Int32)) &&& (255 : Int32))), (.ref a1636), (.ref a1636)])
      refine go (fun _ => XT.i2c X1636.here hx rfl (hb hby at_88) rfl) ?_
      show Ends p e below _ T1636 (mkF m 89 #[iv i0, iv i1, iv i2, iv i3, iv (i0 &&& (3 : Int32)), iv (i1 &&& (3 : Int32)), rv a1406, rv a1433, rv a1479, rv a1495, .unset] [(.int ((XT.ushr i2 (8 : Int32)) &&& (255 : Int32)).toUInt32.toUInt16.toUInt32.toInt32), (.ref a1636), (.ref a1636)])
      obtain ⟨ch1655, hch1655⟩ : ∃ z : Int32, z = ((XT.ushr i2 (8 : Int32)) &&& (255 : Int32)).toUInt32.toUInt16.toUInt32.toInt32 := ⟨_, rfl⟩
      have lc1655 : ¬ (255 : Int32) < ch1655 := by rw [hch1655]; exact (own_ch _).1
      rw [← hch1655]
      show Ends p e below _ T1636 (mkF m 89 #[iv i0, iv i1, iv i2, iv i3, iv (i0 &&& (3 : Int32)), iv (i1 &&& (3 : Int32)), rv a1406, rv a1433, rv a1479, rv a1495, .unset] [(.int ch1655), (.ref a1636), (.ref a1636)])
      refine cStat X1636 hx hZ hown (by rw [hml]; rfl) e1636 (hwi hw 3 rfl) (hwi hw 4 rfl) (hwi hw 5 rfl) (hwi hw 6 rfl) [(.int ch1655)] [(.ref a1636), (.ref a1636)] rfl (rm_cvalueOf hw ch1655 _ O1654 lc1655 cz SCS hcz) (hb hby at_89) rfl (lenOf pd_36 rfl) (by decide) (by decide) (Nat.le_of_ble_eq_true rfl) (by decide) (by decide) ?_
      rintro v1656 T1656 h1656 L1656 X1656 e1656 ⟨a1656, b1656, k1656, rfl, N1656, K1656, ga1656, gb1656, nn1656, E1656, Fv1656, Fc1656, V1656⟩
      have N1656a := Fr.app N1495a N1656
      have F1657 := (Exa.ext E1636 F1637)
      have F1661 := (Exa.ext E1636 F1639)
      have F1665 := (Exa.ext E1636 F1641)
      have F1667 := (Exa.ext E1636 E1495)
      have F1674 := (Arv.ext V1495 E1636)
      have C1688 : CHr Z own_EL T1464.vm h1636 T1464.vm h1656 := CHr.keep K1656 sf0 H1653.1
      have hk := Nat.le_trans hk C1688.2.1
      have H1688 := H1653.trans C1688
      have O1689 : Ext Z.heap h1656 := xk O1654 K1656 all0
      show Ends p e below _ T1656 (mkF m 92 #[iv i0, iv i1, iv i2, iv i3, iv (i0 &&& (3 : Int32)), iv (i1 &&& (3 : Int32)), rv a1406, rv a1433, rv a1479, rv a1495, .unset] [(.ref a1656), (.ref a1636), (.ref a1636)])
      refine go (fun _ => XS.iloadN X1656.here hx rfl (hb hby at_92) rfl) ?_
      refine go (fun _ => XT.bipushV X1656.here hx rfl (8 : Int32) (hb hby at_93) (by decide)) ?_
      refine go (fun _ => XT.iushr X1656.here hx rfl (hb hby at_95) rfl) ?_
      refine go (fun _ => XT.sipushV X1656.here hx rfl (255 : Int32) (hb hby at_96) (by decide)) ?_
      refine go (fun _ => XS.iand X1656.here hx rfl (hb hby at_99) rfl) ?_
      refine go (fun _ => XT.i2c X1656.here hx rfl (hb hby at_100) rfl) ?_
      show Ends p e below _ T1656 (mkF m 101 #[iv i0, iv i1, iv i2, iv i3, iv (i0 &&& (3 : Int32)), iv (i1 &&& (3 : Int32)), rv a1406, rv a1433, rv a1479, rv a1495, .unset] [(.int ((XT.ushr i3 (8 : Int32)) &&& (255 : Int32)).toUInt32.toUInt16.toUInt32.toInt32), (.ref a1656), (.ref a1636), (.ref a1636)])
      obtain ⟨ch1690, hch1690⟩ : ∃ z : Int32, z = ((XT.ushr i3 (8 : Int32)) &&& (255 : Int32)).toUInt32.toUInt16.toUInt32.toInt32 := ⟨_, rfl⟩
      have lc1690 : ¬ (255 : Int32) < ch1690 := by rw [hch1690]; exact (own_ch _).1
      rw [← hch1690]
      show Ends p e below _ T1656 (mkF m 101 #[iv i0, iv i1, iv i2, iv i3, iv (i0 &&& (3 : Int32)), iv (i1 &&& (3 : Int32)), rv a1406, rv a1433, rv a1479, rv a1495, .unset] [(.int ch1690), (.ref a1656), (.ref a1636), (.ref a1636)])
      refine cStat X1656 hx hZ hown (by rw [hml]; rfl) e1656 (hwi hw 3 rfl) (hwi hw 4 rfl) (hwi hw 5 rfl) (hwi hw 6 rfl) [(.int ch1690)] [(.ref a1656), (.ref a1636), (.ref a1636)] rfl (rm_cvalueOf hw ch1690 _ O1689 lc1690 cz SCS hcz) (hb hby at_101) rfl (lenOf pd_36 rfl) (by decide) (by decide) (Nat.le_of_ble_eq_true rfl) (by decide) (by decide) ?_
      rintro v1691 T1691 h1691 L1691 X1691 e1691 ⟨a1691, b1691, k1691, rfl, N1691, K1691, ga1691, gb1691, nn1691, E1691, Fv1691, Fc1691, V1691⟩
      have N1691a := Fr.app N1656a N1691
      have F1692 := (Exa.keep F1657 K1656)
      have F1696 := (Exa.keep F1661 K1656)
      have F1700 := (Exa.keep F1665 K1656)
      have F1702 := (Exa.keep F1667 K1656)
      have F1704 := (Exa.keep A1636 K1656)
      have F1711 := (Arv.keep F1674 K1656 nin0)
      have C1728 : CHr Z own_EL T1464.vm h1656 T1464.vm h1691 := CHr.keep K1691 sf0 H1688.1
      have hk := Nat.le_trans hk C1728.2.1
      have H1728 := H1688.trans C1728
      have O1729 : Ext Z.heap h1691 := xk O1689 K1691 all0
      show Ends p e below _ T1691 (mkF m 104 #[iv i0, iv i1, iv i2, iv i3, iv (i0 &&& (3 : Int32)), iv (i1 &&& (3 : Int32)), rv a1406, rv a1433, rv a1479, rv a1495, .unset] [(.ref a1691), (.ref a1656), (.ref a1636), (.ref a1636)])
      refine go (fun _ => XS.aload X1691.here hx rfl (hb hby at_104) rfl rfl) ?_
      refine go (fun _ => XS.aload X1691.here hx rfl (hb hby at_106) rfl rfl) ?_
      show Ends p e below _ T1691 (mkF m 108 #[iv i0, iv i1, iv i2, iv i3, iv (i0 &&& (3 : Int32)), iv (i1 &&& (3 : Int32)), rv a1406, rv a1433, rv a1479, rv a1495, .unset] [(.ref a1495), (.ref a1479), (.ref a1691), (.ref a1656), (.ref a1636), (.ref a1636)])
      have F1730 := (Exa.keep F1700 K1691)
      have F1731 := (Fld.keep (Fld.keep (Fld.ext E1636 (Fld.keep F31479 K1495 nin0)) K1656 nin0) K1691 nin0)
      have F1732 := (Exa.keep F1702 K1691)
      have F1733 := (Fld.keep (Fld.keep (Fld.ext E1636 F21495) K1656 nin0) K1691 nin0)
      have F1734 := (Fld.keep (Fld.keep (Fld.ext E1636 F31495) K1656 nin0) K1691 nin0)
      have F1735 := (Arv.keep F1711 K1691 nin0)
      have F1736 := (Exa.keep F1704 K1691)
      have F1737 := (Fld.keep (Fld.keep (D1636 (Or.inr (hwi hw 207 rfl)) (ty := (.object "java/lang/String")) (by decide)) K1656 nin0) K1691 nin0)
      have F1738 := (Fld.keep (Fld.keep (D1636 (Or.inr (hwi hw 209 rfl)) (ty := (.object "java/lang/String")) (by decide)) K1656 nin0) K1691 nin0)
      have F1739 := (Fld.keep (Fld.keep (D1636 (Or.inr (hwi hw 211 rfl)) (ty := (.object "java/util/List")) (by decide)) K1656 nin0) K1691 nin0)
      have F1740 := (Fld.keep (Fld.keep (D1636 (Or.inr (hwi hw 213 rfl)) (ty := (.object "java/util/List")) (by decide)) K1656 nin0) K1691 nin0)
      have F1741 := (Exa.keep F1692 K1691)
      have F1742 := (Exa.keep F1696 K1691)
      refine cInit X1691 hx hZ hown (by rw [hml]; rfl) e1691 (hwi hw 110 rfl) (hwi hw 111 rfl) (hwi hw 109 rfl) (hwi hw 112 rfl) a1636 [(.ref a1656), (.ref a1691), (.ref a1479), (.ref a1495)] [(.ref a1636)] rfl (rm_tab_0_1 hw a1636 a1656 a1691 a1479 a1495 a1406 a1433 b1495 k1495 mr aL aN aE kN _ O1729 f1636 F1736 F1737 F1738 F1739 F1740 MM SL XL FL VN SE F1741 F1742 F1730 F1731 F1732 F1733 F1734 O1495 F1735 (Ne.symm n1644) (Ne.symm n1646)) (hb hby at_108) rfl (lenOf pd_39 rfl) rfl (by decide) (by decide) (Nat.le_of_ble_eq_true rfl) (by decide) (by decide) ?_
      rintro v1743 T1743 h1743 L1743 X1743 e1743 ⟨o1743, rfl, N1743, K1743, g1743, F1743, E1743⟩
      have N1743a := Fr.app N1691a N1743
      have F1766 := (Safe.keep K1691 sf0 H1688.1 (Safe.keep K1656 sf0 H1653.1 SF1636))
      have sf1765 : ∀ x ∈ [a1636], Safe Z own_EL T1464.vm h1691 x := (sfS F1766 sf0)
      have C1765 : CHr Z own_EL T1464.vm h1691 T1464.vm h1743 := CHr.keep K1743 sf1765 H1728.1
      have hk := Nat.le_trans hk C1765.2.1
      have H1765 := H1728.trans C1765
      show Ends p e below _ T1743 (mkF m 111 #[iv i0, iv i1, iv i2, iv i3, iv (i0 &&& (3 : Int32)), iv (i1 &&& (3 : Int32)), rv a1406, rv a1433, rv a1479, rv a1495, .unset] [(.ref a1636)])
      refine go (fun _ => XS.astore X1743.here hx rfl (hb hby at_111) rfl rfl (l' := #[iv i0, iv i1, iv i2, iv i3, iv (i0 &&& (3 : Int32)), iv (i1 &&& (3 : Int32)), rv a1406, rv a1433, rv a1479, rv a1495, rv a1636]) rfl) ?_
      refine go (fun _ => XS.aload X1743.here hx rfl (hb hby at_113) rfl rfl) ?_
      show Ends p e below _ T1743 (mkF m 115 #[iv i0, iv i1, iv i2, iv i3, iv (i0 &&& (3 : Int32)), iv (i1 &&& (3 : Int32)), rv a1406, rv a1433, rv a1479, rv a1495, rv a1636] [(.ref a1636)])
      have F1769 := (Exa.keep F1736 K1743)
      refine cVirt X1743 hx hZ hown (by rw [hml]; rfl) e1743 (hwi hw 214 rfl) (hwi hw 215 rfl) (hwi hw 217 rfl) (hwi hw 216 rfl) (hwi hw 109 rfl) (hwi hw 218 rfl) (notFace_of_selects (args := #[]) (mvT hZ (hwi hw 217 rfl))) a1636 F1769 [] [] rfl (rm_hp_1 hw a1636 o1743 _ F1743 E1743) (hb hby at_115) rfl (lenOf pd_23 rfl) (by decide) (by decide) (Nat.le_of_ble_eq_true rfl) (by decide) (by decide) ?_
      rintro v1768 T1768 h1768 L1768 X1768 e1768 ⟨rfl, N1768, rfl⟩
      have N1768a := Fr.app N1743a N1768
      show Ends p e below _ T1768 (mkF m 118 #[iv i0, iv i1, iv i2, iv i3, iv (i0 &&& (3 : Int32)), iv (i1 &&& (3 : Int32)), rv a1406, rv a1433, rv a1479, rv a1495, rv a1636] [(.int (1 : Int32))])
      refine go (fun _ => XS.iload X1768.here hx rfl (hb hby at_118) rfl) ?_
      show Ends p e below _ T1768 (mkF m 120 #[iv i0, iv i1, iv i2, iv i3, iv (i0 &&& (3 : Int32)), iv (i1 &&& (3 : Int32)), rv a1406, rv a1433, rv a1479, rv a1495, rv a1636] [(.int (i0 &&& (3 : Int32))), (.int (1 : Int32))])
      refine go (fun _ => XS.ifNo X1768.here hx rfl (hb hby at_120) rfl (XT.i0_eq_f ((by rw [c1495]; decide) : ¬ ((i0 &&& (3 : Int32)) = (0 : Int32))))) ?_
      show Ends p e below _ T1768 (mkF m 123 #[iv i0, iv i1, iv i2, iv i3, iv (i0 &&& (3 : Int32)), iv (i1 &&& (3 : Int32)), rv a1406, rv a1433, rv a1479, rv a1495, rv a1636] [(.int (1 : Int32))])
      refine go (fun _ => XT.iconstV X1768.here hx rfl (1 : Int32) (hb hby at_123) (by decide)) ?_
      refine go (fun _ => XS.goto X1768.here hx rfl (pc0 := 124) (pc' := 128) rfl (hb hby at_124) (by decide) (by decide)) ?_
      show Ends p e below _ T1768 (mkF m 128 #[iv i0, iv i1, iv i2, iv i3, iv (i0 &&& (3 : Int32)), iv (i1 &&& (3 : Int32)), rv a1406, rv a1433, rv a1479, rv a1495, rv a1636] [(.int (1 : Int32)), (.int (1 : Int32))])
      refine go (fun _ => XS.icmpNo X1768.here hx rfl (hb hby at_128) rfl (XT.ii_ne_f ((by decide) : (1 : Int32) = (1 : Int32)))) ?_
      show Ends p e below _ T1768 (mkF m 131 #[iv i0, iv i1, iv i2, iv i3, iv (i0 &&& (3 : Int32)), iv (i1 &&& (3 : Int32)), rv a1406, rv a1433, rv a1479, rv a1495, rv a1636] [])
      refine go (fun _ => XT.iconstV X1768.here hx rfl (1 : Int32) (hb hby at_131) (by decide)) ?_
      refine go (fun _ => XS.goto X1768.here hx rfl (pc0 := 132) (pc' := 136) rfl (hb hby at_132) (by decide) (by decide)) ?_
      show Ends p e below _ T1768 (mkF m 136 #[iv i0, iv i1, iv i2, iv i3, iv (i0 &&& (3 : Int32)), iv (i1 &&& (3 : Int32)), rv a1406, rv a1433, rv a1479, rv a1495, rv a1636] [(.int (1 : Int32))])
      exact endN X1768 hx hret (by simp) (hb hby at_136) (lvW X1768 hlk hZ (own_EW hw) hs0 hS hk H1765 e1768 (fun h => by rw [hret] at h; cases h) ⟨rfl, N1768a⟩ (by decide) (by decide))
    · have N1495a := Fr.app N1479a N1495
      have C1790 : CHr Z own_EL T1464.vm h1479 T1464.vm h1495 := CHr.keep K1495 sf0 H1491.1
      have hk := Nat.le_trans hk C1790.2.1
      have H1790 := H1491.trans C1790
      have O1791 : Ext Z.heap h1495 := xk O1492 K1495 all0
      show Ends p e below _ T1495 (mkF m 74 #[iv i0, iv i1, iv i2, iv i3, iv (i0 &&& (3 : Int32)), iv (i1 &&& (3 : Int32)), rv a1406, rv a1433, rv a1479, .unset, .unset] [(.ref a1495)])
      refine go (fun _ => XS.astore X1495.here hx rfl (hb hby at_74) rfl rfl (l' := #[iv i0, iv i1, iv i2, iv i3, iv (i0 &&& (3 : Int32)), iv (i1 &&& (3 : Int32)), rv a1406, rv a1433, rv a1479, rv a1495, .unset]) rfl) ?_
      show Ends p e below _ T1495 (mkF m 76 #[iv i0, iv i1, iv i2, iv i3, iv (i0 &&& (3 : Int32)), iv (i1 &&& (3 : Int32)), rv a1406, rv a1433, rv a1479, rv a1495, .unset] [])
      obtain ⟨T1792, h1792, X1792, e1792, E1792, A1792, D1792, U1792, s1792⟩ := newO X1495 hx hZ hown (hwi hw 107 rfl) (hwi hw 108 rfl) (hwi hw 109 rfl) e1495 (g := (mkF m 76 #[iv i0, iv i1, iv i2, iv i3, iv (i0 &&& (3 : Int32)), iv (i1 &&& (3 : Int32)), rv a1406, rv a1433, rv a1479, rv a1495, .unset] [])) rfl (hb hby at_76) (by decide) (by decide)
      have F1793 := (Exa.keep F1494 K1495)
      have F1795 := (Exa.keep F1493 K1495)
      have F1797 := (Exa.keep E1479 K1495)
      obtain ⟨a1792, g1792⟩ : ∃ z : Addr, z = h1495.size := ⟨_, rfl⟩
      have n1800 : a1406 ≠ a1792 := fun q => absurd (F1793.lt) (by rw [q, g1792]; exact Nat.lt_irrefl _)
      have n1802 : a1433 ≠ a1792 := fun q => absurd (F1795.lt) (by rw [q, g1792]; exact Nat.lt_irrefl _)
      have f1792 : Z.heap.size ≤ a1792 := by rw [g1792]; exact (O1791).1
      rw [← g1792] at A1792 D1792 U1792 s1792
      have C1809 : CHr Z own_EL T1464.vm h1495 T1464.vm h1792 := CHr.ext E1792 H1790.1
      have hk := Nat.le_trans hk C1809.2.1
      have H1809 := H1790.trans C1809
      have O1810 : Ext Z.heap h1792 := xx O1791 E1792
      have SF1792 : Safe Z own_EL T1464.vm h1792 a1792 := Safe.ext E1792 H1790.1 (Safe.new (by rw [g1792]; exact Nat.le_refl _))
      refine go s1792 ?_
      show Ends p e below _ T1792 (mkF m 79 #[iv i0, iv i1, iv i2, iv i3, iv (i0 &&& (3 : Int32)), iv (i1 &&& (3 : Int32)), rv a1406, rv a1433, rv a1479, rv a1495, .unset] [(.ref a1792)])
      refine go (fun _ => XS.dup X1792.here hx rfl (hb hby at_79) rfl rfl) ?_
      refine go (fun _ => XS.iloadN X1792.here hx rfl (hb hby at_80) rfl) ?_
      refine go (fun _ => XT.bipushV X1792.here hx rfl (8 : Int32) (hb hby at_81) (by decide)) ?_
      refine go (fun _ => XT.iushr X1792.here hx rfl (hb hby at_83) rfl) ?_
      refine go (fun _ => XT.sipushV X1792.here hx rfl (255 : Int32) (hb hby at_84) (by decide)) ?_
      refine go (fun _ => XS.iand X1792.here hx rfl (hb hby at_87) rfl) ?_
      show Ends p e below _ T1792 (mkF m 88 #[iv i0, iv i1, iv i2, iv i3, iv (i0 &&& (3 : Int32)), iv (i1 &&& (3 : Int32)), rv a1406, rv a1433, rv a1479, rv a1495, .unset] [(.int ((XT.ushr i2 (8 : Int32)) &&& (255 : Int32))), (.ref a1792), (.ref a1792)])
      refine go (fun _ => XT.i2c X1792.here hx rfl (hb hby at_88) rfl) ?_
      show Ends p e below _ T1792 (mkF m 89 #[iv i0, iv i1, iv i2, iv i3, iv (i0 &&& (3 : Int32)), iv (i1 &&& (3 : Int32)), rv a1406, rv a1433, rv a1479, rv a1495, .unset] [(.int ((XT.ushr i2 (8 : Int32)) &&& (255 : Int32)).toUInt32.toUInt16.toUInt32.toInt32), (.ref a1792), (.ref a1792)])
      obtain ⟨ch1811, hch1811⟩ : ∃ z : Int32, z = ((XT.ushr i2 (8 : Int32)) &&& (255 : Int32)).toUInt32.toUInt16.toUInt32.toInt32 := ⟨_, rfl⟩
      have lc1811 : ¬ (255 : Int32) < ch1811 := by rw [hch1811]; exact (own_ch _).1
      rw [← hch1811]
      show Ends p e below _ T1792 (mkF m 89 #[iv i0, iv i1, iv i2, iv i3, iv (i0 &&& (3 : Int32)), iv (i1 &&& (3 : Int32)), rv a1406, rv a1433, rv a1479, rv a1495, .unset] [(.int ch1811), (.ref a1792), (.ref a1792)])
      refine cStat X1792 hx hZ hown (by rw [hml]; rfl) e1792 (hwi hw 3 rfl) (hwi hw 4 rfl) (hwi hw 5 rfl) (hwi hw 6 rfl) [(.int ch1811)] [(.ref a1792), (.ref a1792)] rfl (rm_cvalueOf hw ch1811 _ O1810 lc1811 cz SCS hcz) (hb hby at_89) rfl (lenOf pd_36 rfl) (by decide) (by decide) (Nat.le_of_ble_eq_true rfl) (by decide) (by decide) ?_
      rintro v1812 T1812 h1812 L1812 X1812 e1812 ⟨a1812, b1812, k1812, rfl, N1812, K1812, ga1812, gb1812, nn1812, E1812, Fv1812, Fc1812, V1812⟩
      have N1812a := Fr.app N1495a N1812
      have F1813 := (Exa.ext E1792 F1793)
      have F1817 := (Exa.ext E1792 F1795)
      have F1821 := (Exa.ext E1792 F1797)
      have F1823 := (Exa.ext E1792 E1495)
      have F1830 := (Arv.ext V1495 E1792)
      have C1844 : CHr Z own_EL T1464.vm h1792 T1464.vm h1812 := CHr.keep K1812 sf0 H1809.1
      have hk := Nat.le_trans hk C1844.2.1
      have H1844 := H1809.trans C1844
      have O1845 : Ext Z.heap h1812 := xk O1810 K1812 all0
      show Ends p e below _ T1812 (mkF m 92 #[iv i0, iv i1, iv i2, iv i3, iv (i0 &&& (3 : Int32)), iv (i1 &&& (3 : Int32)), rv a1406, rv a1433, rv a1479, rv a1495, .unset] [(.ref a1812), (.ref a1792), (.ref a1792)])
      refine go (fun _ => XS.iloadN X1812.here hx rfl (hb hby at_92) rfl) ?_
      refine go (fun _ => XT.bipushV X1812.here hx rfl (8 : Int32) (hb hby at_93) (by decide)) ?_
      refine go (fun _ => XT.iushr X1812.here hx rfl (hb hby at_95) rfl) ?_
      refine go (fun _ => XT.sipushV X1812.here hx rfl (255 : Int32) (hb hby at_96) (by decide)) ?_
      refine go (fun _ => XS.iand X1812.here hx rfl (hb hby at_99) rfl) ?_
      refine go (fun _ => XT.i2c X1812.here hx rfl (hb hby at_100) rfl) ?_
      show Ends p e below _ T1812 (mkF m 101 #[iv i0, iv i1, iv i2, iv i3, iv (i0 &&& (3 : Int32)), iv (i1 &&& (3 : Int32)), rv a1406, rv a1433, rv a1479, rv a1495, .unset] [(.int ((XT.ushr i3 (8 : Int32)) &&& (255 : Int32)).toUInt32.toUInt16.toUInt32.toInt32), (.ref a1812), (.ref a1792), (.ref a1792)])
      obtain ⟨ch1846, hch1846⟩ : ∃ z : Int32, z = ((XT.ushr i3 (8 : Int32)) &&& (255 : Int32)).toUInt32.toUInt16.toUInt32.toInt32 := ⟨_, rfl⟩
      have lc1846 : ¬ (255 : Int32) < ch1846 := by rw [hch1846]; exact (own_ch _).1
      rw [← hch1846]
      show Ends p e below _ T1812 (mkF m 101 #[iv i0, iv i1, iv i2, iv i3, iv (i0 &&& (3 : Int32)), iv (i1 &&& (3 : Int32)), rv a1406, rv a1433, rv a1479, rv a1495, .unset] [(.int ch1846), (.ref a1812), (.ref a1792), (.ref a1792)])
      refine cStat X1812 hx hZ hown (by rw [hml]; rfl) e1812 (hwi hw 3 rfl) (hwi hw 4 rfl) (hwi hw 5 rfl) (hwi hw 6 rfl) [(.int ch1846)] [(.ref a1812), (.ref a1792), (.ref a1792)] rfl (rm_cvalueOf hw ch1846 _ O1845 lc1846 cz SCS hcz) (hb hby at_101) rfl (lenOf pd_36 rfl) (by decide) (by decide) (Nat.le_of_ble_eq_true rfl) (by decide) (by decide) ?_
      rintro v1847 T1847 h1847 L1847 X1847 e1847 ⟨a1847, b1847, k1847, rfl, N1847, K1847, ga1847, gb1847, nn1847, E1847, Fv1847, Fc1847, V1847⟩
      have N1847a := Fr.app N1812a N1847
      have F1848 := (Exa.keep F1813 K1812)
      have F1852 := (Exa.keep F1817 K1812)
      have F1856 := (Exa.keep F1821 K1812)
      have F1858 := (Exa.keep F1823 K1812)
      have F1860 := (Exa.keep A1792 K1812)
      have F1867 := (Arv.keep F1830 K1812 nin0)
      have C1884 : CHr Z own_EL T1464.vm h1812 T1464.vm h1847 := CHr.keep K1847 sf0 H1844.1
      have hk := Nat.le_trans hk C1884.2.1
      have H1884 := H1844.trans C1884
      have O1885 : Ext Z.heap h1847 := xk O1845 K1847 all0
      show Ends p e below _ T1847 (mkF m 104 #[iv i0, iv i1, iv i2, iv i3, iv (i0 &&& (3 : Int32)), iv (i1 &&& (3 : Int32)), rv a1406, rv a1433, rv a1479, rv a1495, .unset] [(.ref a1847), (.ref a1812), (.ref a1792), (.ref a1792)])
      refine go (fun _ => XS.aload X1847.here hx rfl (hb hby at_104) rfl rfl) ?_
      refine go (fun _ => XS.aload X1847.here hx rfl (hb hby at_106) rfl rfl) ?_
      show Ends p e below _ T1847 (mkF m 108 #[iv i0, iv i1, iv i2, iv i3, iv (i0 &&& (3 : Int32)), iv (i1 &&& (3 : Int32)), rv a1406, rv a1433, rv a1479, rv a1495, .unset] [(.ref a1495), (.ref a1479), (.ref a1847), (.ref a1812), (.ref a1792), (.ref a1792)])
      have F1886 := (Exa.keep F1856 K1847)
      have F1887 := (Fld.keep (Fld.keep (Fld.ext E1792 (Fld.keep F31479 K1495 nin0)) K1812 nin0) K1847 nin0)
      have F1888 := (Exa.keep F1858 K1847)
      have F1889 := (Fld.keep (Fld.keep (Fld.ext E1792 F21495) K1812 nin0) K1847 nin0)
      have F1890 := (Fld.keep (Fld.keep (Fld.ext E1792 F31495) K1812 nin0) K1847 nin0)
      have F1891 := (Arv.keep F1867 K1847 nin0)
      have F1892 := (Exa.keep F1860 K1847)
      have F1893 := (Fld.keep (Fld.keep (D1792 (Or.inr (hwi hw 207 rfl)) (ty := (.object "java/lang/String")) (by decide)) K1812 nin0) K1847 nin0)
      have F1894 := (Fld.keep (Fld.keep (D1792 (Or.inr (hwi hw 209 rfl)) (ty := (.object "java/lang/String")) (by decide)) K1812 nin0) K1847 nin0)
      have F1895 := (Fld.keep (Fld.keep (D1792 (Or.inr (hwi hw 211 rfl)) (ty := (.object "java/util/List")) (by decide)) K1812 nin0) K1847 nin0)
      have F1896 := (Fld.keep (Fld.keep (D1792 (Or.inr (hwi hw 213 rfl)) (ty := (.object "java/util/List")) (by decide)) K1812 nin0) K1847 nin0)
      have F1897 := (Exa.keep F1848 K1847)
      have F1898 := (Exa.keep F1852 K1847)
      refine cInit X1847 hx hZ hown (by rw [hml]; rfl) e1847 (hwi hw 110 rfl) (hwi hw 111 rfl) (hwi hw 109 rfl) (hwi hw 112 rfl) a1792 [(.ref a1812), (.ref a1847), (.ref a1479), (.ref a1495)] [(.ref a1792)] rfl (rm_tab_0_2 hw a1792 a1812 a1847 a1479 a1495 a1406 a1433 b1495 k1495 mr aL aN aE kN _ O1885 f1792 F1892 F1893 F1894 F1895 F1896 MM SL XL FL VN SE F1897 F1898 F1886 F1887 F1888 F1889 F1890 O1495 F1891 (Ne.symm n1800) (Ne.symm n1802)) (hb hby at_108) rfl (lenOf pd_39 rfl) rfl (by decide) (by decide) (Nat.le_of_ble_eq_true rfl) (by decide) (by decide) ?_
      rintro v1899 T1899 h1899 L1899 X1899 e1899 ⟨o1899, rfl, N1899, K1899, g1899, F1899, E1899⟩
      have N1899a := Fr.app N1847a N1899
      have F1922 := (Safe.keep K1847 sf0 H1844.1 (Safe.keep K1812 sf0 H1809.1 SF1792))
      have sf1921 : ∀ x ∈ [a1792], Safe Z own_EL T1464.vm h1847 x := (sfS F1922 sf0)
      have C1921 : CHr Z own_EL T1464.vm h1847 T1464.vm h1899 := CHr.keep K1899 sf1921 H1884.1
      have hk := Nat.le_trans hk C1921.2.1
      have H1921 := H1884.trans C1921
      show Ends p e below _ T1899 (mkF m 111 #[iv i0, iv i1, iv i2, iv i3, iv (i0 &&& (3 : Int32)), iv (i1 &&& (3 : Int32)), rv a1406, rv a1433, rv a1479, rv a1495, .unset] [(.ref a1792)])
      refine go (fun _ => XS.astore X1899.here hx rfl (hb hby at_111) rfl rfl (l' := #[iv i0, iv i1, iv i2, iv i3, iv (i0 &&& (3 : Int32)), iv (i1 &&& (3 : Int32)), rv a1406, rv a1433, rv a1479, rv a1495, rv a1792]) rfl) ?_
      refine go (fun _ => XS.aload X1899.here hx rfl (hb hby at_113) rfl rfl) ?_
      show Ends p e below _ T1899 (mkF m 115 #[iv i0, iv i1, iv i2, iv i3, iv (i0 &&& (3 : Int32)), iv (i1 &&& (3 : Int32)), rv a1406, rv a1433, rv a1479, rv a1495, rv a1792] [(.ref a1792)])
      have F1925 := (Exa.keep F1892 K1899)
      refine cVirt X1899 hx hZ hown (by rw [hml]; rfl) e1899 (hwi hw 214 rfl) (hwi hw 215 rfl) (hwi hw 217 rfl) (hwi hw 216 rfl) (hwi hw 109 rfl) (hwi hw 218 rfl) (notFace_of_selects (args := #[]) (mvT hZ (hwi hw 217 rfl))) a1792 F1925 [] [] rfl (rm_hp_1 hw a1792 o1899 _ F1899 E1899) (hb hby at_115) rfl (lenOf pd_23 rfl) (by decide) (by decide) (Nat.le_of_ble_eq_true rfl) (by decide) (by decide) ?_
      rintro v1924 T1924 h1924 L1924 X1924 e1924 ⟨rfl, N1924, rfl⟩
      have N1924a := Fr.app N1899a N1924
      show Ends p e below _ T1924 (mkF m 118 #[iv i0, iv i1, iv i2, iv i3, iv (i0 &&& (3 : Int32)), iv (i1 &&& (3 : Int32)), rv a1406, rv a1433, rv a1479, rv a1495, rv a1792] [(.int (1 : Int32))])
      refine go (fun _ => XS.iload X1924.here hx rfl (hb hby at_118) rfl) ?_
      show Ends p e below _ T1924 (mkF m 120 #[iv i0, iv i1, iv i2, iv i3, iv (i0 &&& (3 : Int32)), iv (i1 &&& (3 : Int32)), rv a1406, rv a1433, rv a1479, rv a1495, rv a1792] [(.int (i0 &&& (3 : Int32))), (.int (1 : Int32))])
      refine go (fun _ => XS.ifNo X1924.here hx rfl (hb hby at_120) rfl (XT.i0_eq_f ((by rw [c1495]; decide) : ¬ ((i0 &&& (3 : Int32)) = (0 : Int32))))) ?_
      show Ends p e below _ T1924 (mkF m 123 #[iv i0, iv i1, iv i2, iv i3, iv (i0 &&& (3 : Int32)), iv (i1 &&& (3 : Int32)), rv a1406, rv a1433, rv a1479, rv a1495, rv a1792] [(.int (1 : Int32))])
      refine go (fun _ => XT.iconstV X1924.here hx rfl (1 : Int32) (hb hby at_123) (by decide)) ?_
      refine go (fun _ => XS.goto X1924.here hx rfl (pc0 := 124) (pc' := 128) rfl (hb hby at_124) (by decide) (by decide)) ?_
      show Ends p e below _ T1924 (mkF m 128 #[iv i0, iv i1, iv i2, iv i3, iv (i0 &&& (3 : Int32)), iv (i1 &&& (3 : Int32)), rv a1406, rv a1433, rv a1479, rv a1495, rv a1792] [(.int (1 : Int32)), (.int (1 : Int32))])
      refine go (fun _ => XS.icmpNo X1924.here hx rfl (hb hby at_128) rfl (XT.ii_ne_f ((by decide) : (1 : Int32) = (1 : Int32)))) ?_
      show Ends p e below _ T1924 (mkF m 131 #[iv i0, iv i1, iv i2, iv i3, iv (i0 &&& (3 : Int32)), iv (i1 &&& (3 : Int32)), rv a1406, rv a1433, rv a1479, rv a1495, rv a1792] [])
      refine go (fun _ => XT.iconstV X1924.here hx rfl (1 : Int32) (hb hby at_131) (by decide)) ?_
      refine go (fun _ => XS.goto X1924.here hx rfl (pc0 := 132) (pc' := 136) rfl (hb hby at_132) (by decide) (by decide)) ?_
      show Ends p e below _ T1924 (mkF m 136 #[iv i0, iv i1, iv i2, iv i3, iv (i0 &&& (3 : Int32)), iv (i1 &&& (3 : Int32)), rv a1406, rv a1433, rv a1479, rv a1495, rv a1792] [(.int (1 : Int32))])
      exact endN X1924 hx hret (by simp) (hb hby at_136) (lvW X1924 hlk hZ (own_EW hw) hs0 hS hk H1921 e1924 (fun h => by rw [hret] at h; cases h) ⟨rfl, N1924a⟩ (by decide) (by decide))
    · have N1495a := Fr.app N1479a N1495
      have C1946 : CHr Z own_EL T1464.vm h1479 T1464.vm h1495 := CHr.keep K1495 sf0 H1491.1
      have hk := Nat.le_trans hk C1946.2.1
      have H1946 := H1491.trans C1946
      have O1947 : Ext Z.heap h1495 := xk O1492 K1495 all0
      show Ends p e below _ T1495 (mkF m 74 #[iv i0, iv i1, iv i2, iv i3, iv (i0 &&& (3 : Int32)), iv (i1 &&& (3 : Int32)), rv a1406, rv a1433, rv a1479, .unset, .unset] [(.ref a1495)])
      refine go (fun _ => XS.astore X1495.here hx rfl (hb hby at_74) rfl rfl (l' := #[iv i0, iv i1, iv i2, iv i3, iv (i0 &&& (3 : Int32)), iv (i1 &&& (3 : Int32)), rv a1406, rv a1433, rv a1479, rv a1495, .unset]) rfl) ?_
      show Ends p e below _ T1495 (mkF m 76 #[iv i0, iv i1, iv i2, iv i3, iv (i0 &&& (3 : Int32)), iv (i1 &&& (3 : Int32)), rv a1406, rv a1433, rv a1479, rv a1495, .unset] [])
      obtain ⟨T1948, h1948, X1948, e1948, E1948, A1948, D1948, U1948, s1948⟩ := newO X1495 hx hZ hown (hwi hw 107 rfl) (hwi hw 108 rfl) (hwi hw 109 rfl) e1495 (g := (mkF m 76 #[iv i0, iv i1, iv i2, iv i3, iv (i0 &&& (3 : Int32)), iv (i1 &&& (3 : Int32)), rv a1406, rv a1433, rv a1479, rv a1495, .unset] [])) rfl (hb hby at_76) (by decide) (by decide)
      have F1949 := (Exa.keep F1494 K1495)
      have F1951 := (Exa.keep F1493 K1495)
      have F1953 := (Exa.keep E1479 K1495)
      obtain ⟨a1948, g1948⟩ : ∃ z : Addr, z = h1495.size := ⟨_, rfl⟩
      have n1956 : a1406 ≠ a1948 := fun q => absurd (F1949.lt) (by rw [q, g1948]; exact Nat.lt_irrefl _)
      have n1958 : a1433 ≠ a1948 := fun q => absurd (F1951.lt) (by rw [q, g1948]; exact Nat.lt_irrefl _)
      have f1948 : Z.heap.size ≤ a1948 := by rw [g1948]; exact (O1947).1
      rw [← g1948] at A1948 D1948 U1948 s1948
      have C1965 : CHr Z own_EL T1464.vm h1495 T1464.vm h1948 := CHr.ext E1948 H1946.1
      have hk := Nat.le_trans hk C1965.2.1
      have H1965 := H1946.trans C1965
      have O1966 : Ext Z.heap h1948 := xx O1947 E1948
      have SF1948 : Safe Z own_EL T1464.vm h1948 a1948 := Safe.ext E1948 H1946.1 (Safe.new (by rw [g1948]; exact Nat.le_refl _))
      refine go s1948 ?_
      show Ends p e below _ T1948 (mkF m 79 #[iv i0, iv i1, iv i2, iv i3, iv (i0 &&& (3 : Int32)), iv (i1 &&& (3 : Int32)), rv a1406, rv a1433, rv a1479, rv a1495, .unset] [(.ref a1948)])
      refine go (fun _ => XS.dup X1948.here hx rfl (hb hby at_79) rfl rfl) ?_
      refine go (fun _ => XS.iloadN X1948.here hx rfl (hb hby at_80) rfl) ?_
      refine go (fun _ => XT.bipushV X1948.here hx rfl (8 : Int32) (hb hby at_81) (by decide)) ?_
      refine go (fun _ => XT.iushr X1948.here hx rfl (hb hby at_83) rfl) ?_
      refine go (fun _ => XT.sipushV X1948.here hx rfl (255 : Int32) (hb hby at_84) (by decide)) ?_
      refine go (fun _ => XS.iand X1948.here hx rfl (hb hby at_87) rfl) ?_
      show Ends p e below _ T1948 (mkF m 88 #[iv i0, iv i1, iv i2, iv i3, iv (i0 &&& (3 : Int32)), iv (i1 &&& (3 : Int32)), rv a1406, rv a1433, rv a1479, rv a1495, .unset] [(.int ((XT.ushr i2 (8 : Int32)) &&& (255 : Int32))), (.ref a1948), (.ref a1948)])
      refine go (fun _ => XT.i2c X1948.here hx rfl (hb hby at_88) rfl) ?_
      show Ends p e below _ T1948 (mkF m 89 #[iv i0, iv i1, iv i2, iv i3, iv (i0 &&& (3 : Int32)), iv (i1 &&& (3 : Int32)), rv a1406, rv a1433, rv a1479, rv a1495, .unset] [(.int ((XT.ushr i2 (8 : Int32)) &&& (255 : Int32)).toUInt32.toUInt16.toUInt32.toInt32), (.ref a1948), (.ref a1948)])
      obtain ⟨ch1967, hch1967⟩ : ∃ z : Int32, z = ((XT.ushr i2 (8 : Int32)) &&& (255 : Int32)).toUInt32.toUInt16.toUInt32.toInt32 := ⟨_, rfl⟩
      have lc1967 : ¬ (255 : Int32) < ch1967 := by rw [hch1967]; exact (own_ch _).1
      rw [← hch1967]
      show Ends p e below _ T1948 (mkF m 89 #[iv i0, iv i1, iv i2, iv i3, iv (i0 &&& (3 : Int32)), iv (i1 &&& (3 : Int32)), rv a1406, rv a1433, rv a1479, rv a1495, .unset] [(.int ch1967), (.ref a1948), (.ref a1948)])
      refine cStat X1948 hx hZ hown (by rw [hml]; rfl) e1948 (hwi hw 3 rfl) (hwi hw 4 rfl) (hwi hw 5 rfl) (hwi hw 6 rfl) [(.int ch1967)] [(.ref a1948), (.ref a1948)] rfl (rm_cvalueOf hw ch1967 _ O1966 lc1967 cz SCS hcz) (hb hby at_89) rfl (lenOf pd_36 rfl) (by decide) (by decide) (Nat.le_of_ble_eq_true rfl) (by decide) (by decide) ?_
      rintro v1968 T1968 h1968 L1968 X1968 e1968 ⟨a1968, b1968, k1968, rfl, N1968, K1968, ga1968, gb1968, nn1968, E1968, Fv1968, Fc1968, V1968⟩
      have N1968a := Fr.app N1495a N1968
      have F1969 := (Exa.ext E1948 F1949)
      have F1973 := (Exa.ext E1948 F1951)
      have F1977 := (Exa.ext E1948 F1953)
      have F1979 := (Exa.ext E1948 E1495)
      have F1986 := (Arv.ext V1495 E1948)
      have C2000 : CHr Z own_EL T1464.vm h1948 T1464.vm h1968 := CHr.keep K1968 sf0 H1965.1
      have hk := Nat.le_trans hk C2000.2.1
      have H2000 := H1965.trans C2000
      have O2001 : Ext Z.heap h1968 := xk O1966 K1968 all0
      show Ends p e below _ T1968 (mkF m 92 #[iv i0, iv i1, iv i2, iv i3, iv (i0 &&& (3 : Int32)), iv (i1 &&& (3 : Int32)), rv a1406, rv a1433, rv a1479, rv a1495, .unset] [(.ref a1968), (.ref a1948), (.ref a1948)])
      refine go (fun _ => XS.iloadN X1968.here hx rfl (hb hby at_92) rfl) ?_
      refine go (fun _ => XT.bipushV X1968.here hx rfl (8 : Int32) (hb hby at_93) (by decide)) ?_
      refine go (fun _ => XT.iushr X1968.here hx rfl (hb hby at_95) rfl) ?_
      refine go (fun _ => XT.sipushV X1968.here hx rfl (255 : Int32) (hb hby at_96) (by decide)) ?_
      refine go (fun _ => XS.iand X1968.here hx rfl (hb hby at_99) rfl) ?_
      refine go (fun _ => XT.i2c X1968.here hx rfl (hb hby at_100) rfl) ?_
      show Ends p e below _ T1968 (mkF m 101 #[iv i0, iv i1, iv i2, iv i3, iv (i0 &&& (3 : Int32)), iv (i1 &&& (3 : Int32)), rv a1406, rv a1433, rv a1479, rv a1495, .unset] [(.int ((XT.ushr i3 (8 : Int32)) &&& (255 : Int32)).toUInt32.toUInt16.toUInt32.toInt32), (.ref a1968), (.ref a1948), (.ref a1948)])
      obtain ⟨ch2002, hch2002⟩ : ∃ z : Int32, z = ((XT.ushr i3 (8 : Int32)) &&& (255 : Int32)).toUInt32.toUInt16.toUInt32.toInt32 := ⟨_, rfl⟩
      have lc2002 : ¬ (255 : Int32) < ch2002 := by rw [hch2002]; exact (own_ch _).1
      rw [← hch2002]
      show Ends p e below _ T1968 (mkF m 101 #[iv i0, iv i1, iv i2, iv i3, iv (i0 &&& (3 : Int32)), iv (i1 &&& (3 : Int32)), rv a1406, rv a1433, rv a1479, rv a1495, .unset] [(.int ch2002), (.ref a1968), (.ref a1948), (.ref a1948)])
      refine cStat X1968 hx hZ hown (by rw [hml]; rfl) e1968 (hwi hw 3 rfl) (hwi hw 4 rfl) (hwi hw 5 rfl) (hwi hw 6 rfl) [(.int ch2002)] [(.ref a1968), (.ref a1948), (.ref a1948)] rfl (rm_cvalueOf hw ch2002 _ O2001 lc2002 cz SCS hcz) (hb hby at_101) rfl (lenOf pd_36 rfl) (by decide) (by decide) (Nat.le_of_ble_eq_true rfl) (by decide) (by decide) ?_
      rintro v2003 T2003 h2003 L2003 X2003 e2003 ⟨a2003, b2003, k2003, rfl, N2003, K2003, ga2003, gb2003, nn2003, E2003, Fv2003, Fc2003, V2003⟩
      have N2003a := Fr.app N1968a N2003
      have F2004 := (Exa.keep F1969 K1968)
      have F2008 := (Exa.keep F1973 K1968)
      have F2012 := (Exa.keep F1977 K1968)
      have F2014 := (Exa.keep F1979 K1968)
      have F2016 := (Exa.keep A1948 K1968)
      have F2023 := (Arv.keep F1986 K1968 nin0)
      have C2040 : CHr Z own_EL T1464.vm h1968 T1464.vm h2003 := CHr.keep K2003 sf0 H2000.1
      have hk := Nat.le_trans hk C2040.2.1
      have H2040 := H2000.trans C2040
      have O2041 : Ext Z.heap h2003 := xk O2001 K2003 all0
      show Ends p e below _ T2003 (mkF m 104 #[iv i0, iv i1, iv i2, iv i3, iv (i0 &&& (3 : Int32)), iv (i1 &&& (3 : Int32)), rv a1406, rv a1433, rv a1479, rv a1495, .unset] [(.ref a2003), (.ref a1968), (.ref a1948), (.ref a1948)])
      refine go (fun _ => XS.aload X2003.here hx rfl (hb hby at_104) rfl rfl) ?_
      refine go (fun _ => XS.aload X2003.here hx rfl (hb hby at_106) rfl rfl) ?_
      show Ends p e below _ T2003 (mkF m 108 #[iv i0, iv i1, iv i2, iv i3, iv (i0 &&& (3 : Int32)), iv (i1 &&& (3 : Int32)), rv a1406, rv a1433, rv a1479, rv a1495, .unset] [(.ref a1495), (.ref a1479), (.ref a2003), (.ref a1968), (.ref a1948), (.ref a1948)])
      have F2042 := (Exa.keep F2012 K2003)
      have F2043 := (Fld.keep (Fld.keep (Fld.ext E1948 (Fld.keep F31479 K1495 nin0)) K1968 nin0) K2003 nin0)
      have F2044 := (Exa.keep F2014 K2003)
      have F2045 := (Fld.keep (Fld.keep (Fld.ext E1948 F21495) K1968 nin0) K2003 nin0)
      have F2046 := (Fld.keep (Fld.keep (Fld.ext E1948 F31495) K1968 nin0) K2003 nin0)
      have F2047 := (Arv.keep F2023 K2003 nin0)
      have F2048 := (Exa.keep F2016 K2003)
      have F2049 := (Fld.keep (Fld.keep (D1948 (Or.inr (hwi hw 207 rfl)) (ty := (.object "java/lang/String")) (by decide)) K1968 nin0) K2003 nin0)
      have F2050 := (Fld.keep (Fld.keep (D1948 (Or.inr (hwi hw 209 rfl)) (ty := (.object "java/lang/String")) (by decide)) K1968 nin0) K2003 nin0)
      have F2051 := (Fld.keep (Fld.keep (D1948 (Or.inr (hwi hw 211 rfl)) (ty := (.object "java/util/List")) (by decide)) K1968 nin0) K2003 nin0)
      have F2052 := (Fld.keep (Fld.keep (D1948 (Or.inr (hwi hw 213 rfl)) (ty := (.object "java/util/List")) (by decide)) K1968 nin0) K2003 nin0)
      have F2053 := (Exa.keep F2004 K2003)
      have F2054 := (Exa.keep F2008 K2003)
      refine cInit X2003 hx hZ hown (by rw [hml]; rfl) e2003 (hwi hw 110 rfl) (hwi hw 111 rfl) (hwi hw 109 rfl) (hwi hw 112 rfl) a1948 [(.ref a1968), (.ref a2003), (.ref a1479), (.ref a1495)] [(.ref a1948)] rfl (rm_tab_0_3 hw a1948 a1968 a2003 a1479 a1495 a1406 a1433 b1495 k1495 mr aL aN aE kN _ O2041 f1948 F2048 F2049 F2050 F2051 F2052 MM SL XL FL VN SE F2053 F2054 F2042 F2043 F2044 F2045 F2046 O1495 F2047 (Ne.symm n1956) (Ne.symm n1958)) (hb hby at_108) rfl (lenOf pd_39 rfl) rfl (by decide) (by decide) (Nat.le_of_ble_eq_true rfl) (by decide) (by decide) ?_
      rintro v2055 T2055 h2055 L2055 X2055 e2055 ⟨o2055, r2055, kr2055, rfl, N2055, K2055, g2055, F2055, E2055, Fa2055, Fb2055⟩
      have N2055a := Fr.app N2003a N2055
      have F2078 := (Safe.keep K2003 sf0 H2000.1 (Safe.keep K1968 sf0 H1965.1 SF1948))
      have sf2077 : ∀ x ∈ [a1948], Safe Z own_EL T1464.vm h2003 x := (sfS F2078 sf0)
      have C2077 : CHr Z own_EL T1464.vm h2003 T1464.vm h2055 := CHr.keep K2055 sf2077 H2040.1
      have hk := Nat.le_trans hk C2077.2.1
      have H2077 := H2040.trans C2077
      show Ends p e below _ T2055 (mkF m 111 #[iv i0, iv i1, iv i2, iv i3, iv (i0 &&& (3 : Int32)), iv (i1 &&& (3 : Int32)), rv a1406, rv a1433, rv a1479, rv a1495, .unset] [(.ref a1948)])
      refine go (fun _ => XS.astore X2055.here hx rfl (hb hby at_111) rfl rfl (l' := #[iv i0, iv i1, iv i2, iv i3, iv (i0 &&& (3 : Int32)), iv (i1 &&& (3 : Int32)), rv a1406, rv a1433, rv a1479, rv a1495, rv a1948]) rfl) ?_
      refine go (fun _ => XS.aload X2055.here hx rfl (hb hby at_113) rfl rfl) ?_
      show Ends p e below _ T2055 (mkF m 115 #[iv i0, iv i1, iv i2, iv i3, iv (i0 &&& (3 : Int32)), iv (i1 &&& (3 : Int32)), rv a1406, rv a1433, rv a1479, rv a1495, rv a1948] [(.ref a1948)])
      have F2081 := (Exa.keep F2048 K2055)
      refine cVirt X2055 hx hZ hown (by rw [hml]; rfl) e2055 (hwi hw 214 rfl) (hwi hw 215 rfl) (hwi hw 217 rfl) (hwi hw 216 rfl) (hwi hw 109 rfl) (hwi hw 218 rfl) (notFace_of_selects (args := #[]) (mvT hZ (hwi hw 217 rfl))) a1948 F2081 [] [] rfl (rm_hp_3 hw a1948 o2055 r2055 kr2055 _ _ F2055 E2055 Fa2055 Fb2055) (hb hby at_115) rfl (lenOf pd_23 rfl) (by decide) (by decide) (Nat.le_of_ble_eq_true rfl) (by decide) (by decide) ?_
      rintro v2080 T2080 h2080 L2080 X2080 e2080 ⟨rfl, N2080, rfl⟩
      have N2080a := Fr.app N2055a N2080
      show Ends p e below _ T2080 (mkF m 118 #[iv i0, iv i1, iv i2, iv i3, iv (i0 &&& (3 : Int32)), iv (i1 &&& (3 : Int32)), rv a1406, rv a1433, rv a1479, rv a1495, rv a1948] [(.int (1 : Int32))])
      refine go (fun _ => XS.iload X2080.here hx rfl (hb hby at_118) rfl) ?_
      show Ends p e below _ T2080 (mkF m 120 #[iv i0, iv i1, iv i2, iv i3, iv (i0 &&& (3 : Int32)), iv (i1 &&& (3 : Int32)), rv a1406, rv a1433, rv a1479, rv a1495, rv a1948] [(.int (i0 &&& (3 : Int32))), (.int (1 : Int32))])
      refine go (fun _ => XS.ifNo X2080.here hx rfl (hb hby at_120) rfl (XT.i0_eq_f ((by rw [c1495]; decide) : ¬ ((i0 &&& (3 : Int32)) = (0 : Int32))))) ?_
      show Ends p e below _ T2080 (mkF m 123 #[iv i0, iv i1, iv i2, iv i3, iv (i0 &&& (3 : Int32)), iv (i1 &&& (3 : Int32)), rv a1406, rv a1433, rv a1479, rv a1495, rv a1948] [(.int (1 : Int32))])
      refine go (fun _ => XT.iconstV X2080.here hx rfl (1 : Int32) (hb hby at_123) (by decide)) ?_
      refine go (fun _ => XS.goto X2080.here hx rfl (pc0 := 124) (pc' := 128) rfl (hb hby at_124) (by decide) (by decide)) ?_
      show Ends p e below _ T2080 (mkF m 128 #[iv i0, iv i1, iv i2, iv i3, iv (i0 &&& (3 : Int32)), iv (i1 &&& (3 : Int32)), rv a1406, rv a1433, rv a1479, rv a1495, rv a1948] [(.int (1 : Int32)), (.int (1 : Int32))])
      refine go (fun _ => XS.icmpNo X2080.here hx rfl (hb hby at_128) rfl (XT.ii_ne_f ((by decide) : (1 : Int32) = (1 : Int32)))) ?_
      show Ends p e below _ T2080 (mkF m 131 #[iv i0, iv i1, iv i2, iv i3, iv (i0 &&& (3 : Int32)), iv (i1 &&& (3 : Int32)), rv a1406, rv a1433, rv a1479, rv a1495, rv a1948] [])
      refine go (fun _ => XT.iconstV X2080.here hx rfl (1 : Int32) (hb hby at_131) (by decide)) ?_
      refine go (fun _ => XS.goto X2080.here hx rfl (pc0 := 132) (pc' := 136) rfl (hb hby at_132) (by decide) (by decide)) ?_
      show Ends p e below _ T2080 (mkF m 136 #[iv i0, iv i1, iv i2, iv i3, iv (i0 &&& (3 : Int32)), iv (i1 &&& (3 : Int32)), rv a1406, rv a1433, rv a1479, rv a1495, rv a1948] [(.int (1 : Int32))])
      exact endN X2080 hx hret (by simp) (hb hby at_136) (lvW X2080 hlk hZ (own_EW hw) hs0 hS hk H2077 e2080 (fun h => by rw [hret] at h; cases h) ⟨rfl, N2080a⟩ (by decide) (by decide))
  · have N1479a := Fr.app N1473a N1479
    have F2083 := (Exa.keep (Exa.ext E1464 (Exa.ext E1459 (Exa.keep F1446 K1443))) K1473)
    have F2086 := (Exa.keep (Exa.ext E1464 (Exa.ext E1459 E1443)) K1473)
    have C2100 : CHr Z own_EL T1464.vm h1473 T1464.vm h1479 := CHr.keep K1479 sf0 H1474.1
    have hk := Nat.le_trans hk C2100.2.1
    have H2100 := H1474.trans C2100
    have O2101 : Ext Z.heap h1479 := xk O1476 K1479 all0
    show Ends p e below _ T1479 (mkF m 63 #[iv i0, iv i1, iv i2, iv i3, iv (i0 &&& (3 : Int32)), iv (i1 &&& (3 : Int32)), rv a1406, rv a1433, .unset, .unset, .unset] [(.ref a1479)])
    refine go (fun _ => XS.astore X1479.here hx rfl (hb hby at_63) rfl rfl (l' := #[iv i0, iv i1, iv i2, iv i3, iv (i0 &&& (3 : Int32)), iv (i1 &&& (3 : Int32)), rv a1406, rv a1433, rv a1479, .unset, .unset]) rfl) ?_
    refine go (fun _ => XS.aload X1479.here hx rfl (hb hby at_65) rfl rfl) ?_
    refine go (fun _ => XS.aload X1479.here hx rfl (hb hby at_67) rfl rfl) ?_
    refine go (fun _ => XS.iload X1479.here hx rfl (hb hby at_69) rfl) ?_
    show Ends p e below _ T1479 (mkF m 71 #[iv i0, iv i1, iv i2, iv i3, iv (i0 &&& (3 : Int32)), iv (i1 &&& (3 : Int32)), rv a1406, rv a1433, rv a1479, .unset, .unset] [(.int (i0 &&& (3 : Int32))), (.ref a1406), (.ref a1433)])
    have F2102 := (Exa.keep F1478 K1479)
    have F2103 := (Exa.keep F1477 K1479)
    refine cStat X1479 hx hZ hown (by rw [hml]; rfl) e1479 (hwi hw 48 rfl) (hwi hw 49 rfl) (hwi hw 50 rfl) (hwi hw 51 rfl) [(.ref a1433), (.ref a1406), (.int (i0 &&& (3 : Int32)))] [] rfl (rm_listOf hw a1433 a1406 (i0 &&& (3 : Int32)) aD kD _ O2101 SD VD F2102 F2103 (own_q4 i0)) (hb hby at_71) rfl (lenOf pd_38 rfl) (by decide) (by decide) (Nat.le_of_ble_eq_true rfl) (by decide) (by decide) ?_
    rintro v2104 T2104 h2104 L2104 X2104 e2104 (⟨c2104, a2104, rfl, N2104, K2104, ga2104, E2104, F32104⟩ | ⟨c2104, a2104, b2104, k2104, rfl, N2104, K2104, ga2104, gb2104, E2104, F22104, F32104, O2104, V2104⟩ | ⟨c2104, a2104, b2104, k2104, rfl, N2104, K2104, ga2104, gb2104, E2104, F22104, F32104, O2104, V2104⟩ | ⟨c2104, a2104, b2104, k2104, rfl, N2104, K2104, ga2104, gb2104, E2104, F22104, F32104, O2104, V2104⟩)
    · have N2104a := Fr.app N1479a N2104
      have C2118 : CHr Z own_EL T1464.vm h1479 T1464.vm h2104 := CHr.keep K2104 sf0 H2100.1
      have hk := Nat.le_trans hk C2118.2.1
      have H2118 := H2100.trans C2118
      have O2119 : Ext Z.heap h2104 := xk O2101 K2104 all0
      show Ends p e below _ T2104 (mkF m 74 #[iv i0, iv i1, iv i2, iv i3, iv (i0 &&& (3 : Int32)), iv (i1 &&& (3 : Int32)), rv a1406, rv a1433, rv a1479, .unset, .unset] [(.ref a2104)])
      refine go (fun _ => XS.astore X2104.here hx rfl (hb hby at_74) rfl rfl (l' := #[iv i0, iv i1, iv i2, iv i3, iv (i0 &&& (3 : Int32)), iv (i1 &&& (3 : Int32)), rv a1406, rv a1433, rv a1479, rv a2104, .unset]) rfl) ?_
      show Ends p e below _ T2104 (mkF m 76 #[iv i0, iv i1, iv i2, iv i3, iv (i0 &&& (3 : Int32)), iv (i1 &&& (3 : Int32)), rv a1406, rv a1433, rv a1479, rv a2104, .unset] [])
      obtain ⟨T2120, h2120, X2120, e2120, E2120, A2120, D2120, U2120, s2120⟩ := newO X2104 hx hZ hown (hwi hw 107 rfl) (hwi hw 108 rfl) (hwi hw 109 rfl) e2104 (g := (mkF m 76 #[iv i0, iv i1, iv i2, iv i3, iv (i0 &&& (3 : Int32)), iv (i1 &&& (3 : Int32)), rv a1406, rv a1433, rv a1479, rv a2104, .unset] [])) rfl (hb hby at_76) (by decide) (by decide)
      have F2121 := (Exa.keep F2103 K2104)
      have F2123 := (Exa.keep F2102 K2104)
      have F2125 := (Exa.keep E1479 K2104)
      have F2128 := (Arv.keep V1479 K2104 nin0)
      obtain ⟨a2120, g2120⟩ : ∃ z : Addr, z = h2104.size := ⟨_, rfl⟩
      have n2129 : a1406 ≠ a2120 := fun q => absurd (F2121.lt) (by rw [q, g2120]; exact Nat.lt_irrefl _)
      have n2131 : a1433 ≠ a2120 := fun q => absurd (F2123.lt) (by rw [q, g2120]; exact Nat.lt_irrefl _)
      have f2120 : Z.heap.size ≤ a2120 := by rw [g2120]; exact (O2119).1
      rw [← g2120] at A2120 D2120 U2120 s2120
      have C2138 : CHr Z own_EL T1464.vm h2104 T1464.vm h2120 := CHr.ext E2120 H2118.1
      have hk := Nat.le_trans hk C2138.2.1
      have H2138 := H2118.trans C2138
      have O2139 : Ext Z.heap h2120 := xx O2119 E2120
      have SF2120 : Safe Z own_EL T1464.vm h2120 a2120 := Safe.ext E2120 H2118.1 (Safe.new (by rw [g2120]; exact Nat.le_refl _))
      refine go s2120 ?_
      show Ends p e below _ T2120 (mkF m 79 #[iv i0, iv i1, iv i2, iv i3, iv (i0 &&& (3 : Int32)), iv (i1 &&& (3 : Int32)), rv a1406, rv a1433, rv a1479, rv a2104, .unset] [(.ref a2120)])
      refine go (fun _ => XS.dup X2120.here hx rfl (hb hby at_79) rfl rfl) ?_
      refine go (fun _ => XS.iloadN X2120.here hx rfl (hb hby at_80) rfl) ?_
      refine go (fun _ => XT.bipushV X2120.here hx rfl (8 : Int32) (hb hby at_81) (by decide)) ?_
      refine go (fun _ => XT.iushr X2120.here hx rfl (hb hby at_83) rfl) ?_
      refine go (fun _ => XT.sipushV X2120.here hx rfl (255 : Int32) (hb hby at_84) (by decide)) ?_
      refine go (fun _ => XS.iand X2120.here hx rfl (hb hby at_87) rfl) ?_
      show Ends p e below _ T2120 (mkF m 88 #[iv i0, iv i1, iv i2, iv i3, iv (i0 &&& (3 : Int32)), iv (i1 &&& (3 : Int32)), rv a1406, rv a1433, rv a1479, rv a2104, .unset] [(.int ((XT.ushr i2 (8 : Int32)) &&& (255 : Int32))), (.ref a2120), (.ref a2120)])
      refine go (fun _ => XT.i2c X2120.here hx rfl (hb hby at_88) rfl) ?_
      show Ends p e below _ T2120 (mkF m 89 #[iv i0, iv i1, iv i2, iv i3, iv (i0 &&& (3 : Int32)), iv (i1 &&& (3 : Int32)), rv a1406, rv a1433, rv a1479, rv a2104, .unset] [(.int ((XT.ushr i2 (8 : Int32)) &&& (255 : Int32)).toUInt32.toUInt16.toUInt32.toInt32), (.ref a2120), (.ref a2120)])
      obtain ⟨ch2140, hch2140⟩ : ∃ z : Int32, z = ((XT.ushr i2 (8 : Int32)) &&& (255 : Int32)).toUInt32.toUInt16.toUInt32.toInt32 := ⟨_, rfl⟩
      have lc2140 : ¬ (255 : Int32) < ch2140 := by rw [hch2140]; exact (own_ch _).1
      rw [← hch2140]
      show Ends p e below _ T2120 (mkF m 89 #[iv i0, iv i1, iv i2, iv i3, iv (i0 &&& (3 : Int32)), iv (i1 &&& (3 : Int32)), rv a1406, rv a1433, rv a1479, rv a2104, .unset] [(.int ch2140), (.ref a2120), (.ref a2120)])
      refine cStat X2120 hx hZ hown (by rw [hml]; rfl) e2120 (hwi hw 3 rfl) (hwi hw 4 rfl) (hwi hw 5 rfl) (hwi hw 6 rfl) [(.int ch2140)] [(.ref a2120), (.ref a2120)] rfl (rm_cvalueOf hw ch2140 _ O2139 lc2140 cz SCS hcz) (hb hby at_89) rfl (lenOf pd_36 rfl) (by decide) (by decide) (Nat.le_of_ble_eq_true rfl) (by decide) (by decide) ?_
      rintro v2141 T2141 h2141 L2141 X2141 e2141 ⟨a2141, b2141, k2141, rfl, N2141, K2141, ga2141, gb2141, nn2141, E2141, Fv2141, Fc2141, V2141⟩
      have N2141a := Fr.app N2104a N2141
      have F2142 := (Exa.ext E2120 F2121)
      have F2146 := (Exa.ext E2120 F2123)
      have F2150 := (Exa.ext E2120 F2125)
      have F2152 := (Exa.ext E2120 E2104)
      have F2159 := (Arv.ext F2128 E2120)
      have C2173 : CHr Z own_EL T1464.vm h2120 T1464.vm h2141 := CHr.keep K2141 sf0 H2138.1
      have hk := Nat.le_trans hk C2173.2.1
      have H2173 := H2138.trans C2173
      have O2174 : Ext Z.heap h2141 := xk O2139 K2141 all0
      show Ends p e below _ T2141 (mkF m 92 #[iv i0, iv i1, iv i2, iv i3, iv (i0 &&& (3 : Int32)), iv (i1 &&& (3 : Int32)), rv a1406, rv a1433, rv a1479, rv a2104, .unset] [(.ref a2141), (.ref a2120), (.ref a2120)])
      refine go (fun _ => XS.iloadN X2141.here hx rfl (hb hby at_92) rfl) ?_
      refine go (fun _ => XT.bipushV X2141.here hx rfl (8 : Int32) (hb hby at_93) (by decide)) ?_
      refine go (fun _ => XT.iushr X2141.here hx rfl (hb hby at_95) rfl) ?_
      refine go (fun _ => XT.sipushV X2141.here hx rfl (255 : Int32) (hb hby at_96) (by decide)) ?_
      refine go (fun _ => XS.iand X2141.here hx rfl (hb hby at_99) rfl) ?_
      refine go (fun _ => XT.i2c X2141.here hx rfl (hb hby at_100) rfl) ?_
      show Ends p e below _ T2141 (mkF m 101 #[iv i0, iv i1, iv i2, iv i3, iv (i0 &&& (3 : Int32)), iv (i1 &&& (3 : Int32)), rv a1406, rv a1433, rv a1479, rv a2104, .unset] [(.int ((XT.ushr i3 (8 : Int32)) &&& (255 : Int32)).toUInt32.toUInt16.toUInt32.toInt32), (.ref a2141), (.ref a2120), (.ref a2120)])
      obtain ⟨ch2175, hch2175⟩ : ∃ z : Int32, z = ((XT.ushr i3 (8 : Int32)) &&& (255 : Int32)).toUInt32.toUInt16.toUInt32.toInt32 := ⟨_, rfl⟩
      have lc2175 : ¬ (255 : Int32) < ch2175 := by rw [hch2175]; exact (own_ch _).1
      rw [← hch2175]
      show Ends p e below _ T2141 (mkF m 101 #[iv i0, iv i1, iv i2, iv i3, iv (i0 &&& (3 : Int32)), iv (i1 &&& (3 : Int32)), rv a1406, rv a1433, rv a1479, rv a2104, .unset] [(.int ch2175), (.ref a2141), (.ref a2120), (.ref a2120)])
      refine cStat X2141 hx hZ hown (by rw [hml]; rfl) e2141 (hwi hw 3 rfl) (hwi hw 4 rfl) (hwi hw 5 rfl) (hwi hw 6 rfl) [(.int ch2175)] [(.ref a2141), (.ref a2120), (.ref a2120)] rfl (rm_cvalueOf hw ch2175 _ O2174 lc2175 cz SCS hcz) (hb hby at_101) rfl (lenOf pd_36 rfl) (by decide) (by decide) (Nat.le_of_ble_eq_true rfl) (by decide) (by decide) ?_
      rintro v2176 T2176 h2176 L2176 X2176 e2176 ⟨a2176, b2176, k2176, rfl, N2176, K2176, ga2176, gb2176, nn2176, E2176, Fv2176, Fc2176, V2176⟩
      have N2176a := Fr.app N2141a N2176
      have F2177 := (Exa.keep F2142 K2141)
      have F2181 := (Exa.keep F2146 K2141)
      have F2185 := (Exa.keep F2150 K2141)
      have F2187 := (Exa.keep F2152 K2141)
      have F2189 := (Exa.keep A2120 K2141)
      have F2196 := (Arv.keep F2159 K2141 nin0)
      have C2213 : CHr Z own_EL T1464.vm h2141 T1464.vm h2176 := CHr.keep K2176 sf0 H2173.1
      have hk := Nat.le_trans hk C2213.2.1
      have H2213 := H2173.trans C2213
      have O2214 : Ext Z.heap h2176 := xk O2174 K2176 all0
      show Ends p e below _ T2176 (mkF m 104 #[iv i0, iv i1, iv i2, iv i3, iv (i0 &&& (3 : Int32)), iv (i1 &&& (3 : Int32)), rv a1406, rv a1433, rv a1479, rv a2104, .unset] [(.ref a2176), (.ref a2141), (.ref a2120), (.ref a2120)])
      refine go (fun _ => XS.aload X2176.here hx rfl (hb hby at_104) rfl rfl) ?_
      refine go (fun _ => XS.aload X2176.here hx rfl (hb hby at_106) rfl rfl) ?_
      show Ends p e below _ T2176 (mkF m 108 #[iv i0, iv i1, iv i2, iv i3, iv (i0 &&& (3 : Int32)), iv (i1 &&& (3 : Int32)), rv a1406, rv a1433, rv a1479, rv a2104, .unset] [(.ref a2104), (.ref a1479), (.ref a2176), (.ref a2141), (.ref a2120), (.ref a2120)])
      have F2215 := (Exa.keep F2185 K2176)
      have F2216 := (Fld.keep (Fld.keep (Fld.ext E2120 (Fld.keep F21479 K2104 nin0)) K2141 nin0) K2176 nin0)
      have F2217 := (Fld.keep (Fld.keep (Fld.ext E2120 (Fld.keep F31479 K2104 nin0)) K2141 nin0) K2176 nin0)
      have F2218 := (Arv.keep F2196 K2176 nin0)
      have F2219 := (Exa.keep F2187 K2176)
      have F2220 := (Fld.keep (Fld.keep (Fld.ext E2120 F32104) K2141 nin0) K2176 nin0)
      have F2221 := (Exa.keep F2189 K2176)
      have F2222 := (Fld.keep (Fld.keep (D2120 (Or.inr (hwi hw 207 rfl)) (ty := (.object "java/lang/String")) (by decide)) K2141 nin0) K2176 nin0)
      have F2223 := (Fld.keep (Fld.keep (D2120 (Or.inr (hwi hw 209 rfl)) (ty := (.object "java/lang/String")) (by decide)) K2141 nin0) K2176 nin0)
      have F2224 := (Fld.keep (Fld.keep (D2120 (Or.inr (hwi hw 211 rfl)) (ty := (.object "java/util/List")) (by decide)) K2141 nin0) K2176 nin0)
      have F2225 := (Fld.keep (Fld.keep (D2120 (Or.inr (hwi hw 213 rfl)) (ty := (.object "java/util/List")) (by decide)) K2141 nin0) K2176 nin0)
      have F2226 := (Exa.keep F2177 K2176)
      have F2227 := (Exa.keep F2181 K2176)
      refine cInit X2176 hx hZ hown (by rw [hml]; rfl) e2176 (hwi hw 110 rfl) (hwi hw 111 rfl) (hwi hw 109 rfl) (hwi hw 112 rfl) a2120 [(.ref a2141), (.ref a2176), (.ref a1479), (.ref a2104)] [(.ref a2120)] rfl (rm_tab_1_0 hw a2120 a2141 a2176 a1479 a2104 a1406 a1433 b1479 k1479 mr aL aN aE kN _ O2214 f2120 F2221 F2222 F2223 F2224 F2225 MM SL XL FL VN SE F2226 F2227 F2215 F2216 F2217 O1479 F2218 F2219 F2220 (Ne.symm n2129) (Ne.symm n2131)) (hb hby at_108) rfl (lenOf pd_39 rfl) rfl (by decide) (by decide) (Nat.le_of_ble_eq_true rfl) (by decide) (by decide) ?_
      rintro v2228 T2228 h2228 L2228 X2228 e2228 ⟨rfl, N2228, K2228, F2228⟩
      have N2228a := Fr.app N2176a N2228
      have F2230 := (Safe.keep K2176 sf0 H2173.1 (Safe.keep K2141 sf0 H2138.1 SF2120))
      have sf2229 : ∀ x ∈ [a2120], Safe Z own_EL T1464.vm h2176 x := (sfS F2230 sf0)
      have C2229 : CHr Z own_EL T1464.vm h2176 T1464.vm h2228 := CHr.keep K2228 sf2229 H2213.1
      have hk := Nat.le_trans hk C2229.2.1
      have H2229 := H2213.trans C2229
      have O2231 : Ext Z.heap h2228 := xk O2214 K2228 (allS f2120 all0)
      show Ends p e below _ T2228 (mkF m 111 #[iv i0, iv i1, iv i2, iv i3, iv (i0 &&& (3 : Int32)), iv (i1 &&& (3 : Int32)), rv a1406, rv a1433, rv a1479, rv a2104, .unset] [(.ref a2120)])
      refine go (fun _ => XS.astore X2228.here hx rfl (hb hby at_111) rfl rfl (l' := #[iv i0, iv i1, iv i2, iv i3, iv (i0 &&& (3 : Int32)), iv (i1 &&& (3 : Int32)), rv a1406, rv a1433, rv a1479, rv a2104, rv a2120]) rfl) ?_
      refine go (fun _ => XS.aload X2228.here hx rfl (hb hby at_113) rfl rfl) ?_
      show Ends p e below _ T2228 (mkF m 115 #[iv i0, iv i1, iv i2, iv i3, iv (i0 &&& (3 : Int32)), iv (i1 &&& (3 : Int32)), rv a1406, rv a1433, rv a1479, rv a2104, rv a2120] [(.ref a2120)])
      have F2233 := (Exa.keep F2221 K2228)
      refine cVirt X2228 hx hZ hown (by rw [hml]; rfl) e2228 (hwi hw 214 rfl) (hwi hw 215 rfl) (hwi hw 217 rfl) (hwi hw 216 rfl) (hwi hw 109 rfl) (hwi hw 218 rfl) (notFace_of_selects (args := #[]) (mvT hZ (hwi hw 217 rfl))) a2120 F2233 [] [] rfl (rm_hp_0 hw a2120 aL aN kN _ _ F2228 (Exa.ext O2231 XL) (Fld.ext O2231 FL) (Arv.ext VN O2231)) (hb hby at_115) rfl (lenOf pd_23 rfl) (by decide) (by decide) (Nat.le_of_ble_eq_true rfl) (by decide) (by decide) ?_
      rintro v2232 T2232 h2232 L2232 X2232 e2232 ⟨rfl, N2232, rfl⟩
      have N2232a := Fr.app N2228a N2232
      show Ends p e below _ T2232 (mkF m 118 #[iv i0, iv i1, iv i2, iv i3, iv (i0 &&& (3 : Int32)), iv (i1 &&& (3 : Int32)), rv a1406, rv a1433, rv a1479, rv a2104, rv a2120] [(.int (0 : Int32))])
      refine go (fun _ => XS.iload X2232.here hx rfl (hb hby at_118) rfl) ?_
      show Ends p e below _ T2232 (mkF m 120 #[iv i0, iv i1, iv i2, iv i3, iv (i0 &&& (3 : Int32)), iv (i1 &&& (3 : Int32)), rv a1406, rv a1433, rv a1479, rv a2104, rv a2120] [(.int (i0 &&& (3 : Int32))), (.int (0 : Int32))])
      refine go (fun _ => XS.ifYes X2232.here hx rfl (pc0 := 120) (pc' := 127) rfl (hb hby at_120) rfl (XT.i0_eq_t c2104) (by decide) (by decide)) ?_
      show Ends p e below _ T2232 (mkF m 127 #[iv i0, iv i1, iv i2, iv i3, iv (i0 &&& (3 : Int32)), iv (i1 &&& (3 : Int32)), rv a1406, rv a1433, rv a1479, rv a2104, rv a2120] [(.int (0 : Int32))])
      refine go (fun _ => XT.iconstV X2232.here hx rfl (0 : Int32) (hb hby at_127) (by decide)) ?_
      show Ends p e below _ T2232 (mkF m 128 #[iv i0, iv i1, iv i2, iv i3, iv (i0 &&& (3 : Int32)), iv (i1 &&& (3 : Int32)), rv a1406, rv a1433, rv a1479, rv a2104, rv a2120] [(.int (0 : Int32)), (.int (0 : Int32))])
      refine go (fun _ => XS.icmpNo X2232.here hx rfl (hb hby at_128) rfl (XT.ii_ne_f ((by decide) : (0 : Int32) = (0 : Int32)))) ?_
      show Ends p e below _ T2232 (mkF m 131 #[iv i0, iv i1, iv i2, iv i3, iv (i0 &&& (3 : Int32)), iv (i1 &&& (3 : Int32)), rv a1406, rv a1433, rv a1479, rv a2104, rv a2120] [])
      refine go (fun _ => XT.iconstV X2232.here hx rfl (1 : Int32) (hb hby at_131) (by decide)) ?_
      refine go (fun _ => XS.goto X2232.here hx rfl (pc0 := 132) (pc' := 136) rfl (hb hby at_132) (by decide) (by decide)) ?_
      show Ends p e below _ T2232 (mkF m 136 #[iv i0, iv i1, iv i2, iv i3, iv (i0 &&& (3 : Int32)), iv (i1 &&& (3 : Int32)), rv a1406, rv a1433, rv a1479, rv a2104, rv a2120] [(.int (1 : Int32))])
      exact endN X2232 hx hret (by simp) (hb hby at_136) (lvW X2232 hlk hZ (own_EW hw) hs0 hS hk H2229 e2232 (fun h => by rw [hret] at h; cases h) ⟨rfl, N2232a⟩ (by decide) (by decide))
    · have N2104a := Fr.app N1479a N2104
      have C2256 : CHr Z own_EL T1464.vm h1479 T1464.vm h2104 := CHr.keep K2104 sf0 H2100.1
      have hk := Nat.le_trans hk C2256.2.1
      have H2256 := H2100.trans C2256
      have O2257 : Ext Z.heap h2104 := xk O2101 K2104 all0
      show Ends p e below _ T2104 (mkF m 74 #[iv i0, iv i1, iv i2, iv i3, iv (i0 &&& (3 : Int32)), iv (i1 &&& (3 : Int32)), rv a1406, rv a1433, rv a1479, .unset, .unset] [(.ref a2104)])
      refine go (fun _ => XS.astore X2104.here hx rfl (hb hby at_74) rfl rfl (l' := #[iv i0, iv i1, iv i2, iv i3, iv (i0 &&& (3 : Int32)), iv (i1 &&& (3 : Int32)), rv a1406, rv a1433, rv a1479, rv a2104, .unset]) rfl) ?_
      show Ends p e below _ T2104 (mkF m 76 #[iv i0, iv i1, iv i2, iv i3, iv (i0 &&& (3 : Int32)), iv (i1 &&& (3 : Int32)), rv a1406, rv a1433, rv a1479, rv a2104, .unset] [])
      obtain ⟨T2258, h2258, X2258, e2258, E2258, A2258, D2258, U2258, s2258⟩ := newO X2104 hx hZ hown (hwi hw 107 rfl) (hwi hw 108 rfl) (hwi hw 109 rfl) e2104 (g := (mkF m 76 #[iv i0, iv i1, iv i2, iv i3, iv (i0 &&& (3 : Int32)), iv (i1 &&& (3 : Int32)), rv a1406, rv a1433, rv a1479, rv a2104, .unset] [])) rfl (hb hby at_76) (by decide) (by decide)
      have F2259 := (Exa.keep F2103 K2104)
      have F2261 := (Exa.keep F2102 K2104)
      have F2263 := (Exa.keep E1479 K2104)
      have F2266 := (Arv.keep V1479 K2104 nin0)
      obtain ⟨a2258, g2258⟩ : ∃ z : Addr, z = h2104.size := ⟨_, rfl⟩
      have n2267 : a1406 ≠ a2258 := fun q => absurd (F2259.lt) (by rw [q, g2258]; exact Nat.lt_irrefl _)
      have n2269 : a1433 ≠ a2258 := fun q => absurd (F2261.lt) (by rw [q, g2258]; exact Nat.lt_irrefl _)
      have f2258 : Z.heap.size ≤ a2258 := by rw [g2258]; exact (O2257).1
      rw [← g2258] at A2258 D2258 U2258 s2258
      have C2277 : CHr Z own_EL T1464.vm h2104 T1464.vm h2258 := CHr.ext E2258 H2256.1
      have hk := Nat.le_trans hk C2277.2.1
      have H2277 := H2256.trans C2277
      have O2278 : Ext Z.heap h2258 := xx O2257 E2258
      have SF2258 : Safe Z own_EL T1464.vm h2258 a2258 := Safe.ext E2258 H2256.1 (Safe.new (by rw [g2258]; exact Nat.le_refl _))
      refine go s2258 ?_
      show Ends p e below _ T2258 (mkF m 79 #[iv i0, iv i1, iv i2, iv i3, iv (i0 &&& (3 : Int32)), iv (i1 &&& (3 : Int32)), rv a1406, rv a1433, rv a1479, rv a2104, .unset] [(.ref a2258)])
      refine go (fun _ => XS.dup X2258.here hx rfl (hb hby at_79) rfl rfl) ?_
      refine go (fun _ => XS.iloadN X2258.here hx rfl (hb hby at_80) rfl) ?_
      refine go (fun _ => XT.bipushV X2258.here hx rfl (8 : Int32) (hb hby at_81) (by decide)) ?_
      refine go (fun _ => XT.iushr X2258.here hx rfl (hb hby at_83) rfl) ?_
      refine go (fun _ => XT.sipushV X2258.here hx rfl (255 : Int32) (hb hby at_84) (by decide)) ?_
      refine go (fun _ => XS.iand X2258.here hx rfl (hb hby at_87) rfl) ?_
      show Ends p e below _ T2258 (mkF m 88 #[iv i0, iv i1, iv i2, iv i3, iv (i0 &&& (3 : Int32)), iv (i1 &&& (3 : Int32)), rv a1406, rv a1433, rv a1479, rv a2104, .unset] [(.int ((XT.ushr i2 (8 : Int32)) &&& (255 : Int32))), (.ref a2258), (.ref a2258)])
      refine go (fun _ => XT.i2c X2258.here hx rfl (hb hby at_88) rfl) ?_
      show Ends p e below _ T2258 (mkF m 89 #[iv i0, iv i1, iv i2, iv i3, iv (i0 &&& (3 : Int32)), iv (i1 &&& (3 : Int32)), rv a1406, rv a1433, rv a1479, rv a2104, .unset] [(.int ((XT.ushr i2 (8 : Int32)) &&& (255 : Int32)).toUInt32.toUInt16.toUInt32.toInt32), (.ref a2258), (.ref a2258)])
      obtain ⟨ch2279, hch2279⟩ : ∃ z : Int32, z = ((XT.ushr i2 (8 : Int32)) &&& (255 : Int32)).toUInt32.toUInt16.toUInt32.toInt32 := ⟨_, rfl⟩
      have lc2279 : ¬ (255 : Int32) < ch2279 := by rw [hch2279]; exact (own_ch _).1
      rw [← hch2279]
      show Ends p e below _ T2258 (mkF m 89 #[iv i0, iv i1, iv i2, iv i3, iv (i0 &&& (3 : Int32)), iv (i1 &&& (3 : Int32)), rv a1406, rv a1433, rv a1479, rv a2104, .unset] [(.int ch2279), (.ref a2258), (.ref a2258)])
      refine cStat X2258 hx hZ hown (by rw [hml]; rfl) e2258 (hwi hw 3 rfl) (hwi hw 4 rfl) (hwi hw 5 rfl) (hwi hw 6 rfl) [(.int ch2279)] [(.ref a2258), (.ref a2258)] rfl (rm_cvalueOf hw ch2279 _ O2278 lc2279 cz SCS hcz) (hb hby at_89) rfl (lenOf pd_36 rfl) (by decide) (by decide) (Nat.le_of_ble_eq_true rfl) (by decide) (by decide) ?_
      rintro v2280 T2280 h2280 L2280 X2280 e2280 ⟨a2280, b2280, k2280, rfl, N2280, K2280, ga2280, gb2280, nn2280, E2280, Fv2280, Fc2280, V2280⟩
      have N2280a := Fr.app N2104a N2280
      have F2281 := (Exa.ext E2258 F2259)
      have F2285 := (Exa.ext E2258 F2261)
      have F2289 := (Exa.ext E2258 F2263)
      have F2291 := (Exa.ext E2258 E2104)
      have F2298 := (Arv.ext F2266 E2258)
      have F2300 := (Arv.ext V2104 E2258)
      have C2315 : CHr Z own_EL T1464.vm h2258 T1464.vm h2280 := CHr.keep K2280 sf0 H2277.1
      have hk := Nat.le_trans hk C2315.2.1
      have H2315 := H2277.trans C2315
      have O2316 : Ext Z.heap h2280 := xk O2278 K2280 all0
      show Ends p e below _ T2280 (mkF m 92 #[iv i0, iv i1, iv i2, iv i3, iv (i0 &&& (3 : Int32)), iv (i1 &&& (3 : Int32)), rv a1406, rv a1433, rv a1479, rv a2104, .unset] [(.ref a2280), (.ref a2258), (.ref a2258)])
      refine go (fun _ => XS.iloadN X2280.here hx rfl (hb hby at_92) rfl) ?_
      refine go (fun _ => XT.bipushV X2280.here hx rfl (8 : Int32) (hb hby at_93) (by decide)) ?_
      refine go (fun _ => XT.iushr X2280.here hx rfl (hb hby at_95) rfl) ?_
      refine go (fun _ => XT.sipushV X2280.here hx rfl (255 : Int32) (hb hby at_96) (by decide)) ?_
      refine go (fun _ => XS.iand X2280.here hx rfl (hb hby at_99) rfl) ?_
      refine go (fun _ => XT.i2c X2280.here hx rfl (hb hby at_100) rfl) ?_
      show Ends p e below _ T2280 (mkF m 101 #[iv i0, iv i1, iv i2, iv i3, iv (i0 &&& (3 : Int32)), iv (i1 &&& (3 : Int32)), rv a1406, rv a1433, rv a1479, rv a2104, .unset] [(.int ((XT.ushr i3 (8 : Int32)) &&& (255 : Int32)).toUInt32.toUInt16.toUInt32.toInt32), (.ref a2280), (.ref a2258), (.ref a2258)])
      obtain ⟨ch2317, hch2317⟩ : ∃ z : Int32, z = ((XT.ushr i3 (8 : Int32)) &&& (255 : Int32)).toUInt32.toUInt16.toUInt32.toInt32 := ⟨_, rfl⟩
      have lc2317 : ¬ (255 : Int32) < ch2317 := by rw [hch2317]; exact (own_ch _).1
      rw [← hch2317]
      show Ends p e below _ T2280 (mkF m 101 #[iv i0, iv i1, iv i2, iv i3, iv (i0 &&& (3 : Int32)), iv (i1 &&& (3 : Int32)), rv a1406, rv a1433, rv a1479, rv a2104, .unset] [(.int ch2317), (.ref a2280), (.ref a2258), (.ref a2258)])
      refine cStat X2280 hx hZ hown (by rw [hml]; rfl) e2280 (hwi hw 3 rfl) (hwi hw 4 rfl) (hwi hw 5 rfl) (hwi hw 6 rfl) [(.int ch2317)] [(.ref a2280), (.ref a2258), (.ref a2258)] rfl (rm_cvalueOf hw ch2317 _ O2316 lc2317 cz SCS hcz) (hb hby at_101) rfl (lenOf pd_36 rfl) (by decide) (by decide) (Nat.le_of_ble_eq_true rfl) (by decide) (by decide) ?_
      rintro v2318 T2318 h2318 L2318 X2318 e2318 ⟨a2318, b2318, k2318, rfl, N2318, K2318, ga2318, gb2318, nn2318, E2318, Fv2318, Fc2318, V2318⟩
      have N2318a := Fr.app N2280a N2318
      have F2319 := (Exa.keep F2281 K2280)
      have F2323 := (Exa.keep F2285 K2280)
      have F2327 := (Exa.keep F2289 K2280)
      have F2329 := (Exa.keep F2291 K2280)
      have F2331 := (Exa.keep A2258 K2280)
      have F2338 := (Arv.keep F2298 K2280 nin0)
      have F2340 := (Arv.keep F2300 K2280 nin0)
      have C2358 : CHr Z own_EL T1464.vm h2280 T1464.vm h2318 := CHr.keep K2318 sf0 H2315.1
      have hk := Nat.le_trans hk C2358.2.1
      have H2358 := H2315.trans C2358
      have O2359 : Ext Z.heap h2318 := xk O2316 K2318 all0
      show Ends p e below _ T2318 (mkF m 104 #[iv i0, iv i1, iv i2, iv i3, iv (i0 &&& (3 : Int32)), iv (i1 &&& (3 : Int32)), rv a1406, rv a1433, rv a1479, rv a2104, .unset] [(.ref a2318), (.ref a2280), (.ref a2258), (.ref a2258)])
      refine go (fun _ => XS.aload X2318.here hx rfl (hb hby at_104) rfl rfl) ?_
      refine go (fun _ => XS.aload X2318.here hx rfl (hb hby at_106) rfl rfl) ?_
      show Ends p e below _ T2318 (mkF m 108 #[iv i0, iv i1, iv i2, iv i3, iv (i0 &&& (3 : Int32)), iv (i1 &&& (3 : Int32)), rv a1406, rv a1433, rv a1479, rv a2104, .unset] [(.ref a2104), (.ref a1479), (.ref a2318), (.ref a2280), (.ref a2258), (.ref a2258)])
      have F2360 := (Exa.keep F2327 K2318)
      have F2361 := (Fld.keep (Fld.keep (Fld.ext E2258 (Fld.keep F21479 K2104 nin0)) K2280 nin0) K2318 nin0)
      have F2362 := (Fld.keep (Fld.keep (Fld.ext E2258 (Fld.keep F31479 K2104 nin0)) K2280 nin0) K2318 nin0)
      have F2363 := (Arv.keep F2338 K2318 nin0)
      have F2364 := (Exa.keep F2329 K2318)
      have F2365 := (Fld.keep (Fld.keep (Fld.ext E2258 F22104) K2280 nin0) K2318 nin0)
      have F2366 := (Fld.keep (Fld.keep (Fld.ext E2258 F32104) K2280 nin0) K2318 nin0)
      have F2367 := (Arv.keep F2340 K2318 nin0)
      have F2368 := (Exa.keep F2331 K2318)
      have F2369 := (Fld.keep (Fld.keep (D2258 (Or.inr (hwi hw 207 rfl)) (ty := (.object "java/lang/String")) (by decide)) K2280 nin0) K2318 nin0)
      have F2370 := (Fld.keep (Fld.keep (D2258 (Or.inr (hwi hw 209 rfl)) (ty := (.object "java/lang/String")) (by decide)) K2280 nin0) K2318 nin0)
      have F2371 := (Fld.keep (Fld.keep (D2258 (Or.inr (hwi hw 211 rfl)) (ty := (.object "java/util/List")) (by decide)) K2280 nin0) K2318 nin0)
      have F2372 := (Fld.keep (Fld.keep (D2258 (Or.inr (hwi hw 213 rfl)) (ty := (.object "java/util/List")) (by decide)) K2280 nin0) K2318 nin0)
      have F2373 := (Exa.keep F2319 K2318)
      have F2374 := (Exa.keep F2323 K2318)
      refine cInit X2318 hx hZ hown (by rw [hml]; rfl) e2318 (hwi hw 110 rfl) (hwi hw 111 rfl) (hwi hw 109 rfl) (hwi hw 112 rfl) a2258 [(.ref a2280), (.ref a2318), (.ref a1479), (.ref a2104)] [(.ref a2258)] rfl (rm_tab_1_1 hw a2258 a2280 a2318 a1479 a2104 a1406 a1433 b1479 k1479 b2104 k2104 mr aL aN aE kN _ O2359 f2258 F2368 F2369 F2370 F2371 F2372 MM SL XL FL VN SE F2373 F2374 F2360 F2361 F2362 O1479 F2363 F2364 F2365 F2366 O2104 F2367 (Ne.symm n2267) (Ne.symm n2269)) (hb hby at_108) rfl (lenOf pd_39 rfl) rfl (by decide) (by decide) (Nat.le_of_ble_eq_true rfl) (by decide) (by decide) ?_
      rintro v2375 T2375 h2375 L2375 X2375 e2375 ⟨o2375, rfl, N2375, K2375, g2375, F2375, E2375⟩
      have N2375a := Fr.app N2318a N2375
      have F2399 := (Safe.keep K2318 sf0 H2315.1 (Safe.keep K2280 sf0 H2277.1 SF2258))
      have sf2398 : ∀ x ∈ [a2258], Safe Z own_EL T1464.vm h2318 x := (sfS F2399 sf0)
      have C2398 : CHr Z own_EL T1464.vm h2318 T1464.vm h2375 := CHr.keep K2375 sf2398 H2358.1
      have hk := Nat.le_trans hk C2398.2.1
      have H2398 := H2358.trans C2398
      show Ends p e below _ T2375 (mkF m 111 #[iv i0, iv i1, iv i2, iv i3, iv (i0 &&& (3 : Int32)), iv (i1 &&& (3 : Int32)), rv a1406, rv a1433, rv a1479, rv a2104, .unset] [(.ref a2258)])
      refine go (fun _ => XS.astore X2375.here hx rfl (hb hby at_111) rfl rfl (l' := #[iv i0, iv i1, iv i2, iv i3, iv (i0 &&& (3 : Int32)), iv (i1 &&& (3 : Int32)), rv a1406, rv a1433, rv a1479, rv a2104, rv a2258]) rfl) ?_
      refine go (fun _ => XS.aload X2375.here hx rfl (hb hby at_113) rfl rfl) ?_
      show Ends p e below _ T2375 (mkF m 115 #[iv i0, iv i1, iv i2, iv i3, iv (i0 &&& (3 : Int32)), iv (i1 &&& (3 : Int32)), rv a1406, rv a1433, rv a1479, rv a2104, rv a2258] [(.ref a2258)])
      have F2402 := (Exa.keep F2368 K2375)
      refine cVirt X2375 hx hZ hown (by rw [hml]; rfl) e2375 (hwi hw 214 rfl) (hwi hw 215 rfl) (hwi hw 217 rfl) (hwi hw 216 rfl) (hwi hw 109 rfl) (hwi hw 218 rfl) (notFace_of_selects (args := #[]) (mvT hZ (hwi hw 217 rfl))) a2258 F2402 [] [] rfl (rm_hp_1 hw a2258 o2375 _ F2375 E2375) (hb hby at_115) rfl (lenOf pd_23 rfl) (by decide) (by decide) (Nat.le_of_ble_eq_true rfl) (by decide) (by decide) ?_
      rintro v2401 T2401 h2401 L2401 X2401 e2401 ⟨rfl, N2401, rfl⟩
      have N2401a := Fr.app N2375a N2401
      show Ends p e below _ T2401 (mkF m 118 #[iv i0, iv i1, iv i2, iv i3, iv (i0 &&& (3 : Int32)), iv (i1 &&& (3 : Int32)), rv a1406, rv a1433, rv a1479, rv a2104, rv a2258] [(.int (1 : Int32))])
      refine go (fun _ => XS.iload X2401.here hx rfl (hb hby at_118) rfl) ?_
      show Ends p e below _ T2401 (mkF m 120 #[iv i0, iv i1, iv i2, iv i3, iv (i0 &&& (3 : Int32)), iv (i1 &&& (3 : Int32)), rv a1406, rv a1433, rv a1479, rv a2104, rv a2258] [(.int (i0 &&& (3 : Int32))), (.int (1 : Int32))])
      refine go (fun _ => XS.ifNo X2401.here hx rfl (hb hby at_120) rfl (XT.i0_eq_f ((by rw [c2104]; decide) : ¬ ((i0 &&& (3 : Int32)) = (0 : Int32))))) ?_
      show Ends p e below _ T2401 (mkF m 123 #[iv i0, iv i1, iv i2, iv i3, iv (i0 &&& (3 : Int32)), iv (i1 &&& (3 : Int32)), rv a1406, rv a1433, rv a1479, rv a2104, rv a2258] [(.int (1 : Int32))])
      refine go (fun _ => XT.iconstV X2401.here hx rfl (1 : Int32) (hb hby at_123) (by decide)) ?_
      refine go (fun _ => XS.goto X2401.here hx rfl (pc0 := 124) (pc' := 128) rfl (hb hby at_124) (by decide) (by decide)) ?_
      show Ends p e below _ T2401 (mkF m 128 #[iv i0, iv i1, iv i2, iv i3, iv (i0 &&& (3 : Int32)), iv (i1 &&& (3 : Int32)), rv a1406, rv a1433, rv a1479, rv a2104, rv a2258] [(.int (1 : Int32)), (.int (1 : Int32))])
      refine go (fun _ => XS.icmpNo X2401.here hx rfl (hb hby at_128) rfl (XT.ii_ne_f ((by decide) : (1 : Int32) = (1 : Int32)))) ?_
      show Ends p e below _ T2401 (mkF m 131 #[iv i0, iv i1, iv i2, iv i3, iv (i0 &&& (3 : Int32)), iv (i1 &&& (3 : Int32)), rv a1406, rv a1433, rv a1479, rv a2104, rv a2258] [])
      refine go (fun _ => XT.iconstV X2401.here hx rfl (1 : Int32) (hb hby at_131) (by decide)) ?_
      refine go (fun _ => XS.goto X2401.here hx rfl (pc0 := 132) (pc' := 136) rfl (hb hby at_132) (by decide) (by decide)) ?_
      show Ends p e below _ T2401 (mkF m 136 #[iv i0, iv i1, iv i2, iv i3, iv (i0 &&& (3 : Int32)), iv (i1 &&& (3 : Int32)), rv a1406, rv a1433, rv a1479, rv a2104, rv a2258] [(.int (1 : Int32))])
      exact endN X2401 hx hret (by simp) (hb hby at_136) (lvW X2401 hlk hZ (own_EW hw) hs0 hS hk H2398 e2401 (fun h => by rw [hret] at h; cases h) ⟨rfl, N2401a⟩ (by decide) (by decide))
    · have N2104a := Fr.app N1479a N2104
      have C2425 : CHr Z own_EL T1464.vm h1479 T1464.vm h2104 := CHr.keep K2104 sf0 H2100.1
      have hk := Nat.le_trans hk C2425.2.1
      have H2425 := H2100.trans C2425
      have O2426 : Ext Z.heap h2104 := xk O2101 K2104 all0
      show Ends p e below _ T2104 (mkF m 74 #[iv i0, iv i1, iv i2, iv i3, iv (i0 &&& (3 : Int32)), iv (i1 &&& (3 : Int32)), rv a1406, rv a1433, rv a1479, .unset, .unset] [(.ref a2104)])
      refine go (fun _ => XS.astore X2104.here hx rfl (hb hby at_74) rfl rfl (l' := #[iv i0, iv i1, iv i2, iv i3, iv (i0 &&& (3 : Int32)), iv (i1 &&& (3 : Int32)), rv a1406, rv a1433, rv a1479, rv a2104, .unset]) rfl) ?_
      show Ends p e below _ T2104 (mkF m 76 #[iv i0, iv i1, iv i2, iv i3, iv (i0 &&& (3 : Int32)), iv (i1 &&& (3 : Int32)), rv a1406, rv a1433, rv a1479, rv a2104, .unset] [])
      obtain ⟨T2427, h2427, X2427, e2427, E2427, A2427, D2427, U2427, s2427⟩ := newO X2104 hx hZ hown (hwi hw 107 rfl) (hwi hw 108 rfl) (hwi hw 109 rfl) e2104 (g := (mkF m 76 #[iv i0, iv i1, iv i2, iv i3, iv (i0 &&& (3 : Int32)), iv (i1 &&& (3 : Int32)), rv a1406, rv a1433, rv a1479, rv a2104, .unset] [])) rfl (hb hby at_76) (by decide) (by decide)
      have F2428 := (Exa.keep F2103 K2104)
      have F2430 := (Exa.keep F2102 K2104)
      have F2432 := (Exa.keep E1479 K2104)
      have F2435 := (Arv.keep V1479 K2104 nin0)
      obtain ⟨a2427, g2427⟩ : ∃ z : Addr, z = h2104.size := ⟨_, rfl⟩
      have n2436 : a1406 ≠ a2427 := fun q => absurd (F2428.lt) (by rw [q, g2427]; exact Nat.lt_irrefl _)
      have n2438 : a1433 ≠ a2427 := fun q => absurd (F2430.lt) (by rw [q, g2427]; exact Nat.lt_irrefl _)
      have f2427 : Z.heap.size ≤ a2427 := by rw [g2427]; exact (O2426).1
      rw [← g2427] at A2427 D2427 U2427 s2427
      have C2446 : CHr Z own_EL T1464.vm h2104 T1464.vm h2427 := CHr.ext E2427 H2425.1
      have hk := Nat.le_trans hk C2446.2.1
      have H2446 := H2425.trans C2446
      have O2447 : Ext Z.heap h2427 := xx O2426 E2427
      have SF2427 : Safe Z own_EL T1464.vm h2427 a2427 := Safe.ext E2427 H2425.1 (Safe.new (by rw [g2427]; exact Nat.le_refl _))
      refine go s2427 ?_
      show Ends p e below _ T2427 (mkF m 79 #[iv i0, iv i1, iv i2, iv i3, iv (i0 &&& (3 : Int32)), iv (i1 &&& (3 : Int32)), rv a1406, rv a1433, rv a1479, rv a2104, .unset] [(.ref a2427)])
      refine go (fun _ => XS.dup X2427.here hx rfl (hb hby at_79) rfl rfl) ?_
      refine go (fun _ => XS.iloadN X2427.here hx rfl (hb hby at_80) rfl) ?_
      refine go (fun _ => XT.bipushV X2427.here hx rfl (8 : Int32) (hb hby at_81) (by decide)) ?_
      refine go (fun _ => XT.iushr X2427.here hx rfl (hb hby at_83) rfl) ?_
      refine go (fun _ => XT.sipushV X2427.here hx rfl (255 : Int32) (hb hby at_84) (by decide)) ?_
      refine go (fun _ => XS.iand X2427.here hx rfl (hb hby at_87) rfl) ?_
      show Ends p e below _ T2427 (mkF m 88 #[iv i0, iv i1, iv i2, iv i3, iv (i0 &&& (3 : Int32)), iv (i1 &&& (3 : Int32)), rv a1406, rv a1433, rv a1479, rv a2104, .unset] [(.int ((XT.ushr i2 (8 : Int32)) &&& (255 : Int32))), (.ref a2427), (.ref a2427)])
      refine go (fun _ => XT.i2c X2427.here hx rfl (hb hby at_88) rfl) ?_
      show Ends p e below _ T2427 (mkF m 89 #[iv i0, iv i1, iv i2, iv i3, iv (i0 &&& (3 : Int32)), iv (i1 &&& (3 : Int32)), rv a1406, rv a1433, rv a1479, rv a2104, .unset] [(.int ((XT.ushr i2 (8 : Int32)) &&& (255 : Int32)).toUInt32.toUInt16.toUInt32.toInt32), (.ref a2427), (.ref a2427)])
      obtain ⟨ch2448, hch2448⟩ : ∃ z : Int32, z = ((XT.ushr i2 (8 : Int32)) &&& (255 : Int32)).toUInt32.toUInt16.toUInt32.toInt32 := ⟨_, rfl⟩
      have lc2448 : ¬ (255 : Int32) < ch2448 := by rw [hch2448]; exact (own_ch _).1
      rw [← hch2448]
      show Ends p e below _ T2427 (mkF m 89 #[iv i0, iv i1, iv i2, iv i3, iv (i0 &&& (3 : Int32)), iv (i1 &&& (3 : Int32)), rv a1406, rv a1433, rv a1479, rv a2104, .unset] [(.int ch2448), (.ref a2427), (.ref a2427)])
      refine cStat X2427 hx hZ hown (by rw [hml]; rfl) e2427 (hwi hw 3 rfl) (hwi hw 4 rfl) (hwi hw 5 rfl) (hwi hw 6 rfl) [(.int ch2448)] [(.ref a2427), (.ref a2427)] rfl (rm_cvalueOf hw ch2448 _ O2447 lc2448 cz SCS hcz) (hb hby at_89) rfl (lenOf pd_36 rfl) (by decide) (by decide) (Nat.le_of_ble_eq_true rfl) (by decide) (by decide) ?_
      rintro v2449 T2449 h2449 L2449 X2449 e2449 ⟨a2449, b2449, k2449, rfl, N2449, K2449, ga2449, gb2449, nn2449, E2449, Fv2449, Fc2449, V2449⟩
      have N2449a := Fr.app N2104a N2449
      have F2450 := (Exa.ext E2427 F2428)
      have F2454 := (Exa.ext E2427 F2430)
      have F2458 := (Exa.ext E2427 F2432)
      have F2460 := (Exa.ext E2427 E2104)
      have F2467 := (Arv.ext F2435 E2427)
      have F2469 := (Arv.ext V2104 E2427)
      have C2484 : CHr Z own_EL T1464.vm h2427 T1464.vm h2449 := CHr.keep K2449 sf0 H2446.1
      have hk := Nat.le_trans hk C2484.2.1
      have H2484 := H2446.trans C2484
      have O2485 : Ext Z.heap h2449 := xk O2447 K2449 all0
      show Ends p e below _ T2449 (mkF m 92 #[iv i0, iv i1, iv i2, iv i3, iv (i0 &&& (3 : Int32)), iv (i1 &&& (3 : Int32)), rv a1406, rv a1433, rv a1479, rv a2104, .unset] [(.ref a2449), (.ref a2427), (.ref a2427)])
      refine go (fun _ => XS.iloadN X2449.here hx rfl (hb hby at_92) rfl) ?_
      refine go (fun _ => XT.bipushV X2449.here hx rfl (8 : Int32) (hb hby at_93) (by decide)) ?_
      refine go (fun _ => XT.iushr X2449.here hx rfl (hb hby at_95) rfl) ?_
      refine go (fun _ => XT.sipushV X2449.here hx rfl (255 : Int32) (hb hby at_96) (by decide)) ?_
      refine go (fun _ => XS.iand X2449.here hx rfl (hb hby at_99) rfl) ?_
      refine go (fun _ => XT.i2c X2449.here hx rfl (hb hby at_100) rfl) ?_
      show Ends p e below _ T2449 (mkF m 101 #[iv i0, iv i1, iv i2, iv i3, iv (i0 &&& (3 : Int32)), iv (i1 &&& (3 : Int32)), rv a1406, rv a1433, rv a1479, rv a2104, .unset] [(.int ((XT.ushr i3 (8 : Int32)) &&& (255 : Int32)).toUInt32.toUInt16.toUInt32.toInt32), (.ref a2449), (.ref a2427), (.ref a2427)])
      obtain ⟨ch2486, hch2486⟩ : ∃ z : Int32, z = ((XT.ushr i3 (8 : Int32)) &&& (255 : Int32)).toUInt32.toUInt16.toUInt32.toInt32 := ⟨_, rfl⟩
      have lc2486 : ¬ (255 : Int32) < ch2486 := by rw [hch2486]; exact (own_ch _).1
      rw [← hch2486]
      show Ends p e below _ T2449 (mkF m 101 #[iv i0, iv i1, iv i2, iv i3, iv (i0 &&& (3 : Int32)), iv (i1 &&& (3 : Int32)), rv a1406, rv a1433, rv a1479, rv a2104, .unset] [(.int ch2486), (.ref a2449), (.ref a2427), (.ref a2427)])
      refine cStat X2449 hx hZ hown (by rw [hml]; rfl) e2449 (hwi hw 3 rfl) (hwi hw 4 rfl) (hwi hw 5 rfl) (hwi hw 6 rfl) [(.int ch2486)] [(.ref a2449), (.ref a2427), (.ref a2427)] rfl (rm_cvalueOf hw ch2486 _ O2485 lc2486 cz SCS hcz) (hb hby at_101) rfl (lenOf pd_36 rfl) (by decide) (by decide) (Nat.le_of_ble_eq_true rfl) (by decide) (by decide) ?_
      rintro v2487 T2487 h2487 L2487 X2487 e2487 ⟨a2487, b2487, k2487, rfl, N2487, K2487, ga2487, gb2487, nn2487, E2487, Fv2487, Fc2487, V2487⟩
      have N2487a := Fr.app N2449a N2487
      have F2488 := (Exa.keep F2450 K2449)
      have F2492 := (Exa.keep F2454 K2449)
      have F2496 := (Exa.keep F2458 K2449)
      have F2498 := (Exa.keep F2460 K2449)
      have F2500 := (Exa.keep A2427 K2449)
      have F2507 := (Arv.keep F2467 K2449 nin0)
      have F2509 := (Arv.keep F2469 K2449 nin0)
      have C2527 : CHr Z own_EL T1464.vm h2449 T1464.vm h2487 := CHr.keep K2487 sf0 H2484.1
      have hk := Nat.le_trans hk C2527.2.1
      have H2527 := H2484.trans C2527
      have O2528 : Ext Z.heap h2487 := xk O2485 K2487 all0
      show Ends p e below _ T2487 (mkF m 104 #[iv i0, iv i1, iv i2, iv i3, iv (i0 &&& (3 : Int32)), iv (i1 &&& (3 : Int32)), rv a1406, rv a1433, rv a1479, rv a2104, .unset] [(.ref a2487), (.ref a2449), (.ref a2427), (.ref a2427)])
      refine go (fun _ => XS.aload X2487.here hx rfl (hb hby at_104) rfl rfl) ?_
      refine go (fun _ => XS.aload X2487.here hx rfl (hb hby at_106) rfl rfl) ?_
      show Ends p e below _ T2487 (mkF m 108 #[iv i0, iv i1, iv i2, iv i3, iv (i0 &&& (3 : Int32)), iv (i1 &&& (3 : Int32)), rv a1406, rv a1433, rv a1479, rv a2104, .unset] [(.ref a2104), (.ref a1479), (.ref a2487), (.ref a2449), (.ref a2427), (.ref a2427)])
      have F2529 := (Exa.keep F2496 K2487)
      have F2530 := (Fld.keep (Fld.keep (Fld.ext E2427 (Fld.keep F21479 K2104 nin0)) K2449 nin0) K2487 nin0)
      have F2531 := (Fld.keep (Fld.keep (Fld.ext E2427 (Fld.keep F31479 K2104 nin0)) K2449 nin0) K2487 nin0)
      have F2532 := (Arv.keep F2507 K2487 nin0)
      have F2533 := (Exa.keep F2498 K2487)
      have F2534 := (Fld.keep (Fld.keep (Fld.ext E2427 F22104) K2449 nin0) K2487 nin0)
      have F2535 := (Fld.keep (Fld.keep (Fld.ext E2427 F32104) K2449 nin0) K2487 nin0)
      have F2536 := (Arv.keep F2509 K2487 nin0)
      have F2537 := (Exa.keep F2500 K2487)
      have F2538 := (Fld.keep (Fld.keep (D2427 (Or.inr (hwi hw 207 rfl)) (ty := (.object "java/lang/String")) (by decide)) K2449 nin0) K2487 nin0)
      have F2539 := (Fld.keep (Fld.keep (D2427 (Or.inr (hwi hw 209 rfl)) (ty := (.object "java/lang/String")) (by decide)) K2449 nin0) K2487 nin0)
      have F2540 := (Fld.keep (Fld.keep (D2427 (Or.inr (hwi hw 211 rfl)) (ty := (.object "java/util/List")) (by decide)) K2449 nin0) K2487 nin0)
      have F2541 := (Fld.keep (Fld.keep (D2427 (Or.inr (hwi hw 213 rfl)) (ty := (.object "java/util/List")) (by decide)) K2449 nin0) K2487 nin0)
      have F2542 := (Exa.keep F2488 K2487)
      have F2543 := (Exa.keep F2492 K2487)
      refine cInit X2487 hx hZ hown (by rw [hml]; rfl) e2487 (hwi hw 110 rfl) (hwi hw 111 rfl) (hwi hw 109 rfl) (hwi hw 112 rfl) a2427 [(.ref a2449), (.ref a2487), (.ref a1479), (.ref a2104)] [(.ref a2427)] rfl (rm_tab_1_2 hw a2427 a2449 a2487 a1479 a2104 a1406 a1433 b1479 k1479 b2104 k2104 mr aL aN aE kN _ O2528 f2427 F2537 F2538 F2539 F2540 F2541 MM SL XL FL VN SE F2542 F2543 F2529 F2530 F2531 O1479 F2532 F2533 F2534 F2535 O2104 F2536 (Ne.symm n2436) (Ne.symm n2438)) (hb hby at_108) rfl (lenOf pd_39 rfl) rfl (by decide) (by decide) (Nat.le_of_ble_eq_true rfl) (by decide) (by decide) ?_
      rintro v2544 T2544 h2544 L2544 X2544 e2544 ⟨o2544, rfl, N2544, K2544, g2544, F2544, E2544⟩
      have N2544a := Fr.app N2487a N2544
      have F2568 := (Safe.keep K2487 sf0 H2484.1 (Safe.keep K2449 sf0 H2446.1 SF2427))
      have sf2567 : ∀ x ∈ [a2427], Safe Z own_EL T1464.vm h2487 x := (sfS F2568 sf0)
      have C2567 : CHr Z own_EL T1464.vm h2487 T1464.vm h2544 := CHr.keep K2544 sf2567 H2527.1
      have hk := Nat.le_trans hk C2567.2.1
      have H2567 := H2527.trans C2567
      show Ends p e below _ T2544 (mkF m 111 #[iv i0, iv i1, iv i2, iv i3, iv (i0 &&& (3 : Int32)), iv (i1 &&& (3 : Int32)), rv a1406, rv a1433, rv a1479, rv a2104, .unset] [(.ref a2427)])
      refine go (fun _ => XS.astore X2544.here hx rfl (hb hby at_111) rfl rfl (l' := #[iv i0, iv i1, iv i2, iv i3, iv (i0 &&& (3 : Int32)), iv (i1 &&& (3 : Int32)), rv a1406, rv a1433, rv a1479, rv a2104, rv a2427]) rfl) ?_
      refine go (fun _ => XS.aload X2544.here hx rfl (hb hby at_113) rfl rfl) ?_
      show Ends p e below _ T2544 (mkF m 115 #[iv i0, iv i1, iv i2, iv i3, iv (i0 &&& (3 : Int32)), iv (i1 &&& (3 : Int32)), rv a1406, rv a1433, rv a1479, rv a2104, rv a2427] [(.ref a2427)])
      have F2571 := (Exa.keep F2537 K2544)
      refine cVirt X2544 hx hZ hown (by rw [hml]; rfl) e2544 (hwi hw 214 rfl) (hwi hw 215 rfl) (hwi hw 217 rfl) (hwi hw 216 rfl) (hwi hw 109 rfl) (hwi hw 218 rfl) (notFace_of_selects (args := #[]) (mvT hZ (hwi hw 217 rfl))) a2427 F2571 [] [] rfl (rm_hp_1 hw a2427 o2544 _ F2544 E2544) (hb hby at_115) rfl (lenOf pd_23 rfl) (by decide) (by decide) (Nat.le_of_ble_eq_true rfl) (by decide) (by decide) ?_
      rintro v2570 T2570 h2570 L2570 X2570 e2570 ⟨rfl, N2570, rfl⟩
      have N2570a := Fr.app N2544a N2570
      show Ends p e below _ T2570 (mkF m 118 #[iv i0, iv i1, iv i2, iv i3, iv (i0 &&& (3 : Int32)), iv (i1 &&& (3 : Int32)), rv a1406, rv a1433, rv a1479, rv a2104, rv a2427] [(.int (1 : Int32))])
      refine go (fun _ => XS.iload X2570.here hx rfl (hb hby at_118) rfl) ?_
      show Ends p e below _ T2570 (mkF m 120 #[iv i0, iv i1, iv i2, iv i3, iv (i0 &&& (3 : Int32)), iv (i1 &&& (3 : Int32)), rv a1406, rv a1433, rv a1479, rv a2104, rv a2427] [(.int (i0 &&& (3 : Int32))), (.int (1 : Int32))])
      refine go (fun _ => XS.ifNo X2570.here hx rfl (hb hby at_120) rfl (XT.i0_eq_f ((by rw [c2104]; decide) : ¬ ((i0 &&& (3 : Int32)) = (0 : Int32))))) ?_
      show Ends p e below _ T2570 (mkF m 123 #[iv i0, iv i1, iv i2, iv i3, iv (i0 &&& (3 : Int32)), iv (i1 &&& (3 : Int32)), rv a1406, rv a1433, rv a1479, rv a2104, rv a2427] [(.int (1 : Int32))])
      refine go (fun _ => XT.iconstV X2570.here hx rfl (1 : Int32) (hb hby at_123) (by decide)) ?_
      refine go (fun _ => XS.goto X2570.here hx rfl (pc0 := 124) (pc' := 128) rfl (hb hby at_124) (by decide) (by decide)) ?_
      show Ends p e below _ T2570 (mkF m 128 #[iv i0, iv i1, iv i2, iv i3, iv (i0 &&& (3 : Int32)), iv (i1 &&& (3 : Int32)), rv a1406, rv a1433, rv a1479, rv a2104, rv a2427] [(.int (1 : Int32)), (.int (1 : Int32))])
      refine go (fun _ => XS.icmpNo X2570.here hx rfl (hb hby at_128) rfl (XT.ii_ne_f ((by decide) : (1 : Int32) = (1 : Int32)))) ?_
      show Ends p e below _ T2570 (mkF m 131 #[iv i0, iv i1, iv i2, iv i3, iv (i0 &&& (3 : Int32)), iv (i1 &&& (3 : Int32)), rv a1406, rv a1433, rv a1479, rv a2104, rv a2427] [])
      refine go (fun _ => XT.iconstV X2570.here hx rfl (1 : Int32) (hb hby at_131) (by decide)) ?_
      refine go (fun _ => XS.goto X2570.here hx rfl (pc0 := 132) (pc' := 136) rfl (hb hby at_132) (by decide) (by decide)) ?_
      show Ends p e below _ T2570 (mkF m 136 #[iv i0, iv i1, iv i2, iv i3, iv (i0 &&& (3 : Int32)), iv (i1 &&& (3 : Int32)), rv a1406, rv a1433, rv a1479, rv a2104, rv a2427] [(.int (1 : Int32))])
      exact endN X2570 hx hret (by simp) (hb hby at_136) (lvW X2570 hlk hZ (own_EW hw) hs0 hS hk H2567 e2570 (fun h => by rw [hret] at h; cases h) ⟨rfl, N2570a⟩ (by decide) (by decide))
    · have N2104a := Fr.app N1479a N2104
      have F2573 := (Exa.keep F2083 K1479)
      have F2576 := (Exa.keep F2086 K1479)
      have C2594 : CHr Z own_EL T1464.vm h1479 T1464.vm h2104 := CHr.keep K2104 sf0 H2100.1
      have hk := Nat.le_trans hk C2594.2.1
      have H2594 := H2100.trans C2594
      have O2595 : Ext Z.heap h2104 := xk O2101 K2104 all0
      show Ends p e below _ T2104 (mkF m 74 #[iv i0, iv i1, iv i2, iv i3, iv (i0 &&& (3 : Int32)), iv (i1 &&& (3 : Int32)), rv a1406, rv a1433, rv a1479, .unset, .unset] [(.ref a2104)])
      refine go (fun _ => XS.astore X2104.here hx rfl (hb hby at_74) rfl rfl (l' := #[iv i0, iv i1, iv i2, iv i3, iv (i0 &&& (3 : Int32)), iv (i1 &&& (3 : Int32)), rv a1406, rv a1433, rv a1479, rv a2104, .unset]) rfl) ?_
      show Ends p e below _ T2104 (mkF m 76 #[iv i0, iv i1, iv i2, iv i3, iv (i0 &&& (3 : Int32)), iv (i1 &&& (3 : Int32)), rv a1406, rv a1433, rv a1479, rv a2104, .unset] [])
      obtain ⟨T2596, h2596, X2596, e2596, E2596, A2596, D2596, U2596, s2596⟩ := newO X2104 hx hZ hown (hwi hw 107 rfl) (hwi hw 108 rfl) (hwi hw 109 rfl) e2104 (g := (mkF m 76 #[iv i0, iv i1, iv i2, iv i3, iv (i0 &&& (3 : Int32)), iv (i1 &&& (3 : Int32)), rv a1406, rv a1433, rv a1479, rv a2104, .unset] [])) rfl (hb hby at_76) (by decide) (by decide)
      have F2597 := (Exa.keep F2103 K2104)
      have F2598 := (Exa.keep F2573 K2104)
      have F2599 := (Exa.keep F2102 K2104)
      have F2600 := (Exa.keep F2576 K2104)
      have F2601 := (Exa.keep E1479 K2104)
      have F2604 := (Arv.keep V1479 K2104 nin0)
      obtain ⟨a2596, g2596⟩ : ∃ z : Addr, z = h2104.size := ⟨_, rfl⟩
      have n2605 : a1406 ≠ a2596 := fun q => absurd (F2597.lt) (by rw [q, g2596]; exact Nat.lt_irrefl _)
      have n2607 : a1433 ≠ a2596 := fun q => absurd (F2599.lt) (by rw [q, g2596]; exact Nat.lt_irrefl _)
      have f2596 : Z.heap.size ≤ a2596 := by rw [g2596]; exact (O2595).1
      rw [← g2596] at A2596 D2596 U2596 s2596
      have C2615 : CHr Z own_EL T1464.vm h2104 T1464.vm h2596 := CHr.ext E2596 H2594.1
      have hk := Nat.le_trans hk C2615.2.1
      have H2615 := H2594.trans C2615
      have O2616 : Ext Z.heap h2596 := xx O2595 E2596
      have SF2596 : Safe Z own_EL T1464.vm h2596 a2596 := Safe.ext E2596 H2594.1 (Safe.new (by rw [g2596]; exact Nat.le_refl _))
      refine go s2596 ?_
      show Ends p e below _ T2596 (mkF m 79 #[iv i0, iv i1, iv i2, iv i3, iv (i0 &&& (3 : Int32)), iv (i1 &&& (3 : Int32)), rv a1406, rv a1433, rv a1479, rv a2104, .unset] [(.ref a2596)])
      refine go (fun _ => XS.dup X2596.here hx rfl (hb hby at_79) rfl rfl) ?_
      refine go (fun _ => XS.iloadN X2596.here hx rfl (hb hby at_80) rfl) ?_
      refine go (fun _ => XT.bipushV X2596.here hx rfl (8 : Int32) (hb hby at_81) (by decide)) ?_
      refine go (fun _ => XT.iushr X2596.here hx rfl (hb hby at_83) rfl) ?_
      refine go (fun _ => XT.sipushV X2596.here hx rfl (255 : Int32) (hb hby at_84) (by decide)) ?_
      refine go (fun _ => XS.iand X2596.here hx rfl (hb hby at_87) rfl) ?_
      show Ends p e below _ T2596 (mkF m 88 #[iv i0, iv i1, iv i2, iv i3, iv (i0 &&& (3 : Int32)), iv (i1 &&& (3 : Int32)), rv a1406, rv a1433, rv a1479, rv a2104, .unset] [(.int ((XT.ushr i2 (8 : Int32)) &&& (255 : Int32))), (.ref a2596), (.ref a2596)])
      refine go (fun _ => XT.i2c X2596.here hx rfl (hb hby at_88) rfl) ?_
      show Ends p e below _ T2596 (mkF m 89 #[iv i0, iv i1, iv i2, iv i3, iv (i0 &&& (3 : Int32)), iv (i1 &&& (3 : Int32)), rv a1406, rv a1433, rv a1479, rv a2104, .unset] [(.int ((XT.ushr i2 (8 : Int32)) &&& (255 : Int32)).toUInt32.toUInt16.toUInt32.toInt32), (.ref a2596), (.ref a2596)])
      obtain ⟨ch2617, hch2617⟩ : ∃ z : Int32, z = ((XT.ushr i2 (8 : Int32)) &&& (255 : Int32)).toUInt32.toUInt16.toUInt32.toInt32 := ⟨_, rfl⟩
      have lc2617 : ¬ (255 : Int32) < ch2617 := by rw [hch2617]; exact (own_ch _).1
      rw [← hch2617]
      show Ends p e below _ T2596 (mkF m 89 #[iv i0, iv i1, iv i2, iv i3, iv (i0 &&& (3 : Int32)), iv (i1 &&& (3 : Int32)), rv a1406, rv a1433, rv a1479, rv a2104, .unset] [(.int ch2617), (.ref a2596), (.ref a2596)])
      refine cStat X2596 hx hZ hown (by rw [hml]; rfl) e2596 (hwi hw 3 rfl) (hwi hw 4 rfl) (hwi hw 5 rfl) (hwi hw 6 rfl) [(.int ch2617)] [(.ref a2596), (.ref a2596)] rfl (rm_cvalueOf hw ch2617 _ O2616 lc2617 cz SCS hcz) (hb hby at_89) rfl (lenOf pd_36 rfl) (by decide) (by decide) (Nat.le_of_ble_eq_true rfl) (by decide) (by decide) ?_
      rintro v2618 T2618 h2618 L2618 X2618 e2618 ⟨a2618, b2618, k2618, rfl, N2618, K2618, ga2618, gb2618, nn2618, E2618, Fv2618, Fc2618, V2618⟩
      have N2618a := Fr.app N2104a N2618
      have F2619 := (Exa.ext E2596 F2597)
      have F2621 := (Exa.ext E2596 F2598)
      have F2623 := (Exa.ext E2596 F2599)
      have F2625 := (Exa.ext E2596 F2600)
      have F2627 := (Exa.ext E2596 F2601)
      have F2629 := (Exa.ext E2596 E2104)
      have F2636 := (Arv.ext F2604 E2596)
      have F2638 := (Arv.ext V2104 E2596)
      have C2653 : CHr Z own_EL T1464.vm h2596 T1464.vm h2618 := CHr.keep K2618 sf0 H2615.1
      have hk := Nat.le_trans hk C2653.2.1
      have H2653 := H2615.trans C2653
      have O2654 : Ext Z.heap h2618 := xk O2616 K2618 all0
      show Ends p e below _ T2618 (mkF m 92 #[iv i0, iv i1, iv i2, iv i3, iv (i0 &&& (3 : Int32)), iv (i1 &&& (3 : Int32)), rv a1406, rv a1433, rv a1479, rv a2104, .unset] [(.ref a2618), (.ref a2596), (.ref a2596)])
      refine go (fun _ => XS.iloadN X2618.here hx rfl (hb hby at_92) rfl) ?_
      refine go (fun _ => XT.bipushV X2618.here hx rfl (8 : Int32) (hb hby at_93) (by decide)) ?_
      refine go (fun _ => XT.iushr X2618.here hx rfl (hb hby at_95) rfl) ?_
      refine go (fun _ => XT.sipushV X2618.here hx rfl (255 : Int32) (hb hby at_96) (by decide)) ?_
      refine go (fun _ => XS.iand X2618.here hx rfl (hb hby at_99) rfl) ?_
      refine go (fun _ => XT.i2c X2618.here hx rfl (hb hby at_100) rfl) ?_
      show Ends p e below _ T2618 (mkF m 101 #[iv i0, iv i1, iv i2, iv i3, iv (i0 &&& (3 : Int32)), iv (i1 &&& (3 : Int32)), rv a1406, rv a1433, rv a1479, rv a2104, .unset] [(.int ((XT.ushr i3 (8 : Int32)) &&& (255 : Int32)).toUInt32.toUInt16.toUInt32.toInt32), (.ref a2618), (.ref a2596), (.ref a2596)])
      obtain ⟨ch2655, hch2655⟩ : ∃ z : Int32, z = ((XT.ushr i3 (8 : Int32)) &&& (255 : Int32)).toUInt32.toUInt16.toUInt32.toInt32 := ⟨_, rfl⟩
      have lc2655 : ¬ (255 : Int32) < ch2655 := by rw [hch2655]; exact (own_ch _).1
      rw [← hch2655]
      show Ends p e below _ T2618 (mkF m 101 #[iv i0, iv i1, iv i2, iv i3, iv (i0 &&& (3 : Int32)), iv (i1 &&& (3 : Int32)), rv a1406, rv a1433, rv a1479, rv a2104, .unset] [(.int ch2655), (.ref a2618), (.ref a2596), (.ref a2596)])
      refine cStat X2618 hx hZ hown (by rw [hml]; rfl) e2618 (hwi hw 3 rfl) (hwi hw 4 rfl) (hwi hw 5 rfl) (hwi hw 6 rfl) [(.int ch2655)] [(.ref a2618), (.ref a2596), (.ref a2596)] rfl (rm_cvalueOf hw ch2655 _ O2654 lc2655 cz SCS hcz) (hb hby at_101) rfl (lenOf pd_36 rfl) (by decide) (by decide) (Nat.le_of_ble_eq_true rfl) (by decide) (by decide) ?_
      rintro v2656 T2656 h2656 L2656 X2656 e2656 ⟨a2656, b2656, k2656, rfl, N2656, K2656, ga2656, gb2656, nn2656, E2656, Fv2656, Fc2656, V2656⟩
      have N2656a := Fr.app N2618a N2656
      have F2657 := (Exa.keep F2619 K2618)
      have F2661 := (Exa.keep F2623 K2618)
      have F2665 := (Exa.keep F2627 K2618)
      have F2667 := (Exa.keep F2629 K2618)
      have F2669 := (Exa.keep A2596 K2618)
      have F2676 := (Arv.keep F2636 K2618 nin0)
      have F2678 := (Arv.keep F2638 K2618 nin0)
      have C2696 : CHr Z own_EL T1464.vm h2618 T1464.vm h2656 := CHr.keep K2656 sf0 H2653.1
      have hk := Nat.le_trans hk C2696.2.1
      have H2696 := H2653.trans C2696
      have O2697 : Ext Z.heap h2656 := xk O2654 K2656 all0
      show Ends p e below _ T2656 (mkF m 104 #[iv i0, iv i1, iv i2, iv i3, iv (i0 &&& (3 : Int32)), iv (i1 &&& (3 : Int32)), rv a1406, rv a1433, rv a1479, rv a2104, .unset] [(.ref a2656), (.ref a2618), (.ref a2596), (.ref a2596)])
      refine go (fun _ => XS.aload X2656.here hx rfl (hb hby at_104) rfl rfl) ?_
      refine go (fun _ => XS.aload X2656.here hx rfl (hb hby at_106) rfl rfl) ?_
      show Ends p e below _ T2656 (mkF m 108 #[iv i0, iv i1, iv i2, iv i3, iv (i0 &&& (3 : Int32)), iv (i1 &&& (3 : Int32)), rv a1406, rv a1433, rv a1479, rv a2104, .unset] [(.ref a2104), (.ref a1479), (.ref a2656), (.ref a2618), (.ref a2596), (.ref a2596)])
      have F2698 := (Exa.keep F2665 K2656)
      have F2699 := (Fld.keep (Fld.keep (Fld.ext E2596 (Fld.keep F21479 K2104 nin0)) K2618 nin0) K2656 nin0)
      have F2700 := (Fld.keep (Fld.keep (Fld.ext E2596 (Fld.keep F31479 K2104 nin0)) K2618 nin0) K2656 nin0)
      have F2701 := (Arv.keep F2676 K2656 nin0)
      have F2702 := (Exa.keep F2667 K2656)
      have F2703 := (Fld.keep (Fld.keep (Fld.ext E2596 F22104) K2618 nin0) K2656 nin0)
      have F2704 := (Fld.keep (Fld.keep (Fld.ext E2596 F32104) K2618 nin0) K2656 nin0)
      have F2705 := (Arv.keep F2678 K2656 nin0)
      have F2706 := (Exa.keep F2669 K2656)
      have F2707 := (Fld.keep (Fld.keep (D2596 (Or.inr (hwi hw 207 rfl)) (ty := (.object "java/lang/String")) (by decide)) K2618 nin0) K2656 nin0)
      have F2708 := (Fld.keep (Fld.keep (D2596 (Or.inr (hwi hw 209 rfl)) (ty := (.object "java/lang/String")) (by decide)) K2618 nin0) K2656 nin0)
      have F2709 := (Fld.keep (Fld.keep (D2596 (Or.inr (hwi hw 211 rfl)) (ty := (.object "java/util/List")) (by decide)) K2618 nin0) K2656 nin0)
      have F2710 := (Fld.keep (Fld.keep (D2596 (Or.inr (hwi hw 213 rfl)) (ty := (.object "java/util/List")) (by decide)) K2618 nin0) K2656 nin0)
      have F2711 := (Exa.keep F2657 K2656)
      have F2712 := (Exa.keep F2661 K2656)
      refine cInit X2656 hx hZ hown (by rw [hml]; rfl) e2656 (hwi hw 110 rfl) (hwi hw 111 rfl) (hwi hw 109 rfl) (hwi hw 112 rfl) a2596 [(.ref a2618), (.ref a2656), (.ref a1479), (.ref a2104)] [(.ref a2596)] rfl (rm_tab_1_3 hw a2596 a2618 a2656 a1479 a2104 a1406 a1433 b1479 k1479 b2104 k2104 mr aL aN aE kN _ O2697 f2596 F2706 F2707 F2708 F2709 F2710 MM SL XL FL VN SE F2711 F2712 F2698 F2699 F2700 O1479 F2701 F2702 F2703 F2704 O2104 F2705 (Ne.symm n2605) (Ne.symm n2607)) (hb hby at_108) rfl (lenOf pd_39 rfl) rfl (by decide) (by decide) (Nat.le_of_ble_eq_true rfl) (by decide) (by decide) ?_
      rintro v2713 T2713 h2713 L2713 X2713 e2713 ⟨o2713, r2713, kr2713, rfl, N2713, K2713, g2713, F2713, E2713, Fa2713, Fb2713⟩
      have N2713a := Fr.app N2656a N2713
      have F2737 := (Safe.keep K2656 sf0 H2653.1 (Safe.keep K2618 sf0 H2615.1 SF2596))
      have sf2736 : ∀ x ∈ [a2596], Safe Z own_EL T1464.vm h2656 x := (sfS F2737 sf0)
      have C2736 : CHr Z own_EL T1464.vm h2656 T1464.vm h2713 := CHr.keep K2713 sf2736 H2696.1
      have hk := Nat.le_trans hk C2736.2.1
      have H2736 := H2696.trans C2736
      show Ends p e below _ T2713 (mkF m 111 #[iv i0, iv i1, iv i2, iv i3, iv (i0 &&& (3 : Int32)), iv (i1 &&& (3 : Int32)), rv a1406, rv a1433, rv a1479, rv a2104, .unset] [(.ref a2596)])
      refine go (fun _ => XS.astore X2713.here hx rfl (hb hby at_111) rfl rfl (l' := #[iv i0, iv i1, iv i2, iv i3, iv (i0 &&& (3 : Int32)), iv (i1 &&& (3 : Int32)), rv a1406, rv a1433, rv a1479, rv a2104, rv a2596]) rfl) ?_
      refine go (fun _ => XS.aload X2713.here hx rfl (hb hby at_113) rfl rfl) ?_
      show Ends p e below _ T2713 (mkF m 115 #[iv i0, iv i1, iv i2, iv i3, iv (i0 &&& (3 : Int32)), iv (i1 &&& (3 : Int32)), rv a1406, rv a1433, rv a1479, rv a2104, rv a2596] [(.ref a2596)])
      have F2740 := (Exa.keep F2706 K2713)
      refine cVirt X2713 hx hZ hown (by rw [hml]; rfl) e2713 (hwi hw 214 rfl) (hwi hw 215 rfl) (hwi hw 217 rfl) (hwi hw 216 rfl) (hwi hw 109 rfl) (hwi hw 218 rfl) (notFace_of_selects (args := #[]) (mvT hZ (hwi hw 217 rfl))) a2596 F2740 [] [] rfl (rm_hp_3 hw a2596 o2713 r2713 kr2713 _ _ F2713 E2713 Fa2713 Fb2713) (hb hby at_115) rfl (lenOf pd_23 rfl) (by decide) (by decide) (Nat.le_of_ble_eq_true rfl) (by decide) (by decide) ?_
      rintro v2739 T2739 h2739 L2739 X2739 e2739 ⟨rfl, N2739, rfl⟩
      have N2739a := Fr.app N2713a N2739
      show Ends p e below _ T2739 (mkF m 118 #[iv i0, iv i1, iv i2, iv i3, iv (i0 &&& (3 : Int32)), iv (i1 &&& (3 : Int32)), rv a1406, rv a1433, rv a1479, rv a2104, rv a2596] [(.int (1 : Int32))])
      refine go (fun _ => XS.iload X2739.here hx rfl (hb hby at_118) rfl) ?_
      show Ends p e below _ T2739 (mkF m 120 #[iv i0, iv i1, iv i2, iv i3, iv (i0 &&& (3 : Int32)), iv (i1 &&& (3 : Int32)), rv a1406, rv a1433, rv a1479, rv a2104, rv a2596] [(.int (i0 &&& (3 : Int32))), (.int (1 : Int32))])
      refine go (fun _ => XS.ifNo X2739.here hx rfl (hb hby at_120) rfl (XT.i0_eq_f ((by rw [c2104]; decide) : ¬ ((i0 &&& (3 : Int32)) = (0 : Int32))))) ?_
      show Ends p e below _ T2739 (mkF m 123 #[iv i0, iv i1, iv i2, iv i3, iv (i0 &&& (3 : Int32)), iv (i1 &&& (3 : Int32)), rv a1406, rv a1433, rv a1479, rv a2104, rv a2596] [(.int (1 : Int32))])
      refine go (fun _ => XT.iconstV X2739.here hx rfl (1 : Int32) (hb hby at_123) (by decide)) ?_
      refine go (fun _ => XS.goto X2739.here hx rfl (pc0 := 124) (pc' := 128) rfl (hb hby at_124) (by decide) (by decide)) ?_
      show Ends p e below _ T2739 (mkF m 128 #[iv i0, iv i1, iv i2, iv i3, iv (i0 &&& (3 : Int32)), iv (i1 &&& (3 : Int32)), rv a1406, rv a1433, rv a1479, rv a2104, rv a2596] [(.int (1 : Int32)), (.int (1 : Int32))])
      refine go (fun _ => XS.icmpNo X2739.here hx rfl (hb hby at_128) rfl (XT.ii_ne_f ((by decide) : (1 : Int32) = (1 : Int32)))) ?_
      show Ends p e below _ T2739 (mkF m 131 #[iv i0, iv i1, iv i2, iv i3, iv (i0 &&& (3 : Int32)), iv (i1 &&& (3 : Int32)), rv a1406, rv a1433, rv a1479, rv a2104, rv a2596] [])
      refine go (fun _ => XT.iconstV X2739.here hx rfl (1 : Int32) (hb hby at_131) (by decide)) ?_
      refine go (fun _ => XS.goto X2739.here hx rfl (pc0 := 132) (pc' := 136) rfl (hb hby at_132) (by decide) (by decide)) ?_
      show Ends p e below _ T2739 (mkF m 136 #[iv i0, iv i1, iv i2, iv i3, iv (i0 &&& (3 : Int32)), iv (i1 &&& (3 : Int32)), rv a1406, rv a1433, rv a1479, rv a2104, rv a2596] [(.int (1 : Int32))])
      exact endN X2739 hx hret (by simp) (hb hby at_136) (lvW X2739 hlk hZ (own_EW hw) hs0 hS hk H2736 e2739 (fun h => by rw [hret] at h; cases h) ⟨rfl, N2739a⟩ (by decide) (by decide))
  · have N1479a := Fr.app N1473a N1479
    have C2759 : CHr Z own_EL T1464.vm h1473 T1464.vm h1479 := CHr.keep K1479 sf0 H1474.1
    have hk := Nat.le_trans hk C2759.2.1
    have H2759 := H1474.trans C2759
    have O2760 : Ext Z.heap h1479 := xk O1476 K1479 all0
    show Ends p e below _ T1479 (mkF m 63 #[iv i0, iv i1, iv i2, iv i3, iv (i0 &&& (3 : Int32)), iv (i1 &&& (3 : Int32)), rv a1406, rv a1433, .unset, .unset, .unset] [(.ref a1479)])
    refine go (fun _ => XS.astore X1479.here hx rfl (hb hby at_63) rfl rfl (l' := #[iv i0, iv i1, iv i2, iv i3, iv (i0 &&& (3 : Int32)), iv (i1 &&& (3 : Int32)), rv a1406, rv a1433, rv a1479, .unset, .unset]) rfl) ?_
    refine go (fun _ => XS.aload X1479.here hx rfl (hb hby at_65) rfl rfl) ?_
    refine go (fun _ => XS.aload X1479.here hx rfl (hb hby at_67) rfl rfl) ?_
    refine go (fun _ => XS.iload X1479.here hx rfl (hb hby at_69) rfl) ?_
    show Ends p e below _ T1479 (mkF m 71 #[iv i0, iv i1, iv i2, iv i3, iv (i0 &&& (3 : Int32)), iv (i1 &&& (3 : Int32)), rv a1406, rv a1433, rv a1479, .unset, .unset] [(.int (i0 &&& (3 : Int32))), (.ref a1406), (.ref a1433)])
    have F2761 := (Exa.keep F1478 K1479)
    have F2762 := (Exa.keep F1477 K1479)
    refine cStat X1479 hx hZ hown (by rw [hml]; rfl) e1479 (hwi hw 48 rfl) (hwi hw 49 rfl) (hwi hw 50 rfl) (hwi hw 51 rfl) [(.ref a1433), (.ref a1406), (.int (i0 &&& (3 : Int32)))] [] rfl (rm_listOf hw a1433 a1406 (i0 &&& (3 : Int32)) aD kD _ O2760 SD VD F2761 F2762 (own_q4 i0)) (hb hby at_71) rfl (lenOf pd_38 rfl) (by decide) (by decide) (Nat.le_of_ble_eq_true rfl) (by decide) (by decide) ?_
    rintro v2763 T2763 h2763 L2763 X2763 e2763 (⟨c2763, a2763, rfl, N2763, K2763, ga2763, E2763, F32763⟩ | ⟨c2763, a2763, b2763, k2763, rfl, N2763, K2763, ga2763, gb2763, E2763, F22763, F32763, O2763, V2763⟩ | ⟨c2763, a2763, b2763, k2763, rfl, N2763, K2763, ga2763, gb2763, E2763, F22763, F32763, O2763, V2763⟩ | ⟨c2763, a2763, b2763, k2763, rfl, N2763, K2763, ga2763, gb2763, E2763, F22763, F32763, O2763, V2763⟩)
    · have N2763a := Fr.app N1479a N2763
      have C2777 : CHr Z own_EL T1464.vm h1479 T1464.vm h2763 := CHr.keep K2763 sf0 H2759.1
      have hk := Nat.le_trans hk C2777.2.1
      have H2777 := H2759.trans C2777
      have O2778 : Ext Z.heap h2763 := xk O2760 K2763 all0
      show Ends p e below _ T2763 (mkF m 74 #[iv i0, iv i1, iv i2, iv i3, iv (i0 &&& (3 : Int32)), iv (i1 &&& (3 : Int32)), rv a1406, rv a1433, rv a1479, .unset, .unset] [(.ref a2763)])
      refine go (fun _ => XS.astore X2763.here hx rfl (hb hby at_74) rfl rfl (l' := #[iv i0, iv i1, iv i2, iv i3, iv (i0 &&& (3 : Int32)), iv (i1 &&& (3 : Int32)), rv a1406, rv a1433, rv a1479, rv a2763, .unset]) rfl) ?_
      show Ends p e below _ T2763 (mkF m 76 #[iv i0, iv i1, iv i2, iv i3, iv (i0 &&& (3 : Int32)), iv (i1 &&& (3 : Int32)), rv a1406, rv a1433, rv a1479, rv a2763, .unset] [])
      obtain ⟨T2779, h2779, X2779, e2779, E2779, A2779, D2779, U2779, s2779⟩ := newO X2763 hx hZ hown (hwi hw 107 rfl) (hwi hw 108 rfl) (hwi hw 109 rfl) e2763 (g := (mkF m 76 #[iv i0, iv i1, iv i2, iv i3, iv (i0 &&& (3 : Int32)), iv (i1 &&& (3 : Int32)), rv a1406, rv a1433, rv a1479, rv a2763, .unset] [])) rfl (hb hby at_76) (by decide) (by decide)
      have F2780 := (Exa.keep F2762 K2763)
      have F2782 := (Exa.keep F2761 K2763)
      have F2784 := (Exa.keep E1479 K2763)
      have F2787 := (Arv.keep V1479 K2763 nin0)
      obtain ⟨a2779, g2779⟩ : ∃ z : Addr, z = h2763.size := ⟨_, rfl⟩
      have n2788 : a1406 ≠ a2779 := fun q => absurd (F2780.lt) (by rw [q, g2779]; exact Nat.lt_irrefl _)
      have n2790 : a1433 ≠ a2779 := fun q => absurd (F2782.lt) (by rw [q, g2779]; exact Nat.lt_irrefl _)
      have f2779 : Z.heap.size ≤ a2779 := by rw [g2779]; exact (O2778).1
      rw [← g2779] at A2779 D2779 U2779 s2779
      have C2797 : CHr Z own_EL T1464.vm h2763 T1464.vm h2779 := CHr.ext E2779 H2777.1
      have hk := Nat.le_trans hk C2797.2.1
      have H2797 := H2777.trans C2797
      have O2798 : Ext Z.heap h2779 := xx O2778 E2779
      have SF2779 : Safe Z own_EL T1464.vm h2779 a2779 := Safe.ext E2779 H2777.1 (Safe.new (by rw [g2779]; exact Nat.le_refl _))
      refine go s2779 ?_
      show Ends p e below _ T2779 (mkF m 79 #[iv i0, iv i1, iv i2, iv i3, iv (i0 &&& (3 : Int32)), iv (i1 &&& (3 : Int32)), rv a1406, rv a1433, rv a1479, rv a2763, .unset] [(.ref a2779)])
      refine go (fun _ => XS.dup X2779.here hx rfl (hb hby at_79) rfl rfl) ?_
      refine go (fun _ => XS.iloadN X2779.here hx rfl (hb hby at_80) rfl) ?_
      refine go (fun _ => XT.bipushV X2779.here hx rfl (8 : Int32) (hb hby at_81) (by decide)) ?_
      refine go (fun _ => XT.iushr X2779.here hx rfl (hb hby at_83) rfl) ?_
      refine go (fun _ => XT.sipushV X2779.here hx rfl (255 : Int32) (hb hby at_84) (by decide)) ?_
      refine go (fun _ => XS.iand X2779.here hx rfl (hb hby at_87) rfl) ?_
      show Ends p e below _ T2779 (mkF m 88 #[iv i0, iv i1, iv i2, iv i3, iv (i0 &&& (3 : Int32)), iv (i1 &&& (3 : Int32)), rv a1406, rv a1433, rv a1479, rv a2763, .unset] [(.int ((XT.ushr i2 (8 : Int32)) &&& (255 : Int32))), (.ref a2779), (.ref a2779)])
      refine go (fun _ => XT.i2c X2779.here hx rfl (hb hby at_88) rfl) ?_
      show Ends p e below _ T2779 (mkF m 89 #[iv i0, iv i1, iv i2, iv i3, iv (i0 &&& (3 : Int32)), iv (i1 &&& (3 : Int32)), rv a1406, rv a1433, rv a1479, rv a2763, .unset] [(.int ((XT.ushr i2 (8 : Int32)) &&& (255 : Int32)).toUInt32.toUInt16.toUInt32.toInt32), (.ref a2779), (.ref a2779)])
      obtain ⟨ch2799, hch2799⟩ : ∃ z : Int32, z = ((XT.ushr i2 (8 : Int32)) &&& (255 : Int32)).toUInt32.toUInt16.toUInt32.toInt32 := ⟨_, rfl⟩
      have lc2799 : ¬ (255 : Int32) < ch2799 := by rw [hch2799]; exact (own_ch _).1
      rw [← hch2799]
      show Ends p e below _ T2779 (mkF m 89 #[iv i0, iv i1, iv i2, iv i3, iv (i0 &&& (3 : Int32)), iv (i1 &&& (3 : Int32)), rv a1406, rv a1433, rv a1479, rv a2763, .unset] [(.int ch2799), (.ref a2779), (.ref a2779)])
      refine cStat X2779 hx hZ hown (by rw [hml]; rfl) e2779 (hwi hw 3 rfl) (hwi hw 4 rfl) (hwi hw 5 rfl) (hwi hw 6 rfl) [(.int ch2799)] [(.ref a2779), (.ref a2779)] rfl (rm_cvalueOf hw ch2799 _ O2798 lc2799 cz SCS hcz) (hb hby at_89) rfl (lenOf pd_36 rfl) (by decide) (by decide) (Nat.le_of_ble_eq_true rfl) (by decide) (by decide) ?_
      rintro v2800 T2800 h2800 L2800 X2800 e2800 ⟨a2800, b2800, k2800, rfl, N2800, K2800, ga2800, gb2800, nn2800, E2800, Fv2800, Fc2800, V2800⟩
      have N2800a := Fr.app N2763a N2800
      have F2801 := (Exa.ext E2779 F2780)
      have F2805 := (Exa.ext E2779 F2782)
      have F2809 := (Exa.ext E2779 F2784)
      have F2811 := (Exa.ext E2779 E2763)
      have F2818 := (Arv.ext F2787 E2779)
      have C2832 : CHr Z own_EL T1464.vm h2779 T1464.vm h2800 := CHr.keep K2800 sf0 H2797.1
      have hk := Nat.le_trans hk C2832.2.1
      have H2832 := H2797.trans C2832
      have O2833 : Ext Z.heap h2800 := xk O2798 K2800 all0
      show Ends p e below _ T2800 (mkF m 92 #[iv i0, iv i1, iv i2, iv i3, iv (i0 &&& (3 : Int32)), iv (i1 &&& (3 : Int32)), rv a1406, rv a1433, rv a1479, rv a2763, .unset] [(.ref a2800), (.ref a2779), (.ref a2779)])
      refine go (fun _ => XS.iloadN X2800.here hx rfl (hb hby at_92) rfl) ?_
      refine go (fun _ => XT.bipushV X2800.here hx rfl (8 : Int32) (hb hby at_93) (by decide)) ?_
      refine go (fun _ => XT.iushr X2800.here hx rfl (hb hby at_95) rfl) ?_
      refine go (fun _ => XT.sipushV X2800.here hx rfl (255 : Int32) (hb hby at_96) (by decide)) ?_
      refine go (fun _ => XS.iand X2800.here hx rfl (hb hby at_99) rfl) ?_
      refine go (fun _ => XT.i2c X2800.here hx rfl (hb hby at_100) rfl) ?_
      show Ends p e below _ T2800 (mkF m 101 #[iv i0, iv i1, iv i2, iv i3, iv (i0 &&& (3 : Int32)), iv (i1 &&& (3 : Int32)), rv a1406, rv a1433, rv a1479, rv a2763, .unset] [(.int ((XT.ushr i3 (8 : Int32)) &&& (255 : Int32)).toUInt32.toUInt16.toUInt32.toInt32), (.ref a2800), (.ref a2779), (.ref a2779)])
      obtain ⟨ch2834, hch2834⟩ : ∃ z : Int32, z = ((XT.ushr i3 (8 : Int32)) &&& (255 : Int32)).toUInt32.toUInt16.toUInt32.toInt32 := ⟨_, rfl⟩
      have lc2834 : ¬ (255 : Int32) < ch2834 := by rw [hch2834]; exact (own_ch _).1
      rw [← hch2834]
      show Ends p e below _ T2800 (mkF m 101 #[iv i0, iv i1, iv i2, iv i3, iv (i0 &&& (3 : Int32)), iv (i1 &&& (3 : Int32)), rv a1406, rv a1433, rv a1479, rv a2763, .unset] [(.int ch2834), (.ref a2800), (.ref a2779), (.ref a2779)])
      refine cStat X2800 hx hZ hown (by rw [hml]; rfl) e2800 (hwi hw 3 rfl) (hwi hw 4 rfl) (hwi hw 5 rfl) (hwi hw 6 rfl) [(.int ch2834)] [(.ref a2800), (.ref a2779), (.ref a2779)] rfl (rm_cvalueOf hw ch2834 _ O2833 lc2834 cz SCS hcz) (hb hby at_101) rfl (lenOf pd_36 rfl) (by decide) (by decide) (Nat.le_of_ble_eq_true rfl) (by decide) (by decide) ?_
      rintro v2835 T2835 h2835 L2835 X2835 e2835 ⟨a2835, b2835, k2835, rfl, N2835, K2835, ga2835, gb2835, nn2835, E2835, Fv2835, Fc2835, V2835⟩
      have N2835a := Fr.app N2800a N2835
      have F2836 := (Exa.keep F2801 K2800)
      have F2840 := (Exa.keep F2805 K2800)
      have F2844 := (Exa.keep F2809 K2800)
      have F2846 := (Exa.keep F2811 K2800)
      have F2848 := (Exa.keep A2779 K2800)
      have F2855 := (Arv.keep F2818 K2800 nin0)
      have C2872 : CHr Z own_EL T1464.vm h2800 T1464.vm h2835 := CHr.keep K2835 sf0 H2832.1
      have hk := Nat.le_trans hk C2872.2.1
      have H2872 := H2832.trans C2872
      have O2873 : Ext Z.heap h2835 := xk O2833 K2835 all0
      show Ends p e below _ T2835 (mkF m 104 #[iv i0, iv i1, iv i2, iv i3, iv (i0 &&& (3 : Int32)), iv (i1 &&& (3 : Int32)), rv a1406, rv a1433, rv a1479, rv a2763, .unset] [(.ref a2835), (.ref a2800), (.ref a2779), (.ref a2779)])
      refine go (fun _ => XS.aload X2835.here hx rfl (hb hby at_104) rfl rfl) ?_
      refine go (fun _ => XS.aload X2835.here hx rfl (hb hby at_106) rfl rfl) ?_
      show Ends p e below _ T2835 (mkF m 108 #[iv i0, iv i1, iv i2, iv i3, iv (i0 &&& (3 : Int32)), iv (i1 &&& (3 : Int32)), rv a1406, rv a1433, rv a1479, rv a2763, .unset] [(.ref a2763), (.ref a1479), (.ref a2835), (.ref a2800), (.ref a2779), (.ref a2779)])
      have F2874 := (Exa.keep F2844 K2835)
      have F2875 := (Fld.keep (Fld.keep (Fld.ext E2779 (Fld.keep F21479 K2763 nin0)) K2800 nin0) K2835 nin0)
      have F2876 := (Fld.keep (Fld.keep (Fld.ext E2779 (Fld.keep F31479 K2763 nin0)) K2800 nin0) K2835 nin0)
      have F2877 := (Arv.keep F2855 K2835 nin0)
      have F2878 := (Exa.keep F2846 K2835)
      have F2879 := (Fld.keep (Fld.keep (Fld.ext E2779 F32763) K2800 nin0) K2835 nin0)
      have F2880 := (Exa.keep F2848 K2835)
      have F2881 := (Fld.keep (Fld.keep (D2779 (Or.inr (hwi hw 207 rfl)) (ty := (.object "java/lang/String")) (by decide)) K2800 nin0) K2835 nin0)
      have F2882 := (Fld.keep (Fld.keep (D2779 (Or.inr (hwi hw 209 rfl)) (ty := (.object "java/lang/String")) (by decide)) K2800 nin0) K2835 nin0)
      have F2883 := (Fld.keep (Fld.keep (D2779 (Or.inr (hwi hw 211 rfl)) (ty := (.object "java/util/List")) (by decide)) K2800 nin0) K2835 nin0)
      have F2884 := (Fld.keep (Fld.keep (D2779 (Or.inr (hwi hw 213 rfl)) (ty := (.object "java/util/List")) (by decide)) K2800 nin0) K2835 nin0)
      have F2885 := (Exa.keep F2836 K2835)
      have F2886 := (Exa.keep F2840 K2835)
      refine cInit X2835 hx hZ hown (by rw [hml]; rfl) e2835 (hwi hw 110 rfl) (hwi hw 111 rfl) (hwi hw 109 rfl) (hwi hw 112 rfl) a2779 [(.ref a2800), (.ref a2835), (.ref a1479), (.ref a2763)] [(.ref a2779)] rfl (rm_tab_2_0 hw a2779 a2800 a2835 a1479 a2763 a1406 a1433 b1479 k1479 mr aL aN aE kN _ O2873 f2779 F2880 F2881 F2882 F2883 F2884 MM SL XL FL VN SE F2885 F2886 F2874 F2875 F2876 O1479 F2877 F2878 F2879 (Ne.symm n2788) (Ne.symm n2790)) (hb hby at_108) rfl (lenOf pd_39 rfl) rfl (by decide) (by decide) (Nat.le_of_ble_eq_true rfl) (by decide) (by decide) ?_
      rintro v2887 T2887 h2887 L2887 X2887 e2887 ⟨rfl, N2887, K2887, F2887⟩
      have N2887a := Fr.app N2835a N2887
      have F2889 := (Safe.keep K2835 sf0 H2832.1 (Safe.keep K2800 sf0 H2797.1 SF2779))
      have sf2888 : ∀ x ∈ [a2779], Safe Z own_EL T1464.vm h2835 x := (sfS F2889 sf0)
      have C2888 : CHr Z own_EL T1464.vm h2835 T1464.vm h2887 := CHr.keep K2887 sf2888 H2872.1
      have hk := Nat.le_trans hk C2888.2.1
      have H2888 := H2872.trans C2888
      have O2890 : Ext Z.heap h2887 := xk O2873 K2887 (allS f2779 all0)
      show Ends p e below _ T2887 (mkF m 111 #[iv i0, iv i1, iv i2, iv i3, iv (i0 &&& (3 : Int32)), iv (i1 &&& (3 : Int32)), rv a1406, rv a1433, rv a1479, rv a2763, .unset] [(.ref a2779)])
      refine go (fun _ => XS.astore X2887.here hx rfl (hb hby at_111) rfl rfl (l' := #[iv i0, iv i1, iv i2, iv i3, iv (i0 &&& (3 : Int32)), iv (i1 &&& (3 : Int32)), rv a1406, rv a1433, rv a1479, rv a2763, rv a2779]) rfl) ?_
      refine go (fun _ => XS.aload X2887.here hx rfl (hb hby at_113) rfl rfl) ?_
      show Ends p e below _ T2887 (mkF m 115 #[iv i0, iv i1, iv i2, iv i3, iv (i0 &&& (3 : Int32)), iv (i1 &&& (3 : Int32)), rv a1406, rv a1433, rv a1479, rv a2763, rv a2779] [(.ref a2779)])
      have F2892 := (Exa.keep F2880 K2887)
      refine cVirt X2887 hx hZ hown (by rw [hml]; rfl) e2887 (hwi hw 214 rfl) (hwi hw 215 rfl) (hwi hw 217 rfl) (hwi hw 216 rfl) (hwi hw 109 rfl) (hwi hw 218 rfl) (notFace_of_selects (args := #[]) (mvT hZ (hwi hw 217 rfl))) a2779 F2892 [] [] rfl (rm_hp_0 hw a2779 aL aN kN _ _ F2887 (Exa.ext O2890 XL) (Fld.ext O2890 FL) (Arv.ext VN O2890)) (hb hby at_115) rfl (lenOf pd_23 rfl) (by decide) (by decide) (Nat.le_of_ble_eq_true rfl) (by decide) (by decide) ?_
      rintro v2891 T2891 h2891 L2891 X2891 e2891 ⟨rfl, N2891, rfl⟩
      have N2891a := Fr.app N2887a N2891
      show Ends p e below _ T2891 (mkF m 118 #[iv i0, iv i1, iv i2, iv i3, iv (i0 &&& (3 : Int32)), iv (i1 &&& (3 : Int32)), rv a1406, rv a1433, rv a1479, rv a2763, rv a2779] [(.int (0 : Int32))])
      refine go (fun _ => XS.iload X2891.here hx rfl (hb hby at_118) rfl) ?_
      show Ends p e below _ T2891 (mkF m 120 #[iv i0, iv i1, iv i2, iv i3, iv (i0 &&& (3 : Int32)), iv (i1 &&& (3 : Int32)), rv a1406, rv a1433, rv a1479, rv a2763, rv a2779] [(.int (i0 &&& (3 : Int32))), (.int (0 : Int32))])
      refine go (fun _ => XS.ifYes X2891.here hx rfl (pc0 := 120) (pc' := 127) rfl (hb hby at_120) rfl (XT.i0_eq_t c2763) (by decide) (by decide)) ?_
      show Ends p e below _ T2891 (mkF m 127 #[iv i0, iv i1, iv i2, iv i3, iv (i0 &&& (3 : Int32)), iv (i1 &&& (3 : Int32)), rv a1406, rv a1433, rv a1479, rv a2763, rv a2779] [(.int (0 : Int32))])
      refine go (fun _ => XT.iconstV X2891.here hx rfl (0 : Int32) (hb hby at_127) (by decide)) ?_
      show Ends p e below _ T2891 (mkF m 128 #[iv i0, iv i1, iv i2, iv i3, iv (i0 &&& (3 : Int32)), iv (i1 &&& (3 : Int32)), rv a1406, rv a1433, rv a1479, rv a2763, rv a2779] [(.int (0 : Int32)), (.int (0 : Int32))])
      refine go (fun _ => XS.icmpNo X2891.here hx rfl (hb hby at_128) rfl (XT.ii_ne_f ((by decide) : (0 : Int32) = (0 : Int32)))) ?_
      show Ends p e below _ T2891 (mkF m 131 #[iv i0, iv i1, iv i2, iv i3, iv (i0 &&& (3 : Int32)), iv (i1 &&& (3 : Int32)), rv a1406, rv a1433, rv a1479, rv a2763, rv a2779] [])
      refine go (fun _ => XT.iconstV X2891.here hx rfl (1 : Int32) (hb hby at_131) (by decide)) ?_
      refine go (fun _ => XS.goto X2891.here hx rfl (pc0 := 132) (pc' := 136) rfl (hb hby at_132) (by decide) (by decide)) ?_
      show Ends p e below _ T2891 (mkF m 136 #[iv i0, iv i1, iv i2, iv i3, iv (i0 &&& (3 : Int32)), iv (i1 &&& (3 : Int32)), rv a1406, rv a1433, rv a1479, rv a2763, rv a2779] [(.int (1 : Int32))])
      exact endN X2891 hx hret (by simp) (hb hby at_136) (lvW X2891 hlk hZ (own_EW hw) hs0 hS hk H2888 e2891 (fun h => by rw [hret] at h; cases h) ⟨rfl, N2891a⟩ (by decide) (by decide))
    · have N2763a := Fr.app N1479a N2763
      have C2915 : CHr Z own_EL T1464.vm h1479 T1464.vm h2763 := CHr.keep K2763 sf0 H2759.1
      have hk := Nat.le_trans hk C2915.2.1
      have H2915 := H2759.trans C2915
      have O2916 : Ext Z.heap h2763 := xk O2760 K2763 all0
      show Ends p e below _ T2763 (mkF m 74 #[iv i0, iv i1, iv i2, iv i3, iv (i0 &&& (3 : Int32)), iv (i1 &&& (3 : Int32)), rv a1406, rv a1433, rv a1479, .unset, .unset] [(.ref a2763)])
      refine go (fun _ => XS.astore X2763.here hx rfl (hb hby at_74) rfl rfl (l' := #[iv i0, iv i1, iv i2, iv i3, iv (i0 &&& (3 : Int32)), iv (i1 &&& (3 : Int32)), rv a1406, rv a1433, rv a1479, rv a2763, .unset]) rfl) ?_
      show Ends p e below _ T2763 (mkF m 76 #[iv i0, iv i1, iv i2, iv i3, iv (i0 &&& (3 : Int32)), iv (i1 &&& (3 : Int32)), rv a1406, rv a1433, rv a1479, rv a2763, .unset] [])
      obtain ⟨T2917, h2917, X2917, e2917, E2917, A2917, D2917, U2917, s2917⟩ := newO X2763 hx hZ hown (hwi hw 107 rfl) (hwi hw 108 rfl) (hwi hw 109 rfl) e2763 (g := (mkF m 76 #[iv i0, iv i1, iv i2, iv i3, iv (i0 &&& (3 : Int32)), iv (i1 &&& (3 : Int32)), rv a1406, rv a1433, rv a1479, rv a2763, .unset] [])) rfl (hb hby at_76) (by decide) (by decide)
      have F2918 := (Exa.keep F2762 K2763)
      have F2920 := (Exa.keep F2761 K2763)
      have F2922 := (Exa.keep E1479 K2763)
      have F2925 := (Arv.keep V1479 K2763 nin0)
      obtain ⟨a2917, g2917⟩ : ∃ z : Addr, z = h2763.size := ⟨_, rfl⟩
      have n2926 : a1406 ≠ a2917 := fun q => absurd (F2918.lt) (by rw [q, g2917]; exact Nat.lt_irrefl _)
      have n2928 : a1433 ≠ a2917 := fun q => absurd (F2920.lt) (by rw [q, g2917]; exact Nat.lt_irrefl _)
      have f2917 : Z.heap.size ≤ a2917 := by rw [g2917]; exact (O2916).1
      rw [← g2917] at A2917 D2917 U2917 s2917
      have C2936 : CHr Z own_EL T1464.vm h2763 T1464.vm h2917 := CHr.ext E2917 H2915.1
      have hk := Nat.le_trans hk C2936.2.1
      have H2936 := H2915.trans C2936
      have O2937 : Ext Z.heap h2917 := xx O2916 E2917
      have SF2917 : Safe Z own_EL T1464.vm h2917 a2917 := Safe.ext E2917 H2915.1 (Safe.new (by rw [g2917]; exact Nat.le_refl _))
      refine go s2917 ?_
      show Ends p e below _ T2917 (mkF m 79 #[iv i0, iv i1, iv i2, iv i3, iv (i0 &&& (3 : Int32)), iv (i1 &&& (3 : Int32)), rv a1406, rv a1433, rv a1479, rv a2763, .unset] [(.ref a2917)])
      refine go (fun _ => XS.dup X2917.here hx rfl (hb hby at_79) rfl rfl) ?_
      refine go (fun _ => XS.iloadN X2917.here hx rfl (hb hby at_80) rfl) ?_
      refine go (fun _ => XT.bipushV X2917.here hx rfl (8 : Int32) (hb hby at_81) (by decide)) ?_
      refine go (fun _ => XT.iushr X2917.here hx rfl (hb hby at_83) rfl) ?_
      refine go (fun _ => XT.sipushV X2917.here hx rfl (255 : Int32) (hb hby at_84) (by decide)) ?_
      refine go (fun _ => XS.iand X2917.here hx rfl (hb hby at_87) rfl) ?_
      show Ends p e below _ T2917 (mkF m 88 #[iv i0, iv i1, iv i2, iv i3, iv (i0 &&& (3 : Int32)), iv (i1 &&& (3 : Int32)), rv a1406, rv a1433, rv a1479, rv a2763, .unset] [(.int ((XT.ushr i2 (8 : Int32)) &&& (255 : Int32))), (.ref a2917), (.ref a2917)])
      refine go (fun _ => XT.i2c X2917.here hx rfl (hb hby at_88) rfl) ?_
      show Ends p e below _ T2917 (mkF m 89 #[iv i0, iv i1, iv i2, iv i3, iv (i0 &&& (3 : Int32)), iv (i1 &&& (3 : Int32)), rv a1406, rv a1433, rv a1479, rv a2763, .unset] [(.int ((XT.ushr i2 (8 : Int32)) &&& (255 : Int32)).toUInt32.toUInt16.toUInt32.toInt32), (.ref a2917), (.ref a2917)])
      obtain ⟨ch2938, hch2938⟩ : ∃ z : Int32, z = ((XT.ushr i2 (8 : Int32)) &&& (255 : Int32)).toUInt32.toUInt16.toUInt32.toInt32 := ⟨_, rfl⟩
      have lc2938 : ¬ (255 : Int32) < ch2938 := by rw [hch2938]; exact (own_ch _).1
      rw [← hch2938]
      show Ends p e below _ T2917 (mkF m 89 #[iv i0, iv i1, iv i2, iv i3, iv (i0 &&& (3 : Int32)), iv (i1 &&& (3 : Int32)), rv a1406, rv a1433, rv a1479, rv a2763, .unset] [(.int ch2938), (.ref a2917), (.ref a2917)])
      refine cStat X2917 hx hZ hown (by rw [hml]; rfl) e2917 (hwi hw 3 rfl) (hwi hw 4 rfl) (hwi hw 5 rfl) (hwi hw 6 rfl) [(.int ch2938)] [(.ref a2917), (.ref a2917)] rfl (rm_cvalueOf hw ch2938 _ O2937 lc2938 cz SCS hcz) (hb hby at_89) rfl (lenOf pd_36 rfl) (by decide) (by decide) (Nat.le_of_ble_eq_true rfl) (by decide) (by decide) ?_
      rintro v2939 T2939 h2939 L2939 X2939 e2939 ⟨a2939, b2939, k2939, rfl, N2939, K2939, ga2939, gb2939, nn2939, E2939, Fv2939, Fc2939, V2939⟩
      have N2939a := Fr.app N2763a N2939
      have F2940 := (Exa.ext E2917 F2918)
      have F2944 := (Exa.ext E2917 F2920)
      have F2948 := (Exa.ext E2917 F2922)
      have F2950 := (Exa.ext E2917 E2763)
      have F2957 := (Arv.ext F2925 E2917)
      have F2959 := (Arv.ext V2763 E2917)
      have C2974 : CHr Z own_EL T1464.vm h2917 T1464.vm h2939 := CHr.keep K2939 sf0 H2936.1
      have hk := Nat.le_trans hk C2974.2.1
      have H2974 := H2936.trans C2974
      have O2975 : Ext Z.heap h2939 := xk O2937 K2939 all0
      show Ends p e below _ T2939 (mkF m 92 #[iv i0, iv i1, iv i2, iv i3, iv (i0 &&& (3 : Int32)), iv (i1 &&& (3 : Int32)), rv a1406, rv a1433, rv a1479, rv a2763, .unset] [(.ref a2939), (.ref a2917), (.ref a2917)])
      refine go (fun _ => XS.iloadN X2939.here hx rfl (hb hby at_92) rfl) ?_
      refine go (fun _ => XT.bipushV X2939.here hx rfl (8 : Int32) (hb hby at_93) (by decide)) ?_
      refine go (fun _ => XT.iushr X2939.here hx rfl (hb hby at_95) rfl) ?_
      refine go (fun _ => XT.sipushV X2939.here hx rfl (255 : Int32) (hb hby at_96) (by decide)) ?_
      refine go (fun _ => XS.iand X2939.here hx rfl (hb hby at_99) rfl) ?_
      refine go (fun _ => XT.i2c X2939.here hx rfl (hb hby at_100) rfl) ?_
      show Ends p e below _ T2939 (mkF m 101 #[iv i0, iv i1, iv i2, iv i3, iv (i0 &&& (3 : Int32)), iv (i1 &&& (3 : Int32)), rv a1406, rv a1433, rv a1479, rv a2763, .unset] [(.int ((XT.ushr i3 (8 : Int32)) &&& (255 : Int32)).toUInt32.toUInt16.toUInt32.toInt32), (.ref a2939), (.ref a2917), (.ref a2917)])
      obtain ⟨ch2976, hch2976⟩ : ∃ z : Int32, z = ((XT.ushr i3 (8 : Int32)) &&& (255 : Int32)).toUInt32.toUInt16.toUInt32.toInt32 := ⟨_, rfl⟩
      have lc2976 : ¬ (255 : Int32) < ch2976 := by rw [hch2976]; exact (own_ch _).1
      rw [← hch2976]
      show Ends p e below _ T2939 (mkF m 101 #[iv i0, iv i1, iv i2, iv i3, iv (i0 &&& (3 : Int32)), iv (i1 &&& (3 : Int32)), rv a1406, rv a1433, rv a1479, rv a2763, .unset] [(.int ch2976), (.ref a2939), (.ref a2917), (.ref a2917)])
      refine cStat X2939 hx hZ hown (by rw [hml]; rfl) e2939 (hwi hw 3 rfl) (hwi hw 4 rfl) (hwi hw 5 rfl) (hwi hw 6 rfl) [(.int ch2976)] [(.ref a2939), (.ref a2917), (.ref a2917)] rfl (rm_cvalueOf hw ch2976 _ O2975 lc2976 cz SCS hcz) (hb hby at_101) rfl (lenOf pd_36 rfl) (by decide) (by decide) (Nat.le_of_ble_eq_true rfl) (by decide) (by decide) ?_
      rintro v2977 T2977 h2977 L2977 X2977 e2977 ⟨a2977, b2977, k2977, rfl, N2977, K2977, ga2977, gb2977, nn2977, E2977, Fv2977, Fc2977, V2977⟩
      have N2977a := Fr.app N2939a N2977
      have F2978 := (Exa.keep F2940 K2939)
      have F2982 := (Exa.keep F2944 K2939)
      have F2986 := (Exa.keep F2948 K2939)
      have F2988 := (Exa.keep F2950 K2939)
      have F2990 := (Exa.keep A2917 K2939)
      have F2997 := (Arv.keep F2957 K2939 nin0)
      have F2999 := (Arv.keep F2959 K2939 nin0)
      have C3017 : CHr Z own_EL T1464.vm h2939 T1464.vm h2977 := CHr.keep K2977 sf0 H2974.1
      have hk := Nat.le_trans hk C3017.2.1
      have H3017 := H2974.trans C3017
      have O3018 : Ext Z.heap h2977 := xk O2975 K2977 all0
      show Ends p e below _ T2977 (mkF m 104 #[iv i0, iv i1, iv i2, iv i3, iv (i0 &&& (3 : Int32)), iv (i1 &&& (3 : Int32)), rv a1406, rv a1433, rv a1479, rv a2763, .unset] [(.ref a2977), (.ref a2939), (.ref a2917), (.ref a2917)])
      refine go (fun _ => XS.aload X2977.here hx rfl (hb hby at_104) rfl rfl) ?_
      refine go (fun _ => XS.aload X2977.here hx rfl (hb hby at_106) rfl rfl) ?_
      show Ends p e below _ T2977 (mkF m 108 #[iv i0, iv i1, iv i2, iv i3, iv (i0 &&& (3 : Int32)), iv (i1 &&& (3 : Int32)), rv a1406, rv a1433, rv a1479, rv a2763, .unset] [(.ref a2763), (.ref a1479), (.ref a2977), (.ref a2939), (.ref a2917), (.ref a2917)])
      have F3019 := (Exa.keep F2986 K2977)
      have F3020 := (Fld.keep (Fld.keep (Fld.ext E2917 (Fld.keep F21479 K2763 nin0)) K2939 nin0) K2977 nin0)
      have F3021 := (Fld.keep (Fld.keep (Fld.ext E2917 (Fld.keep F31479 K2763 nin0)) K2939 nin0) K2977 nin0)
      have F3022 := (Arv.keep F2997 K2977 nin0)
      have F3023 := (Exa.keep F2988 K2977)
      have F3024 := (Fld.keep (Fld.keep (Fld.ext E2917 F22763) K2939 nin0) K2977 nin0)
      have F3025 := (Fld.keep (Fld.keep (Fld.ext E2917 F32763) K2939 nin0) K2977 nin0)
      have F3026 := (Arv.keep F2999 K2977 nin0)
      have F3027 := (Exa.keep F2990 K2977)
      have F3028 := (Fld.keep (Fld.keep (D2917 (Or.inr (hwi hw 207 rfl)) (ty := (.object "java/lang/String")) (by decide)) K2939 nin0) K2977 nin0)
      have F3029 := (Fld.keep (Fld.keep (D2917 (Or.inr (hwi hw 209 rfl)) (ty := (.object "java/lang/String")) (by decide)) K2939 nin0) K2977 nin0)
      have F3030 := (Fld.keep (Fld.keep (D2917 (Or.inr (hwi hw 211 rfl)) (ty := (.object "java/util/List")) (by decide)) K2939 nin0) K2977 nin0)
      have F3031 := (Fld.keep (Fld.keep (D2917 (Or.inr (hwi hw 213 rfl)) (ty := (.object "java/util/List")) (by decide)) K2939 nin0) K2977 nin0)
      have F3032 := (Exa.keep F2978 K2977)
      have F3033 := (Exa.keep F2982 K2977)
      refine cInit X2977 hx hZ hown (by rw [hml]; rfl) e2977 (hwi hw 110 rfl) (hwi hw 111 rfl) (hwi hw 109 rfl) (hwi hw 112 rfl) a2917 [(.ref a2939), (.ref a2977), (.ref a1479), (.ref a2763)] [(.ref a2917)] rfl (rm_tab_2_1 hw a2917 a2939 a2977 a1479 a2763 a1406 a1433 b1479 k1479 b2763 k2763 mr aL aN aE kN _ O3018 f2917 F3027 F3028 F3029 F3030 F3031 MM SL XL FL VN SE F3032 F3033 F3019 F3020 F3021 O1479 F3022 F3023 F3024 F3025 O2763 F3026 (Ne.symm n2926) (Ne.symm n2928)) (hb hby at_108) rfl (lenOf pd_39 rfl) rfl (by decide) (by decide) (Nat.le_of_ble_eq_true rfl) (by decide) (by decide) ?_
      rintro v3034 T3034 h3034 L3034 X3034 e3034 ⟨o3034, rfl, N3034, K3034, g3034, F3034, E3034⟩
      have N3034a := Fr.app N2977a N3034
      have F3058 := (Safe.keep K2977 sf0 H2974.1 (Safe.keep K2939 sf0 H2936.1 SF2917))
      have sf3057 : ∀ x ∈ [a2917], Safe Z own_EL T1464.vm h2977 x := (sfS F3058 sf0)
      have C3057 : CHr Z own_EL T1464.vm h2977 T1464.vm h3034 := CHr.keep K3034 sf3057 H3017.1
      have hk := Nat.le_trans hk C3057.2.1
      have H3057 := H3017.trans C3057
      show Ends p e below _ T3034 (mkF m 111 #[iv i0, iv i1, iv i2, iv i3, iv (i0 &&& (3 : Int32)), iv (i1 &&& (3 : Int32)), rv a1406, rv a1433, rv a1479, rv a2763, .unset] [(.ref a2917)])
      refine go (fun _ => XS.astore X3034.here hx rfl (hb hby at_111) rfl rfl (l' := #[iv i0, iv i1, iv i2, iv i3, iv (i0 &&& (3 : Int32)), iv (i1 &&& (3 : Int32)), rv a1406, rv a1433, rv a1479, rv a2763, rv a2917]) rfl) ?_
      refine go (fun _ => XS.aload X3034.here hx rfl (hb hby at_113) rfl rfl) ?_
      show Ends p e below _ T3034 (mkF m 115 #[iv i0, iv i1, iv i2, iv i3, iv (i0 &&& (3 : Int32)), iv (i1 &&& (3 : Int32)), rv a1406, rv a1433, rv a1479, rv a2763, rv a2917] [(.ref a2917)])
      have F3061 := (Exa.keep F3027 K3034)
      refine cVirt X3034 hx hZ hown (by rw [hml]; rfl) e3034 (hwi hw 214 rfl) (hwi hw 215 rfl) (hwi hw 217 rfl) (hwi hw 216 rfl) (hwi hw 109 rfl) (hwi hw 218 rfl) (notFace_of_selects (args := #[]) (mvT hZ (hwi hw 217 rfl))) a2917 F3061 [] [] rfl (rm_hp_1 hw a2917 o3034 _ F3034 E3034) (hb hby at_115) rfl (lenOf pd_23 rfl) (by decide) (by decide) (Nat.le_of_ble_eq_true rfl) (by decide) (by decide) ?_
      rintro v3060 T3060 h3060 L3060 X3060 e3060 ⟨rfl, N3060, rfl⟩
      have N3060a := Fr.app N3034a N3060
      show Ends p e below _ T3060 (mkF m 118 #[iv i0, iv i1, iv i2, iv i3, iv (i0 &&& (3 : Int32)), iv (i1 &&& (3 : Int32)), rv a1406, rv a1433, rv a1479, rv a2763, rv a2917] [(.int (1 : Int32))])
      refine go (fun _ => XS.iload X3060.here hx rfl (hb hby at_118) rfl) ?_
      show Ends p e below _ T3060 (mkF m 120 #[iv i0, iv i1, iv i2, iv i3, iv (i0 &&& (3 : Int32)), iv (i1 &&& (3 : Int32)), rv a1406, rv a1433, rv a1479, rv a2763, rv a2917] [(.int (i0 &&& (3 : Int32))), (.int (1 : Int32))])
      refine go (fun _ => XS.ifNo X3060.here hx rfl (hb hby at_120) rfl (XT.i0_eq_f ((by rw [c2763]; decide) : ¬ ((i0 &&& (3 : Int32)) = (0 : Int32))))) ?_
      show Ends p e below _ T3060 (mkF m 123 #[iv i0, iv i1, iv i2, iv i3, iv (i0 &&& (3 : Int32)), iv (i1 &&& (3 : Int32)), rv a1406, rv a1433, rv a1479, rv a2763, rv a2917] [(.int (1 : Int32))])
      refine go (fun _ => XT.iconstV X3060.here hx rfl (1 : Int32) (hb hby at_123) (by decide)) ?_
      refine go (fun _ => XS.goto X3060.here hx rfl (pc0 := 124) (pc' := 128) rfl (hb hby at_124) (by decide) (by decide)) ?_
      show Ends p e below _ T3060 (mkF m 128 #[iv i0, iv i1, iv i2, iv i3, iv (i0 &&& (3 : Int32)), iv (i1 &&& (3 : Int32)), rv a1406, rv a1433, rv a1479, rv a2763, rv a2917] [(.int (1 : Int32)), (.int (1 : Int32))])
      refine go (fun _ => XS.icmpNo X3060.here hx rfl (hb hby at_128) rfl (XT.ii_ne_f ((by decide) : (1 : Int32) = (1 : Int32)))) ?_
      show Ends p e below _ T3060 (mkF m 131 #[iv i0, iv i1, iv i2, iv i3, iv (i0 &&& (3 : Int32)), iv (i1 &&& (3 : Int32)), rv a1406, rv a1433, rv a1479, rv a2763, rv a2917] [])
      refine go (fun _ => XT.iconstV X3060.here hx rfl (1 : Int32) (hb hby at_131) (by decide)) ?_
      refine go (fun _ => XS.goto X3060.here hx rfl (pc0 := 132) (pc' := 136) rfl (hb hby at_132) (by decide) (by decide)) ?_
      show Ends p e below _ T3060 (mkF m 136 #[iv i0, iv i1, iv i2, iv i3, iv (i0 &&& (3 : Int32)), iv (i1 &&& (3 : Int32)), rv a1406, rv a1433, rv a1479, rv a2763, rv a2917] [(.int (1 : Int32))])
      exact endN X3060 hx hret (by simp) (hb hby at_136) (lvW X3060 hlk hZ (own_EW hw) hs0 hS hk H3057 e3060 (fun h => by rw [hret] at h; cases h) ⟨rfl, N3060a⟩ (by decide) (by decide))
    · have N2763a := Fr.app N1479a N2763
      have C3084 : CHr Z own_EL T1464.vm h1479 T1464.vm h2763 := CHr.keep K2763 sf0 H2759.1
      have hk := Nat.le_trans hk C3084.2.1
      have H3084 := H2759.trans C3084
      have O3085 : Ext Z.heap h2763 := xk O2760 K2763 all0
      show Ends p e below _ T2763 (mkF m 74 #[iv i0, iv i1, iv i2, iv i3, iv (i0 &&& (3 : Int32)), iv (i1 &&& (3 : Int32)), rv a1406, rv a1433, rv a1479, .unset, .unset] [(.ref a2763)])
      refine go (fun _ => XS.astore X2763.here hx rfl (hb hby at_74) rfl rfl (l' := #[iv i0, iv i1, iv i2, iv i3, iv (i0 &&& (3 : Int32)), iv (i1 &&& (3 : Int32)), rv a1406, rv a1433, rv a1479, rv a2763, .unset]) rfl) ?_
      show Ends p e below _ T2763 (mkF m 76 #[iv i0, iv i1, iv i2, iv i3, iv (i0 &&& (3 : Int32)), iv (i1 &&& (3 : Int32)), rv a1406, rv a1433, rv a1479, rv a2763, .unset] [])
      obtain ⟨T3086, h3086, X3086, e3086, E3086, A3086, D3086, U3086, s3086⟩ := newO X2763 hx hZ hown (hwi hw 107 rfl) (hwi hw 108 rfl) (hwi hw 109 rfl) e2763 (g := (mkF m 76 #[iv i0, iv i1, iv i2, iv i3, iv (i0 &&& (3 : Int32)), iv (i1 &&& (3 : Int32)), rv a1406, rv a1433, rv a1479, rv a2763, .unset] [])) rfl (hb hby at_76) (by decide) (by decide)
      have F3087 := (Exa.keep F2762 K2763)
      have F3089 := (Exa.keep F2761 K2763)
      have F3091 := (Exa.keep E1479 K2763)
      have F3094 := (Arv.keep V1479 K2763 nin0)
      obtain ⟨a3086, g3086⟩ : ∃ z : Addr, z = h2763.size := ⟨_, rfl⟩
      have n3095 : a1406 ≠ a3086 := fun q => absurd (F3087.lt) (by rw [q, g3086]; exact Nat.lt_irrefl _)
      have n3097 : a1433 ≠ a3086 := fun q => absurd (F3089.lt) (by rw [q, g3086]; exact Nat.lt_irrefl _)
      have f3086 : Z.heap.size ≤ a3086 := by rw [g3086]; exact (O3085).1
      rw [← g3086] at A3086 D3086 U3086 s3086
      have C3105 : CHr Z own_EL T1464.vm h2763 T1464.vm h3086 := CHr.ext E3086 H3084.1
      have hk := Nat.le_trans hk C3105.2.1
      have H3105 := H3084.trans C3105
      have O3106 : Ext Z.heap h3086 := xx O3085 E3086
      have SF3086 : Safe Z own_EL T1464.vm h3086 a3086 := Safe.ext E3086 H3084.1 (Safe.new (by rw [g3086]; exact Nat.le_refl _))
      refine go s3086 ?_
      show Ends p e below _ T3086 (mkF m 79 #[iv i0, iv i1, iv i2, iv i3, iv (i0 &&& (3 : Int32)), iv (i1 &&& (3 : Int32)), rv a1406, rv a1433, rv a1479, rv a2763, .unset] [(.ref a3086)])
      refine go (fun _ => XS.dup X3086.here hx rfl (hb hby at_79) rfl rfl) ?_
      refine go (fun _ => XS.iloadN X3086.here hx rfl (hb hby at_80) rfl) ?_
      refine go (fun _ => XT.bipushV X3086.here hx rfl (8 : Int32) (hb hby at_81) (by decide)) ?_
      refine go (fun _ => XT.iushr X3086.here hx rfl (hb hby at_83) rfl) ?_
      refine go (fun _ => XT.sipushV X3086.here hx rfl (255 : Int32) (hb hby at_84) (by decide)) ?_
      refine go (fun _ => XS.iand X3086.here hx rfl (hb hby at_87) rfl) ?_
      show Ends p e below _ T3086 (mkF m 88 #[iv i0, iv i1, iv i2, iv i3, iv (i0 &&& (3 : Int32)), iv (i1 &&& (3 : Int32)), rv a1406, rv a1433, rv a1479, rv a2763, .unset] [(.int ((XT.ushr i2 (8 : Int32)) &&& (255 : Int32))), (.ref a3086), (.ref a3086)])
      refine go (fun _ => XT.i2c X3086.here hx rfl (hb hby at_88) rfl) ?_
      show Ends p e below _ T3086 (mkF m 89 #[iv i0, iv i1, iv i2, iv i3, iv (i0 &&& (3 : Int32)), iv (i1 &&& (3 : Int32)), rv a1406, rv a1433, rv a1479, rv a2763, .unset] [(.int ((XT.ushr i2 (8 : Int32)) &&& (255 : Int32)).toUInt32.toUInt16.toUInt32.toInt32), (.ref a3086), (.ref a3086)])
      obtain ⟨ch3107, hch3107⟩ : ∃ z : Int32, z = ((XT.ushr i2 (8 : Int32)) &&& (255 : Int32)).toUInt32.toUInt16.toUInt32.toInt32 := ⟨_, rfl⟩
      have lc3107 : ¬ (255 : Int32) < ch3107 := by rw [hch3107]; exact (own_ch _).1
      rw [← hch3107]
      show Ends p e below _ T3086 (mkF m 89 #[iv i0, iv i1, iv i2, iv i3, iv (i0 &&& (3 : Int32)), iv (i1 &&& (3 : Int32)), rv a1406, rv a1433, rv a1479, rv a2763, .unset] [(.int ch3107), (.ref a3086), (.ref a3086)])
      refine cStat X3086 hx hZ hown (by rw [hml]; rfl) e3086 (hwi hw 3 rfl) (hwi hw 4 rfl) (hwi hw 5 rfl) (hwi hw 6 rfl) [(.int ch3107)] [(.ref a3086), (.ref a3086)] rfl (rm_cvalueOf hw ch3107 _ O3106 lc3107 cz SCS hcz) (hb hby at_89) rfl (lenOf pd_36 rfl) (by decide) (by decide) (Nat.le_of_ble_eq_true rfl) (by decide) (by decide) ?_
      rintro v3108 T3108 h3108 L3108 X3108 e3108 ⟨a3108, b3108, k3108, rfl, N3108, K3108, ga3108, gb3108, nn3108, E3108, Fv3108, Fc3108, V3108⟩
      have N3108a := Fr.app N2763a N3108
      have F3109 := (Exa.ext E3086 F3087)
      have F3113 := (Exa.ext E3086 F3089)
      have F3117 := (Exa.ext E3086 F3091)
      have F3119 := (Exa.ext E3086 E2763)
      have F3126 := (Arv.ext F3094 E3086)
      have F3128 := (Arv.ext V2763 E3086)
      have C3143 : CHr Z own_EL T1464.vm h3086 T1464.vm h3108 := CHr.keep K3108 sf0 H3105.1
      have hk := Nat.le_trans hk C3143.2.1
      have H3143 := H3105.trans C3143
      have O3144 : Ext Z.heap h3108 := xk O3106 K3108 all0
      show Ends p e below _ T3108 (mkF m 92 #[iv i0, iv i1, iv i2, iv i3, iv (i0 &&& (3 : Int32)), iv (i1 &&& (3 : Int32)), rv a1406, rv a1433, rv a1479, rv a2763, .unset] [(.ref a3108), (.ref a3086), (.ref a3086)])
      refine go (fun _ => XS.iloadN X3108.here hx rfl (hb hby at_92) rfl) ?_
      refine go (fun _ => XT.bipushV X3108.here hx rfl (8 : Int32) (hb hby at_93) (by decide)) ?_
      refine go (fun _ => XT.iushr X3108.here hx rfl (hb hby at_95) rfl) ?_
      refine go (fun _ => XT.sipushV X3108.here hx rfl (255 : Int32) (hb hby at_96) (by decide)) ?_
      refine go (fun _ => XS.iand X3108.here hx rfl (hb hby at_99) rfl) ?_
      refine go (fun _ => XT.i2c X3108.here hx rfl (hb hby at_100) rfl) ?_
      show Ends p e below _ T3108 (mkF m 101 #[iv i0, iv i1, iv i2, iv i3, iv (i0 &&& (3 : Int32)), iv (i1 &&& (3 : Int32)), rv a1406, rv a1433, rv a1479, rv a2763, .unset] [(.int ((XT.ushr i3 (8 : Int32)) &&& (255 : Int32)).toUInt32.toUInt16.toUInt32.toInt32), (.ref a3108), (.ref a3086), (.ref a3086)])
      obtain ⟨ch3145, hch3145⟩ : ∃ z : Int32, z = ((XT.ushr i3 (8 : Int32)) &&& (255 : Int32)).toUInt32.toUInt16.toUInt32.toInt32 := ⟨_, rfl⟩
      have lc3145 : ¬ (255 : Int32) < ch3145 := by rw [hch3145]; exact (own_ch _).1
      rw [← hch3145]
      show Ends p e below _ T3108 (mkF m 101 #[iv i0, iv i1, iv i2, iv i3, iv (i0 &&& (3 : Int32)), iv (i1 &&& (3 : Int32)), rv a1406, rv a1433, rv a1479, rv a2763, .unset] [(.int ch3145), (.ref a3108), (.ref a3086), (.ref a3086)])
      refine cStat X3108 hx hZ hown (by rw [hml]; rfl) e3108 (hwi hw 3 rfl) (hwi hw 4 rfl) (hwi hw 5 rfl) (hwi hw 6 rfl) [(.int ch3145)] [(.ref a3108), (.ref a3086), (.ref a3086)] rfl (rm_cvalueOf hw ch3145 _ O3144 lc3145 cz SCS hcz) (hb hby at_101) rfl (lenOf pd_36 rfl) (by decide) (by decide) (Nat.le_of_ble_eq_true rfl) (by decide) (by decide) ?_
      rintro v3146 T3146 h3146 L3146 X3146 e3146 ⟨a3146, b3146, k3146, rfl, N3146, K3146, ga3146, gb3146, nn3146, E3146, Fv3146, Fc3146, V3146⟩
      have N3146a := Fr.app N3108a N3146
      have F3147 := (Exa.keep F3109 K3108)
      have F3151 := (Exa.keep F3113 K3108)
      have F3155 := (Exa.keep F3117 K3108)
      have F3157 := (Exa.keep F3119 K3108)
      have F3159 := (Exa.keep A3086 K3108)
      have F3166 := (Arv.keep F3126 K3108 nin0)
      have F3168 := (Arv.keep F3128 K3108 nin0)
      have C3186 : CHr Z own_EL T1464.vm h3108 T1464.vm h3146 := CHr.keep K3146 sf0 H3143.1
      have hk := Nat.le_trans hk C3186.2.1
      have H3186 := H3143.trans C3186
      have O3187 : Ext Z.heap h3146 := xk O3144 K3146 all0
      show Ends p e below _ T3146 (mkF m 104 #[iv i0, iv i1, iv i2, iv i3, iv (i0 &&& (3 : Int32)), iv (i1 &&& (3 : Int32)), rv a1406, rv a1433, rv a1479, rv a2763, .unset] [(.ref a3146), (.ref a3108), (.ref a3086), (.ref a3086)])
      refine go (fun _ => XS.aload X3146.here hx rfl (hb hby at_104) rfl rfl) ?_
      refine go (fun _ => XS.aload X3146.here hx rfl (hb hby at_106) rfl rfl) ?_
      show Ends p e below _ T3146 (mkF m 108 #[iv i0, iv i1, iv i2, iv i3, iv (i0 &&& (3 : Int32)), iv (i1 &&& (3 : Int32)), rv a1406, rv a1433, rv a1479, rv a2763, .unset] [(.ref a2763), (.ref a1479), (.ref a3146), (.ref a3108), (.ref a3086), (.ref a3086)])
      have F3188 := (Exa.keep F3155 K3146)
      have F3189 := (Fld.keep (Fld.keep (Fld.ext E3086 (Fld.keep F21479 K2763 nin0)) K3108 nin0) K3146 nin0)
      have F3190 := (Fld.keep (Fld.keep (Fld.ext E3086 (Fld.keep F31479 K2763 nin0)) K3108 nin0) K3146 nin0)
      have F3191 := (Arv.keep F3166 K3146 nin0)
      have F3192 := (Exa.keep F3157 K3146)
      have F3193 := (Fld.keep (Fld.keep (Fld.ext E3086 F22763) K3108 nin0) K3146 nin0)
      have F3194 := (Fld.keep (Fld.keep (Fld.ext E3086 F32763) K3108 nin0) K3146 nin0)
      have F3195 := (Arv.keep F3168 K3146 nin0)
      have F3196 := (Exa.keep F3159 K3146)
      have F3197 := (Fld.keep (Fld.keep (D3086 (Or.inr (hwi hw 207 rfl)) (ty := (.object "java/lang/String")) (by decide)) K3108 nin0) K3146 nin0)
      have F3198 := (Fld.keep (Fld.keep (D3086 (Or.inr (hwi hw 209 rfl)) (ty := (.object "java/lang/String")) (by decide)) K3108 nin0) K3146 nin0)
      have F3199 := (Fld.keep (Fld.keep (D3086 (Or.inr (hwi hw 211 rfl)) (ty := (.object "java/util/List")) (by decide)) K3108 nin0) K3146 nin0)
      have F3200 := (Fld.keep (Fld.keep (D3086 (Or.inr (hwi hw 213 rfl)) (ty := (.object "java/util/List")) (by decide)) K3108 nin0) K3146 nin0)
      have F3201 := (Exa.keep F3147 K3146)
      have F3202 := (Exa.keep F3151 K3146)
      refine cInit X3146 hx hZ hown (by rw [hml]; rfl) e3146 (hwi hw 110 rfl) (hwi hw 111 rfl) (hwi hw 109 rfl) (hwi hw 112 rfl) a3086 [(.ref a3108), (.ref a3146), (.ref a1479), (.ref a2763)] [(.ref a3086)] rfl (rm_tab_2_2 hw a3086 a3108 a3146 a1479 a2763 a1406 a1433 b1479 k1479 b2763 k2763 mr aL aN aE kN _ O3187 f3086 F3196 F3197 F3198 F3199 F3200 MM SL XL FL VN SE F3201 F3202 F3188 F3189 F3190 O1479 F3191 F3192 F3193 F3194 O2763 F3195 (Ne.symm n3095) (Ne.symm n3097)) (hb hby at_108) rfl (lenOf pd_39 rfl) rfl (by decide) (by decide) (Nat.le_of_ble_eq_true rfl) (by decide) (by decide) ?_
      rintro v3203 T3203 h3203 L3203 X3203 e3203 ⟨o3203, rfl, N3203, K3203, g3203, F3203, E3203⟩
      have N3203a := Fr.app N3146a N3203
      have F3227 := (Safe.keep K3146 sf0 H3143.1 (Safe.keep K3108 sf0 H3105.1 SF3086))
      have sf3226 : ∀ x ∈ [a3086], Safe Z own_EL T1464.vm h3146 x := (sfS F3227 sf0)
      have C3226 : CHr Z own_EL T1464.vm h3146 T1464.vm h3203 := CHr.keep K3203 sf3226 H3186.1
      have hk := Nat.le_trans hk C3226.2.1
      have H3226 := H3186.trans C3226
      show Ends p e below _ T3203 (mkF m 111 #[iv i0, iv i1, iv i2, iv i3, iv (i0 &&& (3 : Int32)), iv (i1 &&& (3 : Int32)), rv a1406, rv a1433, rv a1479, rv a2763, .unset] [(.ref a3086)])
      refine go (fun _ => XS.astore X3203.here hx rfl (hb hby at_111) rfl rfl (l' := #[iv i0, iv i1, iv i2, iv i3, iv (i0 &&& (3 : Int32)), iv (i1 &&& (3 : Int32)), rv a1406, rv a1433, rv a1479, rv a2763, rv a3086]) rfl) ?_
      refine go (fun _ => XS.aload X3203.here hx rfl (hb hby at_113) rfl rfl) ?_
      show Ends p e below _ T3203 (mkF m 115 #[iv i0, iv i1, iv i2, iv i3, iv (i0 &&& (3 : Int32)), iv (i1 &&& (3 : Int32)), rv a1406, rv a1433, rv a1479, rv a2763, rv a3086] [(.ref a3086)])
      have F3230 := (Exa.keep F3196 K3203)
      refine cVirt X3203 hx hZ hown (by rw [hml]; rfl) e3203 (hwi hw 214 rfl) (hwi hw 215 rfl) (hwi hw 217 rfl) (hwi hw 216 rfl) (hwi hw 109 rfl) (hwi hw 218 rfl) (notFace_of_selects (args := #[]) (mvT hZ (hwi hw 217 rfl))) a3086 F3230 [] [] rfl (rm_hp_1 hw a3086 o3203 _ F3203 E3203) (hb hby at_115) rfl (lenOf pd_23 rfl) (by decide) (by decide) (Nat.le_of_ble_eq_true rfl) (by decide) (by decide) ?_
      rintro v3229 T3229 h3229 L3229 X3229 e3229 ⟨rfl, N3229, rfl⟩
      have N3229a := Fr.app N3203a N3229
      show Ends p e below _ T3229 (mkF m 118 #[iv i0, iv i1, iv i2, iv i3, iv (i0 &&& (3 : Int32)), iv (i1 &&& (3 : Int32)), rv a1406, rv a1433, rv a1479, rv a2763, rv a3086] [(.int (1 : Int32))])
      refine go (fun _ => XS.iload X3229.here hx rfl (hb hby at_118) rfl) ?_
      show Ends p e below _ T3229 (mkF m 120 #[iv i0, iv i1, iv i2, iv i3, iv (i0 &&& (3 : Int32)), iv (i1 &&& (3 : Int32)), rv a1406, rv a1433, rv a1479, rv a2763, rv a3086] [(.int (i0 &&& (3 : Int32))), (.int (1 : Int32))])
      refine go (fun _ => XS.ifNo X3229.here hx rfl (hb hby at_120) rfl (XT.i0_eq_f ((by rw [c2763]; decide) : ¬ ((i0 &&& (3 : Int32)) = (0 : Int32))))) ?_
      show Ends p e below _ T3229 (mkF m 123 #[iv i0, iv i1, iv i2, iv i3, iv (i0 &&& (3 : Int32)), iv (i1 &&& (3 : Int32)), rv a1406, rv a1433, rv a1479, rv a2763, rv a3086] [(.int (1 : Int32))])
      refine go (fun _ => XT.iconstV X3229.here hx rfl (1 : Int32) (hb hby at_123) (by decide)) ?_
      refine go (fun _ => XS.goto X3229.here hx rfl (pc0 := 124) (pc' := 128) rfl (hb hby at_124) (by decide) (by decide)) ?_
      show Ends p e below _ T3229 (mkF m 128 #[iv i0, iv i1, iv i2, iv i3, iv (i0 &&& (3 : Int32)), iv (i1 &&& (3 : Int32)), rv a1406, rv a1433, rv a1479, rv a2763, rv a3086] [(.int (1 : Int32)), (.int (1 : Int32))])
      refine go (fun _ => XS.icmpNo X3229.here hx rfl (hb hby at_128) rfl (XT.ii_ne_f ((by decide) : (1 : Int32) = (1 : Int32)))) ?_
      show Ends p e below _ T3229 (mkF m 131 #[iv i0, iv i1, iv i2, iv i3, iv (i0 &&& (3 : Int32)), iv (i1 &&& (3 : Int32)), rv a1406, rv a1433, rv a1479, rv a2763, rv a3086] [])
      refine go (fun _ => XT.iconstV X3229.here hx rfl (1 : Int32) (hb hby at_131) (by decide)) ?_
      refine go (fun _ => XS.goto X3229.here hx rfl (pc0 := 132) (pc' := 136) rfl (hb hby at_132) (by decide) (by decide)) ?_
      show Ends p e below _ T3229 (mkF m 136 #[iv i0, iv i1, iv i2, iv i3, iv (i0 &&& (3 : Int32)), iv (i1 &&& (3 : Int32)), rv a1406, rv a1433, rv a1479, rv a2763, rv a3086] [(.int (1 : Int32))])
      exact endN X3229 hx hret (by simp) (hb hby at_136) (lvW X3229 hlk hZ (own_EW hw) hs0 hS hk H3226 e3229 (fun h => by rw [hret] at h; cases h) ⟨rfl, N3229a⟩ (by decide) (by decide))
    · have N2763a := Fr.app N1479a N2763
      have C3253 : CHr Z own_EL T1464.vm h1479 T1464.vm h2763 := CHr.keep K2763 sf0 H2759.1
      have hk := Nat.le_trans hk C3253.2.1
      have H3253 := H2759.trans C3253
      have O3254 : Ext Z.heap h2763 := xk O2760 K2763 all0
      show Ends p e below _ T2763 (mkF m 74 #[iv i0, iv i1, iv i2, iv i3, iv (i0 &&& (3 : Int32)), iv (i1 &&& (3 : Int32)), rv a1406, rv a1433, rv a1479, .unset, .unset] [(.ref a2763)])
      refine go (fun _ => XS.astore X2763.here hx rfl (hb hby at_74) rfl rfl (l' := #[iv i0, iv i1, iv i2, iv i3, iv (i0 &&& (3 : Int32)), iv (i1 &&& (3 : Int32)), rv a1406, rv a1433, rv a1479, rv a2763, .unset]) rfl) ?_
      show Ends p e below _ T2763 (mkF m 76 #[iv i0, iv i1, iv i2, iv i3, iv (i0 &&& (3 : Int32)), iv (i1 &&& (3 : Int32)), rv a1406, rv a1433, rv a1479, rv a2763, .unset] [])
      obtain ⟨T3255, h3255, X3255, e3255, E3255, A3255, D3255, U3255, s3255⟩ := newO X2763 hx hZ hown (hwi hw 107 rfl) (hwi hw 108 rfl) (hwi hw 109 rfl) e2763 (g := (mkF m 76 #[iv i0, iv i1, iv i2, iv i3, iv (i0 &&& (3 : Int32)), iv (i1 &&& (3 : Int32)), rv a1406, rv a1433, rv a1479, rv a2763, .unset] [])) rfl (hb hby at_76) (by decide) (by decide)
      have F3256 := (Exa.keep F2762 K2763)
      have F3258 := (Exa.keep F2761 K2763)
      have F3260 := (Exa.keep E1479 K2763)
      have F3263 := (Arv.keep V1479 K2763 nin0)
      obtain ⟨a3255, g3255⟩ : ∃ z : Addr, z = h2763.size := ⟨_, rfl⟩
      have n3264 : a1406 ≠ a3255 := fun q => absurd (F3256.lt) (by rw [q, g3255]; exact Nat.lt_irrefl _)
      have n3266 : a1433 ≠ a3255 := fun q => absurd (F3258.lt) (by rw [q, g3255]; exact Nat.lt_irrefl _)
      have f3255 : Z.heap.size ≤ a3255 := by rw [g3255]; exact (O3254).1
      rw [← g3255] at A3255 D3255 U3255 s3255
      have C3274 : CHr Z own_EL T1464.vm h2763 T1464.vm h3255 := CHr.ext E3255 H3253.1
      have hk := Nat.le_trans hk C3274.2.1
      have H3274 := H3253.trans C3274
      have O3275 : Ext Z.heap h3255 := xx O3254 E3255
      have SF3255 : Safe Z own_EL T1464.vm h3255 a3255 := Safe.ext E3255 H3253.1 (Safe.new (by rw [g3255]; exact Nat.le_refl _))
      refine go s3255 ?_
      show Ends p e below _ T3255 (mkF m 79 #[iv i0, iv i1, iv i2, iv i3, iv (i0 &&& (3 : Int32)), iv (i1 &&& (3 : Int32)), rv a1406, rv a1433, rv a1479, rv a2763, .unset] [(.ref a3255)])
      refine go (fun _ => XS.dup X3255.here hx rfl (hb hby at_79) rfl rfl) ?_
      refine go (fun _ => XS.iloadN X3255.here hx rfl (hb hby at_80) rfl) ?_
      refine go (fun _ => XT.bipushV X3255.here hx rfl (8 : Int32) (hb hby at_81) (by decide)) ?_
      refine go (fun _ => XT.iushr X3255.here hx rfl (hb hby at_83) rfl) ?_
      refine go (fun _ => XT.sipushV X3255.here hx rfl (255 : Int32) (hb hby at_84) (by decide)) ?_
      refine go (fun _ => XS.iand X3255.here hx rfl (hb hby at_87) rfl) ?_
      show Ends p e below _ T3255 (mkF m 88 #[iv i0, iv i1, iv i2, iv i3, iv (i0 &&& (3 : Int32)), iv (i1 &&& (3 : Int32)), rv a1406, rv a1433, rv a1479, rv a2763, .unset] [(.int ((XT.ushr i2 (8 : Int32)) &&& (255 : Int32))), (.ref a3255), (.ref a3255)])
      refine go (fun _ => XT.i2c X3255.here hx rfl (hb hby at_88) rfl) ?_
      show Ends p e below _ T3255 (mkF m 89 #[iv i0, iv i1, iv i2, iv i3, iv (i0 &&& (3 : Int32)), iv (i1 &&& (3 : Int32)), rv a1406, rv a1433, rv a1479, rv a2763, .unset] [(.int ((XT.ushr i2 (8 : Int32)) &&& (255 : Int32)).toUInt32.toUInt16.toUInt32.toInt32), (.ref a3255), (.ref a3255)])
      obtain ⟨ch3276, hch3276⟩ : ∃ z : Int32, z = ((XT.ushr i2 (8 : Int32)) &&& (255 : Int32)).toUInt32.toUInt16.toUInt32.toInt32 := ⟨_, rfl⟩
      have lc3276 : ¬ (255 : Int32) < ch3276 := by rw [hch3276]; exact (own_ch _).1
      rw [← hch3276]
      show Ends p e below _ T3255 (mkF m 89 #[iv i0, iv i1, iv i2, iv i3, iv (i0 &&& (3 : Int32)), iv (i1 &&& (3 : Int32)), rv a1406, rv a1433, rv a1479, rv a2763, .unset] [(.int ch3276), (.ref a3255), (.ref a3255)])
      refine cStat X3255 hx hZ hown (by rw [hml]; rfl) e3255 (hwi hw 3 rfl) (hwi hw 4 rfl) (hwi hw 5 rfl) (hwi hw 6 rfl) [(.int ch3276)] [(.ref a3255), (.ref a3255)] rfl (rm_cvalueOf hw ch3276 _ O3275 lc3276 cz SCS hcz) (hb hby at_89) rfl (lenOf pd_36 rfl) (by decide) (by decide) (Nat.le_of_ble_eq_true rfl) (by decide) (by decide) ?_
      rintro v3277 T3277 h3277 L3277 X3277 e3277 ⟨a3277, b3277, k3277, rfl, N3277, K3277, ga3277, gb3277, nn3277, E3277, Fv3277, Fc3277, V3277⟩
      have N3277a := Fr.app N2763a N3277
      have F3278 := (Exa.ext E3255 F3256)
      have F3282 := (Exa.ext E3255 F3258)
      have F3286 := (Exa.ext E3255 F3260)
      have F3288 := (Exa.ext E3255 E2763)
      have F3295 := (Arv.ext F3263 E3255)
      have F3297 := (Arv.ext V2763 E3255)
      have C3312 : CHr Z own_EL T1464.vm h3255 T1464.vm h3277 := CHr.keep K3277 sf0 H3274.1
      have hk := Nat.le_trans hk C3312.2.1
      have H3312 := H3274.trans C3312
      have O3313 : Ext Z.heap h3277 := xk O3275 K3277 all0
      show Ends p e below _ T3277 (mkF m 92 #[iv i0, iv i1, iv i2, iv i3, iv (i0 &&& (3 : Int32)), iv (i1 &&& (3 : Int32)), rv a1406, rv a1433, rv a1479, rv a2763, .unset] [(.ref a3277), (.ref a3255), (.ref a3255)])
      refine go (fun _ => XS.iloadN X3277.here hx rfl (hb hby at_92) rfl) ?_
      refine go (fun _ => XT.bipushV X3277.here hx rfl (8 : Int32) (hb hby at_93) (by decide)) ?_
      refine go (fun _ => XT.iushr X3277.here hx rfl (hb hby at_95) rfl) ?_
      refine go (fun _ => XT.sipushV X3277.here hx rfl (255 : Int32) (hb hby at_96) (by decide)) ?_
      refine go (fun _ => XS.iand X3277.here hx rfl (hb hby at_99) rfl) ?_
      refine go (fun _ => XT.i2c X3277.here hx rfl (hb hby at_100) rfl) ?_
      show Ends p e below _ T3277 (mkF m 101 #[iv i0, iv i1, iv i2, iv i3, iv (i0 &&& (3 : Int32)), iv (i1 &&& (3 : Int32)), rv a1406, rv a1433, rv a1479, rv a2763, .unset] [(.int ((XT.ushr i3 (8 : Int32)) &&& (255 : Int32)).toUInt32.toUInt16.toUInt32.toInt32), (.ref a3277), (.ref a3255), (.ref a3255)])
      obtain ⟨ch3314, hch3314⟩ : ∃ z : Int32, z = ((XT.ushr i3 (8 : Int32)) &&& (255 : Int32)).toUInt32.toUInt16.toUInt32.toInt32 := ⟨_, rfl⟩
      have lc3314 : ¬ (255 : Int32) < ch3314 := by rw [hch3314]; exact (own_ch _).1
      rw [← hch3314]
      show Ends p e below _ T3277 (mkF m 101 #[iv i0, iv i1, iv i2, iv i3, iv (i0 &&& (3 : Int32)), iv (i1 &&& (3 : Int32)), rv a1406, rv a1433, rv a1479, rv a2763, .unset] [(.int ch3314), (.ref a3277), (.ref a3255), (.ref a3255)])
      refine cStat X3277 hx hZ hown (by rw [hml]; rfl) e3277 (hwi hw 3 rfl) (hwi hw 4 rfl) (hwi hw 5 rfl) (hwi hw 6 rfl) [(.int ch3314)] [(.ref a3277), (.ref a3255), (.ref a3255)] rfl (rm_cvalueOf hw ch3314 _ O3313 lc3314 cz SCS hcz) (hb hby at_101) rfl (lenOf pd_36 rfl) (by decide) (by decide) (Nat.le_of_ble_eq_true rfl) (by decide) (by decide) ?_
      rintro v3315 T3315 h3315 L3315 X3315 e3315 ⟨a3315, b3315, k3315, rfl, N3315, K3315, ga3315, gb3315, nn3315, E3315, Fv3315, Fc3315, V3315⟩
      have N3315a := Fr.app N3277a N3315
      have F3316 := (Exa.keep F3278 K3277)
      have F3320 := (Exa.keep F3282 K3277)
      have F3324 := (Exa.keep F3286 K3277)
      have F3326 := (Exa.keep F3288 K3277)
      have F3328 := (Exa.keep A3255 K3277)
      have F3335 := (Arv.keep F3295 K3277 nin0)
      have F3337 := (Arv.keep F3297 K3277 nin0)
      have C3355 : CHr Z own_EL T1464.vm h3277 T1464.vm h3315 := CHr.keep K3315 sf0 H3312.1
      have hk := Nat.le_trans hk C3355.2.1
      have H3355 := H3312.trans C3355
      have O3356 : Ext Z.heap h3315 := xk O3313 K3315 all0
      show Ends p e below _ T3315 (mkF m 104 #[iv i0, iv i1, iv i2, iv i3, iv (i0 &&& (3 : Int32)), iv (i1 &&& (3 : Int32)), rv a1406, rv a1433, rv a1479, rv a2763, .unset] [(.ref a3315), (.ref a3277), (.ref a3255), (.ref a3255)])
      refine go (fun _ => XS.aload X3315.here hx rfl (hb hby at_104) rfl rfl) ?_
      refine go (fun _ => XS.aload X3315.here hx rfl (hb hby at_106) rfl rfl) ?_
      show Ends p e below _ T3315 (mkF m 108 #[iv i0, iv i1, iv i2, iv i3, iv (i0 &&& (3 : Int32)), iv (i1 &&& (3 : Int32)), rv a1406, rv a1433, rv a1479, rv a2763, .unset] [(.ref a2763), (.ref a1479), (.ref a3315), (.ref a3277), (.ref a3255), (.ref a3255)])
      have F3357 := (Exa.keep F3324 K3315)
      have F3358 := (Fld.keep (Fld.keep (Fld.ext E3255 (Fld.keep F21479 K2763 nin0)) K3277 nin0) K3315 nin0)
      have F3359 := (Fld.keep (Fld.keep (Fld.ext E3255 (Fld.keep F31479 K2763 nin0)) K3277 nin0) K3315 nin0)
      have F3360 := (Arv.keep F3335 K3315 nin0)
      have F3361 := (Exa.keep F3326 K3315)
      have F3362 := (Fld.keep (Fld.keep (Fld.ext E3255 F22763) K3277 nin0) K3315 nin0)
      have F3363 := (Fld.keep (Fld.keep (Fld.ext E3255 F32763) K3277 nin0) K3315 nin0)
      have F3364 := (Arv.keep F3337 K3315 nin0)
      have F3365 := (Exa.keep F3328 K3315)
      have F3366 := (Fld.keep (Fld.keep (D3255 (Or.inr (hwi hw 207 rfl)) (ty := (.object "java/lang/String")) (by decide)) K3277 nin0) K3315 nin0)
      have F3367 := (Fld.keep (Fld.keep (D3255 (Or.inr (hwi hw 209 rfl)) (ty := (.object "java/lang/String")) (by decide)) K3277 nin0) K3315 nin0)
      have F3368 := (Fld.keep (Fld.keep (D3255 (Or.inr (hwi hw 211 rfl)) (ty := (.object "java/util/List")) (by decide)) K3277 nin0) K3315 nin0)
      have F3369 := (Fld.keep (Fld.keep (D3255 (Or.inr (hwi hw 213 rfl)) (ty := (.object "java/util/List")) (by decide)) K3277 nin0) K3315 nin0)
      have F3370 := (Exa.keep F3316 K3315)
      have F3371 := (Exa.keep F3320 K3315)
      refine cInit X3315 hx hZ hown (by rw [hml]; rfl) e3315 (hwi hw 110 rfl) (hwi hw 111 rfl) (hwi hw 109 rfl) (hwi hw 112 rfl) a3255 [(.ref a3277), (.ref a3315), (.ref a1479), (.ref a2763)] [(.ref a3255)] rfl (rm_tab_2_3 hw a3255 a3277 a3315 a1479 a2763 a1406 a1433 b1479 k1479 b2763 k2763 mr aL aN aE kN _ O3356 f3255 F3365 F3366 F3367 F3368 F3369 MM SL XL FL VN SE F3370 F3371 F3357 F3358 F3359 O1479 F3360 F3361 F3362 F3363 O2763 F3364 (Ne.symm n3264) (Ne.symm n3266)) (hb hby at_108) rfl (lenOf pd_39 rfl) rfl (by decide) (by decide) (Nat.le_of_ble_eq_true rfl) (by decide) (by decide) ?_
      rintro v3372 T3372 h3372 L3372 X3372 e3372 ⟨o3372, r3372, kr3372, rfl, N3372, K3372, g3372, F3372, E3372, Fa3372, Fb3372⟩
      have N3372a := Fr.app N3315a N3372
      have F3396 := (Safe.keep K3315 sf0 H3312.1 (Safe.keep K3277 sf0 H3274.1 SF3255))
      have sf3395 : ∀ x ∈ [a3255], Safe Z own_EL T1464.vm h3315 x := (sfS F3396 sf0)
      have C3395 : CHr Z own_EL T1464.vm h3315 T1464.vm h3372 := CHr.keep K3372 sf3395 H3355.1
      have hk := Nat.le_trans hk C3395.2.1
      have H3395 := H3355.trans C3395
      show Ends p e below _ T3372 (mkF m 111 #[iv i0, iv i1, iv i2, iv i3, iv (i0 &&& (3 : Int32)), iv (i1 &&& (3 : Int32)), rv a1406, rv a1433, rv a1479, rv a2763, .unset] [(.ref a3255)])
      refine go (fun _ => XS.astore X3372.here hx rfl (hb hby at_111) rfl rfl (l' := #[iv i0, iv i1, iv i2, iv i3, iv (i0 &&& (3 : Int32)), iv (i1 &&& (3 : Int32)), rv a1406, rv a1433, rv a1479, rv a2763, rv a3255]) rfl) ?_
      refine go (fun _ => XS.aload X3372.here hx rfl (hb hby at_113) rfl rfl) ?_
      show Ends p e below _ T3372 (mkF m 115 #[iv i0, iv i1, iv i2, iv i3, iv (i0 &&& (3 : Int32)), iv (i1 &&& (3 : Int32)), rv a1406, rv a1433, rv a1479, rv a2763, rv a3255] [(.ref a3255)])
      have F3399 := (Exa.keep F3365 K3372)
      refine cVirt X3372 hx hZ hown (by rw [hml]; rfl) e3372 (hwi hw 214 rfl) (hwi hw 215 rfl) (hwi hw 217 rfl) (hwi hw 216 rfl) (hwi hw 109 rfl) (hwi hw 218 rfl) (notFace_of_selects (args := #[]) (mvT hZ (hwi hw 217 rfl))) a3255 F3399 [] [] rfl (rm_hp_3 hw a3255 o3372 r3372 kr3372 _ _ F3372 E3372 Fa3372 Fb3372) (hb hby at_115) rfl (lenOf pd_23 rfl) (by decide) (by decide) (Nat.le_of_ble_eq_true rfl) (by decide) (by decide) ?_
      rintro v3398 T3398 h3398 L3398 X3398 e3398 ⟨rfl, N3398, rfl⟩
      have N3398a := Fr.app N3372a N3398
      show Ends p e below _ T3398 (mkF m 118 #[iv i0, iv i1, iv i2, iv i3, iv (i0 &&& (3 : Int32)), iv (i1 &&& (3 : Int32)), rv a1406, rv a1433, rv a1479, rv a2763, rv a3255] [(.int (1 : Int32))])
      refine go (fun _ => XS.iload X3398.here hx rfl (hb hby at_118) rfl) ?_
      show Ends p e below _ T3398 (mkF m 120 #[iv i0, iv i1, iv i2, iv i3, iv (i0 &&& (3 : Int32)), iv (i1 &&& (3 : Int32)), rv a1406, rv a1433, rv a1479, rv a2763, rv a3255] [(.int (i0 &&& (3 : Int32))), (.int (1 : Int32))])
      refine go (fun _ => XS.ifNo X3398.here hx rfl (hb hby at_120) rfl (XT.i0_eq_f ((by rw [c2763]; decide) : ¬ ((i0 &&& (3 : Int32)) = (0 : Int32))))) ?_
      show Ends p e below _ T3398 (mkF m 123 #[iv i0, iv i1, iv i2, iv i3, iv (i0 &&& (3 : Int32)), iv (i1 &&& (3 : Int32)), rv a1406, rv a1433, rv a1479, rv a2763, rv a3255] [(.int (1 : Int32))])
      refine go (fun _ => XT.iconstV X3398.here hx rfl (1 : Int32) (hb hby at_123) (by decide)) ?_
      refine go (fun _ => XS.goto X3398.here hx rfl (pc0 := 124) (pc' := 128) rfl (hb hby at_124) (by decide) (by decide)) ?_
      show Ends p e below _ T3398 (mkF m 128 #[iv i0, iv i1, iv i2, iv i3, iv (i0 &&& (3 : Int32)), iv (i1 &&& (3 : Int32)), rv a1406, rv a1433, rv a1479, rv a2763, rv a3255] [(.int (1 : Int32)), (.int (1 : Int32))])
      refine go (fun _ => XS.icmpNo X3398.here hx rfl (hb hby at_128) rfl (XT.ii_ne_f ((by decide) : (1 : Int32) = (1 : Int32)))) ?_
      show Ends p e below _ T3398 (mkF m 131 #[iv i0, iv i1, iv i2, iv i3, iv (i0 &&& (3 : Int32)), iv (i1 &&& (3 : Int32)), rv a1406, rv a1433, rv a1479, rv a2763, rv a3255] [])
      refine go (fun _ => XT.iconstV X3398.here hx rfl (1 : Int32) (hb hby at_131) (by decide)) ?_
      refine go (fun _ => XS.goto X3398.here hx rfl (pc0 := 132) (pc' := 136) rfl (hb hby at_132) (by decide) (by decide)) ?_
      show Ends p e below _ T3398 (mkF m 136 #[iv i0, iv i1, iv i2, iv i3, iv (i0 &&& (3 : Int32)), iv (i1 &&& (3 : Int32)), rv a1406, rv a1433, rv a1479, rv a2763, rv a3255] [(.int (1 : Int32))])
      exact endN X3398 hx hret (by simp) (hb hby at_136) (lvW X3398 hlk hZ (own_EW hw) hs0 hS hk H3395 e3398 (fun h => by rw [hret] at h; cases h) ⟨rfl, N3398a⟩ (by decide) (by decide))
  · have N1479a := Fr.app N1473a N1479
    have F3401 := (Exa.keep (Exa.ext E1464 (Exa.ext E1459 (Exa.keep F1446 K1443))) K1473)
    have F3408 := (Arv.keep (Arv.ext (Arv.ext V1443 E1459) E1464) K1473 (ninS (Ne.symm n1454) nin0))
    have C3418 : CHr Z own_EL T1464.vm h1473 T1464.vm h1479 := CHr.keep K1479 sf0 H1474.1
    have hk := Nat.le_trans hk C3418.2.1
    have H3418 := H1474.trans C3418
    have O3419 : Ext Z.heap h1479 := xk O1476 K1479 all0
    show Ends p e below _ T1479 (mkF m 63 #[iv i0, iv i1, iv i2, iv i3, iv (i0 &&& (3 : Int32)), iv (i1 &&& (3 : Int32)), rv a1406, rv a1433, .unset, .unset, .unset] [(.ref a1479)])
    refine go (fun _ => XS.astore X1479.here hx rfl (hb hby at_63) rfl rfl (l' := #[iv i0, iv i1, iv i2, iv i3, iv (i0 &&& (3 : Int32)), iv (i1 &&& (3 : Int32)), rv a1406, rv a1433, rv a1479, .unset, .unset]) rfl) ?_
    refine go (fun _ => XS.aload X1479.here hx rfl (hb hby at_65) rfl rfl) ?_
    refine go (fun _ => XS.aload X1479.here hx rfl (hb hby at_67) rfl rfl) ?_
    refine go (fun _ => XS.iload X1479.here hx rfl (hb hby at_69) rfl) ?_
    show Ends p e below _ T1479 (mkF m 71 #[iv i0, iv i1, iv i2, iv i3, iv (i0 &&& (3 : Int32)), iv (i1 &&& (3 : Int32)), rv a1406, rv a1433, rv a1479, .unset, .unset] [(.int (i0 &&& (3 : Int32))), (.ref a1406), (.ref a1433)])
    have F3420 := (Exa.keep F1478 K1479)
    have F3421 := (Exa.keep F1477 K1479)
    refine cStat X1479 hx hZ hown (by rw [hml]; rfl) e1479 (hwi hw 48 rfl) (hwi hw 49 rfl) (hwi hw 50 rfl) (hwi hw 51 rfl) [(.ref a1433), (.ref a1406), (.int (i0 &&& (3 : Int32)))] [] rfl (rm_listOf hw a1433 a1406 (i0 &&& (3 : Int32)) aD kD _ O3419 SD VD F3420 F3421 (own_q4 i0)) (hb hby at_71) rfl (lenOf pd_38 rfl) (by decide) (by decide) (Nat.le_of_ble_eq_true rfl) (by decide) (by decide) ?_
    rintro v3422 T3422 h3422 L3422 X3422 e3422 (⟨c3422, a3422, rfl, N3422, K3422, ga3422, E3422, F33422⟩ | ⟨c3422, a3422, b3422, k3422, rfl, N3422, K3422, ga3422, gb3422, E3422, F23422, F33422, O3422, V3422⟩ | ⟨c3422, a3422, b3422, k3422, rfl, N3422, K3422, ga3422, gb3422, E3422, F23422, F33422, O3422, V3422⟩ | ⟨c3422, a3422, b3422, k3422, rfl, N3422, K3422, ga3422, gb3422, E3422, F23422, F33422, O3422, V3422⟩)
    · have N3422a := Fr.app N1479a N3422
      have C3436 : CHr Z own_EL T1464.vm h1479 T1464.vm h3422 := CHr.keep K3422 sf0 H3418.1
      have hk := Nat.le_trans hk C3436.2.1
      have H3436 := H3418.trans C3436
      have O3437 : Ext Z.heap h3422 := xk O3419 K3422 all0
      show Ends p e below _ T3422 (mkF m 74 #[iv i0, iv i1, iv i2, iv i3, iv (i0 &&& (3 : Int32)), iv (i1 &&& (3 : Int32)), rv a1406, rv a1433, rv a1479, .unset, .unset] [(.ref a3422)])
      refine go (fun _ => XS.astore X3422.here hx rfl (hb hby at_74) rfl rfl (l' := #[iv i0, iv i1, iv i2, iv i3, iv (i0 &&& (3 : Int32)), iv (i1 &&& (3 : Int32)), rv a1406, rv a1433, rv a1479, rv a3422, .unset]) rfl) ?_
      show Ends p e below _ T3422 (mkF m 76 #[iv i0, iv i1, iv i2, iv i3, iv (i0 &&& (3 : Int32)), iv (i1 &&& (3 : Int32)), rv a1406, rv a1433, rv a1479, rv a3422, .unset] [])
      obtain ⟨T3438, h3438, X3438, e3438, E3438, A3438, D3438, U3438, s3438⟩ := newO X3422 hx hZ hown (hwi hw 107 rfl) (hwi hw 108 rfl) (hwi hw 109 rfl) e3422 (g := (mkF m 76 #[iv i0, iv i1, iv i2, iv i3, iv (i0 &&& (3 : Int32)), iv (i1 &&& (3 : Int32)), rv a1406, rv a1433, rv a1479, rv a3422, .unset] [])) rfl (hb hby at_76) (by decide) (by decide)
      have F3439 := (Exa.keep F3421 K3422)
      have F3441 := (Exa.keep F3420 K3422)
      have F3443 := (Exa.keep E1479 K3422)
      have F3446 := (Arv.keep V1479 K3422 nin0)
      obtain ⟨a3438, g3438⟩ : ∃ z : Addr, z = h3422.size := ⟨_, rfl⟩
      have n3447 : a1406 ≠ a3438 := fun q => absurd (F3439.lt) (by rw [q, g3438]; exact Nat.lt_irrefl _)
      have n3449 : a1433 ≠ a3438 := fun q => absurd (F3441.lt) (by rw [q, g3438]; exact Nat.lt_irrefl _)
      have f3438 : Z.heap.size ≤ a3438 := by rw [g3438]; exact (O3437).1
      rw [← g3438] at A3438 D3438 U3438 s3438
      have C3456 : CHr Z own_EL T1464.vm h3422 T1464.vm h3438 := CHr.ext E3438 H3436.1
      have hk := Nat.le_trans hk C3456.2.1
      have H3456 := H3436.trans C3456
      have O3457 : Ext Z.heap h3438 := xx O3437 E3438
      have SF3438 : Safe Z own_EL T1464.vm h3438 a3438 := Safe.ext E3438 H3436.1 (Safe.new (by rw [g3438]; exact Nat.le_refl _))
      refine go s3438 ?_
      show Ends p e below _ T3438 (mkF m 79 #[iv i0, iv i1, iv i2, iv i3, iv (i0 &&& (3 : Int32)), iv (i1 &&& (3 : Int32)), rv a1406, rv a1433, rv a1479, rv a3422, .unset] [(.ref a3438)])
      refine go (fun _ => XS.dup X3438.here hx rfl (hb hby at_79) rfl rfl) ?_
      refine go (fun _ => XS.iloadN X3438.here hx rfl (hb hby at_80) rfl) ?_
      refine go (fun _ => XT.bipushV X3438.here hx rfl (8 : Int32) (hb hby at_81) (by decide)) ?_
      refine go (fun _ => XT.iushr X3438.here hx rfl (hb hby at_83) rfl) ?_
      refine go (fun _ => XT.sipushV X3438.here hx rfl (255 : Int32) (hb hby at_84) (by decide)) ?_
      refine go (fun _ => XS.iand X3438.here hx rfl (hb hby at_87) rfl) ?_
      show Ends p e below _ T3438 (mkF m 88 #[iv i0, iv i1, iv i2, iv i3, iv (i0 &&& (3 : Int32)), iv (i1 &&& (3 : Int32)), rv a1406, rv a1433, rv a1479, rv a3422, .unset] [(.int ((XT.ushr i2 (8 : Int32)) &&& (255 : Int32))), (.ref a3438), (.ref a3438)])
      refine go (fun _ => XT.i2c X3438.here hx rfl (hb hby at_88) rfl) ?_
      show Ends p e below _ T3438 (mkF m 89 #[iv i0, iv i1, iv i2, iv i3, iv (i0 &&& (3 : Int32)), iv (i1 &&& (3 : Int32)), rv a1406, rv a1433, rv a1479, rv a3422, .unset] [(.int ((XT.ushr i2 (8 : Int32)) &&& (255 : Int32)).toUInt32.toUInt16.toUInt32.toInt32), (.ref a3438), (.ref a3438)])
      obtain ⟨ch3458, hch3458⟩ : ∃ z : Int32, z = ((XT.ushr i2 (8 : Int32)) &&& (255 : Int32)).toUInt32.toUInt16.toUInt32.toInt32 := ⟨_, rfl⟩
      have lc3458 : ¬ (255 : Int32) < ch3458 := by rw [hch3458]; exact (own_ch _).1
      rw [← hch3458]
      show Ends p e below _ T3438 (mkF m 89 #[iv i0, iv i1, iv i2, iv i3, iv (i0 &&& (3 : Int32)), iv (i1 &&& (3 : Int32)), rv a1406, rv a1433, rv a1479, rv a3422, .unset] [(.int ch3458), (.ref a3438), (.ref a3438)])
      refine cStat X3438 hx hZ hown (by rw [hml]; rfl) e3438 (hwi hw 3 rfl) (hwi hw 4 rfl) (hwi hw 5 rfl) (hwi hw 6 rfl) [(.int ch3458)] [(.ref a3438), (.ref a3438)] rfl (rm_cvalueOf hw ch3458 _ O3457 lc3458 cz SCS hcz) (hb hby at_89) rfl (lenOf pd_36 rfl) (by decide) (by decide) (Nat.le_of_ble_eq_true rfl) (by decide) (by decide) ?_
      rintro v3459 T3459 h3459 L3459 X3459 e3459 ⟨a3459, b3459, k3459, rfl, N3459, K3459, ga3459, gb3459, nn3459, E3459, Fv3459, Fc3459, V3459⟩
      have N3459a := Fr.app N3422a N3459
      have F3460 := (Exa.ext E3438 F3439)
      have F3464 := (Exa.ext E3438 F3441)
      have F3468 := (Exa.ext E3438 F3443)
      have F3470 := (Exa.ext E3438 E3422)
      have F3477 := (Arv.ext F3446 E3438)
      have C3491 : CHr Z own_EL T1464.vm h3438 T1464.vm h3459 := CHr.keep K3459 sf0 H3456.1
      have hk := Nat.le_trans hk C3491.2.1
      have H3491 := H3456.trans C3491
      have O3492 : Ext Z.heap h3459 := xk O3457 K3459 all0
      show Ends p e below _ T3459 (mkF m 92 #[iv i0, iv i1, iv i2, iv i3, iv (i0 &&& (3 : Int32)), iv (i1 &&& (3 : Int32)), rv a1406, rv a1433, rv a1479, rv a3422, .unset] [(.ref a3459), (.ref a3438), (.ref a3438)])
      refine go (fun _ => XS.iloadN X3459.here hx rfl (hb hby at_92) rfl) ?_
      refine go (fun _ => XT.bipushV X3459.here hx rfl (8 : Int32) (hb hby at_93) (by decide)) ?_
      refine go (fun _ => XT.iushr X3459.here hx rfl (hb hby at_95) rfl) ?_
      refine go (fun _ => XT.sipushV X3459.here hx rfl (255 : Int32) (hb hby at_96) (by decide)) ?_
      refine go (fun _ => XS.iand X3459.here hx rfl (hb hby at_99) rfl) ?_
      refine go (fun _ => XT.i2c X3459.here hx rfl (hb hby at_100) rfl) ?_
      show Ends p e below _ T3459 (mkF m 101 #[iv i0, iv i1, iv i2, iv i3, iv (i0 &&& (3 : Int32)), iv (i1 &&& (3 : Int32)), rv a1406, rv a1433, rv a1479, rv a3422, .unset] [(.int ((XT.ushr i3 (8 : Int32)) &&& (255 : Int32)).toUInt32.toUInt16.toUInt32.toInt32), (.ref a3459), (.ref a3438), (.ref a3438)])
      obtain ⟨ch3493, hch3493⟩ : ∃ z : Int32, z = ((XT.ushr i3 (8 : Int32)) &&& (255 : Int32)).toUInt32.toUInt16.toUInt32.toInt32 := ⟨_, rfl⟩
      have lc3493 : ¬ (255 : Int32) < ch3493 := by rw [hch3493]; exact (own_ch _).1
      rw [← hch3493]
      show Ends p e below _ T3459 (mkF m 101 #[iv i0, iv i1, iv i2, iv i3, iv (i0 &&& (3 : Int32)), iv (i1 &&& (3 : Int32)), rv a1406, rv a1433, rv a1479, rv a3422, .unset] [(.int ch3493), (.ref a3459), (.ref a3438), (.ref a3438)])
      refine cStat X3459 hx hZ hown (by rw [hml]; rfl) e3459 (hwi hw 3 rfl) (hwi hw 4 rfl) (hwi hw 5 rfl) (hwi hw 6 rfl) [(.int ch3493)] [(.ref a3459), (.ref a3438), (.ref a3438)] rfl (rm_cvalueOf hw ch3493 _ O3492 lc3493 cz SCS hcz) (hb hby at_101) rfl (lenOf pd_36 rfl) (by decide) (by decide) (Nat.le_of_ble_eq_true rfl) (by decide) (by decide) ?_
      rintro v3494 T3494 h3494 L3494 X3494 e3494 ⟨a3494, b3494, k3494, rfl, N3494, K3494, ga3494, gb3494, nn3494, E3494, Fv3494, Fc3494, V3494⟩
      have N3494a := Fr.app N3459a N3494
      have F3495 := (Exa.keep F3460 K3459)
      have F3499 := (Exa.keep F3464 K3459)
      have F3503 := (Exa.keep F3468 K3459)
      have F3505 := (Exa.keep F3470 K3459)
      have F3507 := (Exa.keep A3438 K3459)
      have F3514 := (Arv.keep F3477 K3459 nin0)
      have C3531 : CHr Z own_EL T1464.vm h3459 T1464.vm h3494 := CHr.keep K3494 sf0 H3491.1
      have hk := Nat.le_trans hk C3531.2.1
      have H3531 := H3491.trans C3531
      have O3532 : Ext Z.heap h3494 := xk O3492 K3494 all0
      show Ends p e below _ T3494 (mkF m 104 #[iv i0, iv i1, iv i2, iv i3, iv (i0 &&& (3 : Int32)), iv (i1 &&& (3 : Int32)), rv a1406, rv a1433, rv a1479, rv a3422, .unset] [(.ref a3494), (.ref a3459), (.ref a3438), (.ref a3438)])
      refine go (fun _ => XS.aload X3494.here hx rfl (hb hby at_104) rfl rfl) ?_
      refine go (fun _ => XS.aload X3494.here hx rfl (hb hby at_106) rfl rfl) ?_
      show Ends p e below _ T3494 (mkF m 108 #[iv i0, iv i1, iv i2, iv i3, iv (i0 &&& (3 : Int32)), iv (i1 &&& (3 : Int32)), rv a1406, rv a1433, rv a1479, rv a3422, .unset] [(.ref a3422), (.ref a1479), (.ref a3494), (.ref a3459), (.ref a3438), (.ref a3438)])
      have F3533 := (Exa.keep F3503 K3494)
      have F3534 := (Fld.keep (Fld.keep (Fld.ext E3438 (Fld.keep F21479 K3422 nin0)) K3459 nin0) K3494 nin0)
      have F3535 := (Fld.keep (Fld.keep (Fld.ext E3438 (Fld.keep F31479 K3422 nin0)) K3459 nin0) K3494 nin0)
      have F3536 := (Arv.keep F3514 K3494 nin0)
      have F3537 := (Exa.keep F3505 K3494)
      have F3538 := (Fld.keep (Fld.keep (Fld.ext E3438 F33422) K3459 nin0) K3494 nin0)
      have F3539 := (Exa.keep F3507 K3494)
      have F3540 := (Fld.keep (Fld.keep (D3438 (Or.inr (hwi hw 207 rfl)) (ty := (.object "java/lang/String")) (by decide)) K3459 nin0) K3494 nin0)
      have F3541 := (Fld.keep (Fld.keep (D3438 (Or.inr (hwi hw 209 rfl)) (ty := (.object "java/lang/String")) (by decide)) K3459 nin0) K3494 nin0)
      have F3542 := (Fld.keep (Fld.keep (D3438 (Or.inr (hwi hw 211 rfl)) (ty := (.object "java/util/List")) (by decide)) K3459 nin0) K3494 nin0)
      have F3543 := (Fld.keep (Fld.keep (D3438 (Or.inr (hwi hw 213 rfl)) (ty := (.object "java/util/List")) (by decide)) K3459 nin0) K3494 nin0)
      have F3544 := (Exa.keep F3495 K3494)
      have F3545 := (Exa.keep F3499 K3494)
      refine cInit X3494 hx hZ hown (by rw [hml]; rfl) e3494 (hwi hw 110 rfl) (hwi hw 111 rfl) (hwi hw 109 rfl) (hwi hw 112 rfl) a3438 [(.ref a3459), (.ref a3494), (.ref a1479), (.ref a3422)] [(.ref a3438)] rfl (rm_tab_3_0 hw a3438 a3459 a3494 a1479 a3422 a1406 a1433 b1479 k1479 mr aL aN aE kN _ O3532 f3438 F3539 F3540 F3541 F3542 F3543 MM SL XL FL VN SE F3544 F3545 F3533 F3534 F3535 O1479 F3536 F3537 F3538 (Ne.symm n3447) (Ne.symm n3449)) (hb hby at_108) rfl (lenOf pd_39 rfl) rfl (by decide) (by decide) (Nat.le_of_ble_eq_true rfl) (by decide) (by decide) ?_
      rintro v3546 T3546 h3546 L3546 X3546 e3546 ⟨rfl, N3546, K3546, F3546⟩
      have N3546a := Fr.app N3494a N3546
      have F3548 := (Safe.keep K3494 sf0 H3491.1 (Safe.keep K3459 sf0 H3456.1 SF3438))
      have sf3547 : ∀ x ∈ [a3438], Safe Z own_EL T1464.vm h3494 x := (sfS F3548 sf0)
      have C3547 : CHr Z own_EL T1464.vm h3494 T1464.vm h3546 := CHr.keep K3546 sf3547 H3531.1
      have hk := Nat.le_trans hk C3547.2.1
      have H3547 := H3531.trans C3547
      have O3549 : Ext Z.heap h3546 := xk O3532 K3546 (allS f3438 all0)
      show Ends p e below _ T3546 (mkF m 111 #[iv i0, iv i1, iv i2, iv i3, iv (i0 &&& (3 : Int32)), iv (i1 &&& (3 : Int32)), rv a1406, rv a1433, rv a1479, rv a3422, .unset] [(.ref a3438)])
      refine go (fun _ => XS.astore X3546.here hx rfl (hb hby at_111) rfl rfl (l' := #[iv i0, iv i1, iv i2, iv i3, iv (i0 &&& (3 : Int32)), iv (i1 &&& (3 : Int32)), rv a1406, rv a1433, rv a1479, rv a3422, rv a3438]) rfl) ?_
      refine go (fun _ => XS.aload X3546.here hx rfl (hb hby at_113) rfl rfl) ?_
      show Ends p e below _ T3546 (mkF m 115 #[iv i0, iv i1, iv i2, iv i3, iv (i0 &&& (3 : Int32)), iv (i1 &&& (3 : Int32)), rv a1406, rv a1433, rv a1479, rv a3422, rv a3438] [(.ref a3438)])
      have F3551 := (Exa.keep F3539 K3546)
      refine cVirt X3546 hx hZ hown (by rw [hml]; rfl) e3546 (hwi hw 214 rfl) (hwi hw 215 rfl) (hwi hw 217 rfl) (hwi hw 216 rfl) (hwi hw 109 rfl) (hwi hw 218 rfl) (notFace_of_selects (args := #[]) (mvT hZ (hwi hw 217 rfl))) a3438 F3551 [] [] rfl (rm_hp_0 hw a3438 aL aN kN _ _ F3546 (Exa.ext O3549 XL) (Fld.ext O3549 FL) (Arv.ext VN O3549)) (hb hby at_115) rfl (lenOf pd_23 rfl) (by decide) (by decide) (Nat.le_of_ble_eq_true rfl) (by decide) (by decide) ?_
      rintro v3550 T3550 h3550 L3550 X3550 e3550 ⟨rfl, N3550, rfl⟩
      have N3550a := Fr.app N3546a N3550
      show Ends p e below _ T3550 (mkF m 118 #[iv i0, iv i1, iv i2, iv i3, iv (i0 &&& (3 : Int32)), iv (i1 &&& (3 : Int32)), rv a1406, rv a1433, rv a1479, rv a3422, rv a3438] [(.int (0 : Int32))])
      refine go (fun _ => XS.iload X3550.here hx rfl (hb hby at_118) rfl) ?_
      show Ends p e below _ T3550 (mkF m 120 #[iv i0, iv i1, iv i2, iv i3, iv (i0 &&& (3 : Int32)), iv (i1 &&& (3 : Int32)), rv a1406, rv a1433, rv a1479, rv a3422, rv a3438] [(.int (i0 &&& (3 : Int32))), (.int (0 : Int32))])
      refine go (fun _ => XS.ifYes X3550.here hx rfl (pc0 := 120) (pc' := 127) rfl (hb hby at_120) rfl (XT.i0_eq_t c3422) (by decide) (by decide)) ?_
      show Ends p e below _ T3550 (mkF m 127 #[iv i0, iv i1, iv i2, iv i3, iv (i0 &&& (3 : Int32)), iv (i1 &&& (3 : Int32)), rv a1406, rv a1433, rv a1479, rv a3422, rv a3438] [(.int (0 : Int32))])
      refine go (fun _ => XT.iconstV X3550.here hx rfl (0 : Int32) (hb hby at_127) (by decide)) ?_
      show Ends p e below _ T3550 (mkF m 128 #[iv i0, iv i1, iv i2, iv i3, iv (i0 &&& (3 : Int32)), iv (i1 &&& (3 : Int32)), rv a1406, rv a1433, rv a1479, rv a3422, rv a3438] [(.int (0 : Int32)), (.int (0 : Int32))])
      refine go (fun _ => XS.icmpNo X3550.here hx rfl (hb hby at_128) rfl (XT.ii_ne_f ((by decide) : (0 : Int32) = (0 : Int32)))) ?_
      show Ends p e below _ T3550 (mkF m 131 #[iv i0, iv i1, iv i2, iv i3, iv (i0 &&& (3 : Int32)), iv (i1 &&& (3 : Int32)), rv a1406, rv a1433, rv a1479, rv a3422, rv a3438] [])
      refine go (fun _ => XT.iconstV X3550.here hx rfl (1 : Int32) (hb hby at_131) (by decide)) ?_
      refine go (fun _ => XS.goto X3550.here hx rfl (pc0 := 132) (pc' := 136) rfl (hb hby at_132) (by decide) (by decide)) ?_
      show Ends p e below _ T3550 (mkF m 136 #[iv i0, iv i1, iv i2, iv i3, iv (i0 &&& (3 : Int32)), iv (i1 &&& (3 : Int32)), rv a1406, rv a1433, rv a1479, rv a3422, rv a3438] [(.int (1 : Int32))])
      exact endN X3550 hx hret (by simp) (hb hby at_136) (lvW X3550 hlk hZ (own_EW hw) hs0 hS hk H3547 e3550 (fun h => by rw [hret] at h; cases h) ⟨rfl, N3550a⟩ (by decide) (by decide))
    · have N3422a := Fr.app N1479a N3422
      have F3553 := (Exa.keep F3401 K1479)
      have F3561 := (Arv.keep F3408 K1479 nin0)
      have C3574 : CHr Z own_EL T1464.vm h1479 T1464.vm h3422 := CHr.keep K3422 sf0 H3418.1
      have hk := Nat.le_trans hk C3574.2.1
      have H3574 := H3418.trans C3574
      have O3575 : Ext Z.heap h3422 := xk O3419 K3422 all0
      show Ends p e below _ T3422 (mkF m 74 #[iv i0, iv i1, iv i2, iv i3, iv (i0 &&& (3 : Int32)), iv (i1 &&& (3 : Int32)), rv a1406, rv a1433, rv a1479, .unset, .unset] [(.ref a3422)])
      refine go (fun _ => XS.astore X3422.here hx rfl (hb hby at_74) rfl rfl (l' := #[iv i0, iv i1, iv i2, iv i3, iv (i0 &&& (3 : Int32)), iv (i1 &&& (3 : Int32)), rv a1406, rv a1433, rv a1479, rv a3422, .unset]) rfl) ?_
      show Ends p e below _ T3422 (mkF m 76 #[iv i0, iv i1, iv i2, iv i3, iv (i0 &&& (3 : Int32)), iv (i1 &&& (3 : Int32)), rv a1406, rv a1433, rv a1479, rv a3422, .unset] [])
      obtain ⟨T3576, h3576, X3576, e3576, E3576, A3576, D3576, U3576, s3576⟩ := newO X3422 hx hZ hown (hwi hw 107 rfl) (hwi hw 108 rfl) (hwi hw 109 rfl) e3422 (g := (mkF m 76 #[iv i0, iv i1, iv i2, iv i3, iv (i0 &&& (3 : Int32)), iv (i1 &&& (3 : Int32)), rv a1406, rv a1433, rv a1479, rv a3422, .unset] [])) rfl (hb hby at_76) (by decide) (by decide)
      have F3577 := (Exa.keep F3421 K3422)
      have F3578 := (Exa.keep F3553 K3422)
      have F3579 := (Exa.keep F3420 K3422)
      have F3581 := (Exa.keep E1479 K3422)
      have F3584 := (Arv.keep V1479 K3422 nin0)
      obtain ⟨a3576, g3576⟩ : ∃ z : Addr, z = h3422.size := ⟨_, rfl⟩
      have n3585 : a1406 ≠ a3576 := fun q => absurd (F3577.lt) (by rw [q, g3576]; exact Nat.lt_irrefl _)
      have n3587 : a1433 ≠ a3576 := fun q => absurd (F3579.lt) (by rw [q, g3576]; exact Nat.lt_irrefl _)
      have f3576 : Z.heap.size ≤ a3576 := by rw [g3576]; exact (O3575).1
      rw [← g3576] at A3576 D3576 U3576 s3576
      have C3595 : CHr Z own_EL T1464.vm h3422 T1464.vm h3576 := CHr.ext E3576 H3574.1
      have hk := Nat.le_trans hk C3595.2.1
      have H3595 := H3574.trans C3595
      have O3596 : Ext Z.heap h3576 := xx O3575 E3576
      have SF3576 : Safe Z own_EL T1464.vm h3576 a3576 := Safe.ext E3576 H3574.1 (Safe.new (by rw [g3576]; exact Nat.le_refl _))
      refine go s3576 ?_
      show Ends p e below _ T3576 (mkF m 79 #[iv i0, iv i1, iv i2, iv i3, iv (i0 &&& (3 : Int32)), iv (i1 &&& (3 : Int32)), rv a1406, rv a1433, rv a1479, rv a3422, .unset] [(.ref a3576)])
      refine go (fun _ => XS.dup X3576.here hx rfl (hb hby at_79) rfl rfl) ?_
      refine go (fun _ => XS.iloadN X3576.here hx rfl (hb hby at_80) rfl) ?_
      refine go (fun _ => XT.bipushV X3576.here hx rfl (8 : Int32) (hb hby at_81) (by decide)) ?_
      refine go (fun _ => XT.iushr X3576.here hx rfl (hb hby at_83) rfl) ?_
      refine go (fun _ => XT.sipushV X3576.here hx rfl (255 : Int32) (hb hby at_84) (by decide)) ?_
      refine go (fun _ => XS.iand X3576.here hx rfl (hb hby at_87) rfl) ?_
      show Ends p e below _ T3576 (mkF m 88 #[iv i0, iv i1, iv i2, iv i3, iv (i0 &&& (3 : Int32)), iv (i1 &&& (3 : Int32)), rv a1406, rv a1433, rv a1479, rv a3422, .unset] [(.int ((XT.ushr i2 (8 : Int32)) &&& (255 : Int32))), (.ref a3576), (.ref a3576)])
      refine go (fun _ => XT.i2c X3576.here hx rfl (hb hby at_88) rfl) ?_
      show Ends p e below _ T3576 (mkF m 89 #[iv i0, iv i1, iv i2, iv i3, iv (i0 &&& (3 : Int32)), iv (i1 &&& (3 : Int32)), rv a1406, rv a1433, rv a1479, rv a3422, .unset] [(.int ((XT.ushr i2 (8 : Int32)) &&& (255 : Int32)).toUInt32.toUInt16.toUInt32.toInt32), (.ref a3576), (.ref a3576)])
      obtain ⟨ch3597, hch3597⟩ : ∃ z : Int32, z = ((XT.ushr i2 (8 : Int32)) &&& (255 : Int32)).toUInt32.toUInt16.toUInt32.toInt32 := ⟨_, rfl⟩
      have lc3597 : ¬ (255 : Int32) < ch3597 := by rw [hch3597]; exact (own_ch _).1
      rw [← hch3597]
      show Ends p e below _ T3576 (mkF m 89 #[iv i0, iv i1, iv i2, iv i3, iv (i0 &&& (3 : Int32)), iv (i1 &&& (3 : Int32)), rv a1406, rv a1433, rv a1479, rv a3422, .unset] [(.int ch3597), (.ref a3576), (.ref a3576)])
      refine cStat X3576 hx hZ hown (by rw [hml]; rfl) e3576 (hwi hw 3 rfl) (hwi hw 4 rfl) (hwi hw 5 rfl) (hwi hw 6 rfl) [(.int ch3597)] [(.ref a3576), (.ref a3576)] rfl (rm_cvalueOf hw ch3597 _ O3596 lc3597 cz SCS hcz) (hb hby at_89) rfl (lenOf pd_36 rfl) (by decide) (by decide) (Nat.le_of_ble_eq_true rfl) (by decide) (by decide) ?_
      rintro v3598 T3598 h3598 L3598 X3598 e3598 ⟨a3598, b3598, k3598, rfl, N3598, K3598, ga3598, gb3598, nn3598, E3598, Fv3598, Fc3598, V3598⟩
      have N3598a := Fr.app N3422a N3598
      have F3599 := (Exa.ext E3576 F3577)
      have F3601 := (Exa.ext E3576 F3578)
      have F3603 := (Exa.ext E3576 F3579)
      have F3607 := (Exa.ext E3576 F3581)
      have F3609 := (Exa.ext E3576 E3422)
      have F3616 := (Arv.ext F3584 E3576)
      have F3618 := (Arv.ext V3422 E3576)
      have C3633 : CHr Z own_EL T1464.vm h3576 T1464.vm h3598 := CHr.keep K3598 sf0 H3595.1
      have hk := Nat.le_trans hk C3633.2.1
      have H3633 := H3595.trans C3633
      have O3634 : Ext Z.heap h3598 := xk O3596 K3598 all0
      show Ends p e below _ T3598 (mkF m 92 #[iv i0, iv i1, iv i2, iv i3, iv (i0 &&& (3 : Int32)), iv (i1 &&& (3 : Int32)), rv a1406, rv a1433, rv a1479, rv a3422, .unset] [(.ref a3598), (.ref a3576), (.ref a3576)])
      refine go (fun _ => XS.iloadN X3598.here hx rfl (hb hby at_92) rfl) ?_
      refine go (fun _ => XT.bipushV X3598.here hx rfl (8 : Int32) (hb hby at_93) (by decide)) ?_
      refine go (fun _ => XT.iushr X3598.here hx rfl (hb hby at_95) rfl) ?_
      refine go (fun _ => XT.sipushV X3598.here hx rfl (255 : Int32) (hb hby at_96) (by decide)) ?_
      refine go (fun _ => XS.iand X3598.here hx rfl (hb hby at_99) rfl) ?_
      refine go (fun _ => XT.i2c X3598.here hx rfl (hb hby at_100) rfl) ?_
      show Ends p e below _ T3598 (mkF m 101 #[iv i0, iv i1, iv i2, iv i3, iv (i0 &&& (3 : Int32)), iv (i1 &&& (3 : Int32)), rv a1406, rv a1433, rv a1479, rv a3422, .unset] [(.int ((XT.ushr i3 (8 : Int32)) &&& (255 : Int32)).toUInt32.toUInt16.toUInt32.toInt32), (.ref a3598), (.ref a3576), (.ref a3576)])
      obtain ⟨ch3635, hch3635⟩ : ∃ z : Int32, z = ((XT.ushr i3 (8 : Int32)) &&& (255 : Int32)).toUInt32.toUInt16.toUInt32.toInt32 := ⟨_, rfl⟩
      have lc3635 : ¬ (255 : Int32) < ch3635 := by rw [hch3635]; exact (own_ch _).1
      rw [← hch3635]
      show Ends p e below _ T3598 (mkF m 101 #[iv i0, iv i1, iv i2, iv i3, iv (i0 &&& (3 : Int32)), iv (i1 &&& (3 : Int32)), rv a1406, rv a1433, rv a1479, rv a3422, .unset] [(.int ch3635), (.ref a3598), (.ref a3576), (.ref a3576)])
      refine cStat X3598 hx hZ hown (by rw [hml]; rfl) e3598 (hwi hw 3 rfl) (hwi hw 4 rfl) (hwi hw 5 rfl) (hwi hw 6 rfl) [(.int ch3635)] [(.ref a3598), (.ref a3576), (.ref a3576)] rfl (rm_cvalueOf hw ch3635 _ O3634 lc3635 cz SCS hcz) (hb hby at_101) rfl (lenOf pd_36 rfl) (by decide) (by decide) (Nat.le_of_ble_eq_true rfl) (by decide) (by decide) ?_
      rintro v3636 T3636 h3636 L3636 X3636 e3636 ⟨a3636, b3636, k3636, rfl, N3636, K3636, ga3636, gb3636, nn3636, E3636, Fv3636, Fc3636, V3636⟩
      have N3636a := Fr.app N3598a N3636
      have F3637 := (Exa.keep F3599 K3598)
      have F3639 := (Exa.keep F3601 K3598)
      have F3641 := (Exa.keep F3603 K3598)
      have F3645 := (Exa.keep F3607 K3598)
      have F3647 := (Exa.keep F3609 K3598)
      have F3649 := (Exa.keep A3576 K3598)
      have F3656 := (Arv.keep F3616 K3598 nin0)
      have F3658 := (Arv.keep F3618 K3598 nin0)
      have C3676 : CHr Z own_EL T1464.vm h3598 T1464.vm h3636 := CHr.keep K3636 sf0 H3633.1
      have hk := Nat.le_trans hk C3676.2.1
      have H3676 := H3633.trans C3676
      have O3677 : Ext Z.heap h3636 := xk O3634 K3636 all0
      show Ends p e below _ T3636 (mkF m 104 #[iv i0, iv i1, iv i2, iv i3, iv (i0 &&& (3 : Int32)), iv (i1 &&& (3 : Int32)), rv a1406, rv a1433, rv a1479, rv a3422, .unset] [(.ref a3636), (.ref a3598), (.ref a3576), (.ref a3576)])
      refine go (fun _ => XS.aload X3636.here hx rfl (hb hby at_104) rfl rfl) ?_
      refine go (fun _ => XS.aload X3636.here hx rfl (hb hby at_106) rfl rfl) ?_
      show Ends p e below _ T3636 (mkF m 108 #[iv i0, iv i1, iv i2, iv i3, iv (i0 &&& (3 : Int32)), iv (i1 &&& (3 : Int32)), rv a1406, rv a1433, rv a1479, rv a3422, .unset] [(.ref a3422), (.ref a1479), (.ref a3636), (.ref a3598), (.ref a3576), (.ref a3576)])
      have F3678 := (Exa.keep F3645 K3636)
      have F3679 := (Fld.keep (Fld.keep (Fld.ext E3576 (Fld.keep F21479 K3422 nin0)) K3598 nin0) K3636 nin0)
      have F3680 := (Fld.keep (Fld.keep (Fld.ext E3576 (Fld.keep F31479 K3422 nin0)) K3598 nin0) K3636 nin0)
      have F3681 := (Arv.keep F3656 K3636 nin0)
      have F3682 := (Exa.keep F3647 K3636)
      have F3683 := (Fld.keep (Fld.keep (Fld.ext E3576 F23422) K3598 nin0) K3636 nin0)
      have F3684 := (Fld.keep (Fld.keep (Fld.ext E3576 F33422) K3598 nin0) K3636 nin0)
      have F3685 := (Arv.keep F3658 K3636 nin0)
      have F3686 := (Exa.keep F3649 K3636)
      have F3687 := (Fld.keep (Fld.keep (D3576 (Or.inr (hwi hw 207 rfl)) (ty := (.object "java/lang/String")) (by decide)) K3598 nin0) K3636 nin0)
      have F3688 := (Fld.keep (Fld.keep (D3576 (Or.inr (hwi hw 209 rfl)) (ty := (.object "java/lang/String")) (by decide)) K3598 nin0) K3636 nin0)
      have F3689 := (Fld.keep (Fld.keep (D3576 (Or.inr (hwi hw 211 rfl)) (ty := (.object "java/util/List")) (by decide)) K3598 nin0) K3636 nin0)
      have F3690 := (Fld.keep (Fld.keep (D3576 (Or.inr (hwi hw 213 rfl)) (ty := (.object "java/util/List")) (by decide)) K3598 nin0) K3636 nin0)
      have F3691 := (Exa.keep F3637 K3636)
      have F3692 := (Exa.keep F3641 K3636)
      refine cInit X3636 hx hZ hown (by rw [hml]; rfl) e3636 (hwi hw 110 rfl) (hwi hw 111 rfl) (hwi hw 109 rfl) (hwi hw 112 rfl) a3576 [(.ref a3598), (.ref a3636), (.ref a1479), (.ref a3422)] [(.ref a3576)] rfl (rm_tab_3_1 hw a3576 a3598 a3636 a1479 a3422 a1406 a1433 b1479 k1479 b3422 k3422 mr aL aN aE kN _ O3677 f3576 F3686 F3687 F3688 F3689 F3690 MM SL XL FL VN SE F3691 F3692 F3678 F3679 F3680 O1479 F3681 F3682 F3683 F3684 O3422 F3685 (Ne.symm n3585) (Ne.symm n3587)) (hb hby at_108) rfl (lenOf pd_39 rfl) rfl (by decide) (by decide) (Nat.le_of_ble_eq_true rfl) (by decide) (by decide) ?_
      rintro v3693 T3693 h3693 L3693 X3693 e3693 ⟨o3693, rfl, N3693, K3693, g3693, F3693, E3693⟩
      have N3693a := Fr.app N3636a N3693
      have F3717 := (Safe.keep K3636 sf0 H3633.1 (Safe.keep K3598 sf0 H3595.1 SF3576))
      have sf3716 : ∀ x ∈ [a3576], Safe Z own_EL T1464.vm h3636 x := (sfS F3717 sf0)
      have C3716 : CHr Z own_EL T1464.vm h3636 T1464.vm h3693 := CHr.keep K3693 sf3716 H3676.1
      have hk := Nat.le_trans hk C3716.2.1
      have H3716 := H3676.trans C3716
      show Ends p e below _ T3693 (mkF m 111 #[iv i0, iv i1, iv i2, iv i3, iv (i0 &&& (3 : Int32)), iv (i1 &&& (3 : Int32)), rv a1406, rv a1433, rv a1479, rv a3422, .unset] [(.ref a3576)])
      refine go (fun _ => XS.astore X3693.here hx rfl (hb hby at_111) rfl rfl (l' := #[iv i0, iv i1, iv i2, iv i3, iv (i0 &&& (3 : Int32)), iv (i1 &&& (3 : Int32)), rv a1406, rv a1433, rv a1479, rv a3422, rv a3576]) rfl) ?_
      refine go (fun _ => XS.aload X3693.here hx rfl (hb hby at_113) rfl rfl) ?_
      show Ends p e below _ T3693 (mkF m 115 #[iv i0, iv i1, iv i2, iv i3, iv (i0 &&& (3 : Int32)), iv (i1 &&& (3 : Int32)), rv a1406, rv a1433, rv a1479, rv a3422, rv a3576] [(.ref a3576)])
      have F3720 := (Exa.keep F3686 K3693)
      refine cVirt X3693 hx hZ hown (by rw [hml]; rfl) e3693 (hwi hw 214 rfl) (hwi hw 215 rfl) (hwi hw 217 rfl) (hwi hw 216 rfl) (hwi hw 109 rfl) (hwi hw 218 rfl) (notFace_of_selects (args := #[]) (mvT hZ (hwi hw 217 rfl))) a3576 F3720 [] [] rfl (rm_hp_1 hw a3576 o3693 _ F3693 E3693) (hb hby at_115) rfl (lenOf pd_23 rfl) (by decide) (by decide) (Nat.le_of_ble_eq_true rfl) (by decide) (by decide) ?_
      rintro v3719 T3719 h3719 L3719 X3719 e3719 ⟨rfl, N3719, rfl⟩
      have N3719a := Fr.app N3693a N3719
      show Ends p e below _ T3719 (mkF m 118 #[iv i0, iv i1, iv i2, iv i3, iv (i0 &&& (3 : Int32)), iv (i1 &&& (3 : Int32)), rv a1406, rv a1433, rv a1479, rv a3422, rv a3576] [(.int (1 : Int32))])
      refine go (fun _ => XS.iload X3719.here hx rfl (hb hby at_118) rfl) ?_
      show Ends p e below _ T3719 (mkF m 120 #[iv i0, iv i1, iv i2, iv i3, iv (i0 &&& (3 : Int32)), iv (i1 &&& (3 : Int32)), rv a1406, rv a1433, rv a1479, rv a3422, rv a3576] [(.int (i0 &&& (3 : Int32))), (.int (1 : Int32))])
      refine go (fun _ => XS.ifNo X3719.here hx rfl (hb hby at_120) rfl (XT.i0_eq_f ((by rw [c3422]; decide) : ¬ ((i0 &&& (3 : Int32)) = (0 : Int32))))) ?_
      show Ends p e below _ T3719 (mkF m 123 #[iv i0, iv i1, iv i2, iv i3, iv (i0 &&& (3 : Int32)), iv (i1 &&& (3 : Int32)), rv a1406, rv a1433, rv a1479, rv a3422, rv a3576] [(.int (1 : Int32))])
      refine go (fun _ => XT.iconstV X3719.here hx rfl (1 : Int32) (hb hby at_123) (by decide)) ?_
      refine go (fun _ => XS.goto X3719.here hx rfl (pc0 := 124) (pc' := 128) rfl (hb hby at_124) (by decide) (by decide)) ?_
      show Ends p e below _ T3719 (mkF m 128 #[iv i0, iv i1, iv i2, iv i3, iv (i0 &&& (3 : Int32)), iv (i1 &&& (3 : Int32)), rv a1406, rv a1433, rv a1479, rv a3422, rv a3576] [(.int (1 : Int32)), (.int (1 : Int32))])
      refine go (fun _ => XS.icmpNo X3719.here hx rfl (hb hby at_128) rfl (XT.ii_ne_f ((by decide) : (1 : Int32) = (1 : Int32)))) ?_
      show Ends p e below _ T3719 (mkF m 131 #[iv i0, iv i1, iv i2, iv i3, iv (i0 &&& (3 : Int32)), iv (i1 &&& (3 : Int32)), rv a1406, rv a1433, rv a1479, rv a3422, rv a3576] [])
      refine go (fun _ => XT.iconstV X3719.here hx rfl (1 : Int32) (hb hby at_131) (by decide)) ?_
      refine go (fun _ => XS.goto X3719.here hx rfl (pc0 := 132) (pc' := 136) rfl (hb hby at_132) (by decide) (by decide)) ?_
      show Ends p e below _ T3719 (mkF m 136 #[iv i0, iv i1, iv i2, iv i3, iv (i0 &&& (3 : Int32)), iv (i1 &&& (3 : Int32)), rv a1406, rv a1433, rv a1479, rv a3422, rv a3576] [(.int (1 : Int32))])
      exact endN X3719 hx hret (by simp) (hb hby at_136) (lvW X3719 hlk hZ (own_EW hw) hs0 hS hk H3716 e3719 (fun h => by rw [hret] at h; cases h) ⟨rfl, N3719a⟩ (by decide) (by decide))
    · have N3422a := Fr.app N1479a N3422
      have C3743 : CHr Z own_EL T1464.vm h1479 T1464.vm h3422 := CHr.keep K3422 sf0 H3418.1
      have hk := Nat.le_trans hk C3743.2.1
      have H3743 := H3418.trans C3743
      have O3744 : Ext Z.heap h3422 := xk O3419 K3422 all0
      show Ends p e below _ T3422 (mkF m 74 #[iv i0, iv i1, iv i2, iv i3, iv (i0 &&& (3 : Int32)), iv (i1 &&& (3 : Int32)), rv a1406, rv a1433, rv a1479, .unset, .unset] [(.ref a3422)])
      refine go (fun _ => XS.astore X3422.here hx rfl (hb hby at_74) rfl rfl (l' := #[iv i0, iv i1, iv i2, iv i3, iv (i0 &&& (3 : Int32)), iv (i1 &&& (3 : Int32)), rv a1406, rv a1433, rv a1479, rv a3422, .unset]) rfl) ?_
      show Ends p e below _ T3422 (mkF m 76 #[iv i0, iv i1, iv i2, iv i3, iv (i0 &&& (3 : Int32)), iv (i1 &&& (3 : Int32)), rv a1406, rv a1433, rv a1479, rv a3422, .unset] [])
      obtain ⟨T3745, h3745, X3745, e3745, E3745, A3745, D3745, U3745, s3745⟩ := newO X3422 hx hZ hown (hwi hw 107 rfl) (hwi hw 108 rfl) (hwi hw 109 rfl) e3422 (g := (mkF m 76 #[iv i0, iv i1, iv i2, iv i3, iv (i0 &&& (3 : Int32)), iv (i1 &&& (3 : Int32)), rv a1406, rv a1433, rv a1479, rv a3422, .unset] [])) rfl (hb hby at_76) (by decide) (by decide)
      have F3746 := (Exa.keep F3421 K3422)
      have F3748 := (Exa.keep F3420 K3422)
      have F3750 := (Exa.keep E1479 K3422)
      have F3753 := (Arv.keep V1479 K3422 nin0)
      obtain ⟨a3745, g3745⟩ : ∃ z : Addr, z = h3422.size := ⟨_, rfl⟩
      have n3754 : a1406 ≠ a3745 := fun q => absurd (F3746.lt) (by rw [q, g3745]; exact Nat.lt_irrefl _)
      have n3756 : a1433 ≠ a3745 := fun q => absurd (F3748.lt) (by rw [q, g3745]; exact Nat.lt_irrefl _)
      have f3745 : Z.heap.size ≤ a3745 := by rw [g3745]; exact (O3744).1
      rw [← g3745] at A3745 D3745 U3745 s3745
      have C3764 : CHr Z own_EL T1464.vm h3422 T1464.vm h3745 := CHr.ext E3745 H3743.1
      have hk := Nat.le_trans hk C3764.2.1
      have H3764 := H3743.trans C3764
      have O3765 : Ext Z.heap h3745 := xx O3744 E3745
      have SF3745 : Safe Z own_EL T1464.vm h3745 a3745 := Safe.ext E3745 H3743.1 (Safe.new (by rw [g3745]; exact Nat.le_refl _))
      refine go s3745 ?_
      show Ends p e below _ T3745 (mkF m 79 #[iv i0, iv i1, iv i2, iv i3, iv (i0 &&& (3 : Int32)), iv (i1 &&& (3 : Int32)), rv a1406, rv a1433, rv a1479, rv a3422, .unset] [(.ref a3745)])
      refine go (fun _ => XS.dup X3745.here hx rfl (hb hby at_79) rfl rfl) ?_
      refine go (fun _ => XS.iloadN X3745.here hx rfl (hb hby at_80) rfl) ?_
      refine go (fun _ => XT.bipushV X3745.here hx rfl (8 : Int32) (hb hby at_81) (by decide)) ?_
      refine go (fun _ => XT.iushr X3745.here hx rfl (hb hby at_83) rfl) ?_
      refine go (fun _ => XT.sipushV X3745.here hx rfl (255 : Int32) (hb hby at_84) (by decide)) ?_
      refine go (fun _ => XS.iand X3745.here hx rfl (hb hby at_87) rfl) ?_
      show Ends p e below _ T3745 (mkF m 88 #[iv i0, iv i1, iv i2, iv i3, iv (i0 &&& (3 : Int32)), iv (i1 &&& (3 : Int32)), rv a1406, rv a1433, rv a1479, rv a3422, .unset] [(.int ((XT.ushr i2 (8 : Int32)) &&& (255 : Int32))), (.ref a3745), (.ref a3745)])
      refine go (fun _ => XT.i2c X3745.here hx rfl (hb hby at_88) rfl) ?_
      show Ends p e below _ T3745 (mkF m 89 #[iv i0, iv i1, iv i2, iv i3, iv (i0 &&& (3 : Int32)), iv (i1 &&& (3 : Int32)), rv a1406, rv a1433, rv a1479, rv a3422, .unset] [(.int ((XT.ushr i2 (8 : Int32)) &&& (255 : Int32)).toUInt32.toUInt16.toUInt32.toInt32), (.ref a3745), (.ref a3745)])
      obtain ⟨ch3766, hch3766⟩ : ∃ z : Int32, z = ((XT.ushr i2 (8 : Int32)) &&& (255 : Int32)).toUInt32.toUInt16.toUInt32.toInt32 := ⟨_, rfl⟩
      have lc3766 : ¬ (255 : Int32) < ch3766 := by rw [hch3766]; exact (own_ch _).1
      rw [← hch3766]
      show Ends p e below _ T3745 (mkF m 89 #[iv i0, iv i1, iv i2, iv i3, iv (i0 &&& (3 : Int32)), iv (i1 &&& (3 : Int32)), rv a1406, rv a1433, rv a1479, rv a3422, .unset] [(.int ch3766), (.ref a3745), (.ref a3745)])
      refine cStat X3745 hx hZ hown (by rw [hml]; rfl) e3745 (hwi hw 3 rfl) (hwi hw 4 rfl) (hwi hw 5 rfl) (hwi hw 6 rfl) [(.int ch3766)] [(.ref a3745), (.ref a3745)] rfl (rm_cvalueOf hw ch3766 _ O3765 lc3766 cz SCS hcz) (hb hby at_89) rfl (lenOf pd_36 rfl) (by decide) (by decide) (Nat.le_of_ble_eq_true rfl) (by decide) (by decide) ?_
      rintro v3767 T3767 h3767 L3767 X3767 e3767 ⟨a3767, b3767, k3767, rfl, N3767, K3767, ga3767, gb3767, nn3767, E3767, Fv3767, Fc3767, V3767⟩
      have N3767a := Fr.app N3422a N3767
      have F3768 := (Exa.ext E3745 F3746)
      have F3772 := (Exa.ext E3745 F3748)
      have F3776 := (Exa.ext E3745 F3750)
      have F3778 := (Exa.ext E3745 E3422)
      have F3785 := (Arv.ext F3753 E3745)
      have F3787 := (Arv.ext V3422 E3745)
      have C3802 : CHr Z own_EL T1464.vm h3745 T1464.vm h3767 := CHr.keep K3767 sf0 H3764.1
      have hk := Nat.le_trans hk C3802.2.1
      have H3802 := H3764.trans C3802
      have O3803 : Ext Z.heap h3767 := xk O3765 K3767 all0
      show Ends p e below _ T3767 (mkF m 92 #[iv i0, iv i1, iv i2, iv i3, iv (i0 &&& (3 : Int32)), iv (i1 &&& (3 : Int32)), rv a1406, rv a1433, rv a1479, rv a3422, .unset] [(.ref a3767), (.ref a3745), (.ref a3745)])
      refine go (fun _ => XS.iloadN X3767.here hx rfl (hb hby at_92) rfl) ?_
      refine go (fun _ => XT.bipushV X3767.here hx rfl (8 : Int32) (hb hby at_93) (by decide)) ?_
      refine go (fun _ => XT.iushr X3767.here hx rfl (hb hby at_95) rfl) ?_
      refine go (fun _ => XT.sipushV X3767.here hx rfl (255 : Int32) (hb hby at_96) (by decide)) ?_
      refine go (fun _ => XS.iand X3767.here hx rfl (hb hby at_99) rfl) ?_
      refine go (fun _ => XT.i2c X3767.here hx rfl (hb hby at_100) rfl) ?_
      show Ends p e below _ T3767 (mkF m 101 #[iv i0, iv i1, iv i2, iv i3, iv (i0 &&& (3 : Int32)), iv (i1 &&& (3 : Int32)), rv a1406, rv a1433, rv a1479, rv a3422, .unset] [(.int ((XT.ushr i3 (8 : Int32)) &&& (255 : Int32)).toUInt32.toUInt16.toUInt32.toInt32), (.ref a3767), (.ref a3745), (.ref a3745)])
      obtain ⟨ch3804, hch3804⟩ : ∃ z : Int32, z = ((XT.ushr i3 (8 : Int32)) &&& (255 : Int32)).toUInt32.toUInt16.toUInt32.toInt32 := ⟨_, rfl⟩
      have lc3804 : ¬ (255 : Int32) < ch3804 := by rw [hch3804]; exact (own_ch _).1
      rw [← hch3804]
      show Ends p e below _ T3767 (mkF m 101 #[iv i0, iv i1, iv i2, iv i3, iv (i0 &&& (3 : Int32)), iv (i1 &&& (3 : Int32)), rv a1406, rv a1433, rv a1479, rv a3422, .unset] [(.int ch3804), (.ref a3767), (.ref a3745), (.ref a3745)])
      refine cStat X3767 hx hZ hown (by rw [hml]; rfl) e3767 (hwi hw 3 rfl) (hwi hw 4 rfl) (hwi hw 5 rfl) (hwi hw 6 rfl) [(.int ch3804)] [(.ref a3767), (.ref a3745), (.ref a3745)] rfl (rm_cvalueOf hw ch3804 _ O3803 lc3804 cz SCS hcz) (hb hby at_101) rfl (lenOf pd_36 rfl) (by decide) (by decide) (Nat.le_of_ble_eq_true rfl) (by decide) (by decide) ?_
      rintro v3805 T3805 h3805 L3805 X3805 e3805 ⟨a3805, b3805, k3805, rfl, N3805, K3805, ga3805, gb3805, nn3805, E3805, Fv3805, Fc3805, V3805⟩
      have N3805a := Fr.app N3767a N3805
      have F3806 := (Exa.keep F3768 K3767)
      have F3810 := (Exa.keep F3772 K3767)
      have F3814 := (Exa.keep F3776 K3767)
      have F3816 := (Exa.keep F3778 K3767)
      have F3818 := (Exa.keep A3745 K3767)
      have F3825 := (Arv.keep F3785 K3767 nin0)
      have F3827 := (Arv.keep F3787 K3767 nin0)
      have C3845 : CHr Z own_EL T1464.vm h3767 T1464.vm h3805 := CHr.keep K3805 sf0 H3802.1
      have hk := Nat.le_trans hk C3845.2.1
      have H3845 := H3802.trans C3845
      have O3846 : Ext Z.heap h3805 := xk O3803 K3805 all0
      show Ends p e below _ T3805 (mkF m 104 #[iv i0, iv i1, iv i2, iv i3, iv (i0 &&& (3 : Int32)), iv (i1 &&& (3 : Int32)), rv a1406, rv a1433, rv a1479, rv a3422, .unset] [(.ref a3805), (.ref a3767), (.ref a3745), (.ref a3745)])
      refine go (fun _ => XS.aload X3805.here hx rfl (hb hby at_104) rfl rfl) ?_
      refine go (fun _ => XS.aload X3805.here hx rfl (hb hby at_106) rfl rfl) ?_
      show Ends p e below _ T3805 (mkF m 108 #[iv i0, iv i1, iv i2, iv i3, iv (i0 &&& (3 : Int32)), iv (i1 &&& (3 : Int32)), rv a1406, rv a1433, rv a1479, rv a3422, .unset] [(.ref a3422), (.ref a1479), (.ref a3805), (.ref a3767), (.ref a3745), (.ref a3745)])
      have F3847 := (Exa.keep F3814 K3805)
      have F3848 := (Fld.keep (Fld.keep (Fld.ext E3745 (Fld.keep F21479 K3422 nin0)) K3767 nin0) K3805 nin0)
      have F3849 := (Fld.keep (Fld.keep (Fld.ext E3745 (Fld.keep F31479 K3422 nin0)) K3767 nin0) K3805 nin0)
      have F3850 := (Arv.keep F3825 K3805 nin0)
      have F3851 := (Exa.keep F3816 K3805)
      have F3852 := (Fld.keep (Fld.keep (Fld.ext E3745 F23422) K3767 nin0) K3805 nin0)
      have F3853 := (Fld.keep (Fld.keep (Fld.ext E3745 F33422) K3767 nin0) K3805 nin0)
      have F3854 := (Arv.keep F3827 K3805 nin0)
      have F3855 := (Exa.keep F3818 K3805)
      have F3856 := (Fld.keep (Fld.keep (D3745 (Or.inr (hwi hw 207 rfl)) (ty := (.object "java/lang/String")) (by decide)) K3767 nin0) K3805 nin0)
      have F3857 := (Fld.keep (Fld.keep (D3745 (Or.inr (hwi hw 209 rfl)) (ty := (.object "java/lang/String")) (by decide)) K3767 nin0) K3805 nin0)
      have F3858 := (Fld.keep (Fld.keep (D3745 (Or.inr (hwi hw 211 rfl)) (ty := (.object "java/util/List")) (by decide)) K3767 nin0) K3805 nin0)
      have F3859 := (Fld.keep (Fld.keep (D3745 (Or.inr (hwi hw 213 rfl)) (ty := (.object "java/util/List")) (by decide)) K3767 nin0) K3805 nin0)
      have F3860 := (Exa.keep F3806 K3805)
      have F3861 := (Exa.keep F3810 K3805)
      refine cInit X3805 hx hZ hown (by rw [hml]; rfl) e3805 (hwi hw 110 rfl) (hwi hw 111 rfl) (hwi hw 109 rfl) (hwi hw 112 rfl) a3745 [(.ref a3767), (.ref a3805), (.ref a1479), (.ref a3422)] [(.ref a3745)] rfl (rm_tab_3_2 hw a3745 a3767 a3805 a1479 a3422 a1406 a1433 b1479 k1479 b3422 k3422 mr aL aN aE kN _ O3846 f3745 F3855 F3856 F3857 F3858 F3859 MM SL XL FL VN SE F3860 F3861 F3847 F3848 F3849 O1479 F3850 F3851 F3852 F3853 O3422 F3854 (Ne.symm n3754) (Ne.symm n3756)) (hb hby at_108) rfl (lenOf pd_39 rfl) rfl (by decide) (by decide) (Nat.le_of_ble_eq_true rfl) (by decide) (by decide) ?_
      rintro v3862 T3862 h3862 L3862 X3862 e3862 ⟨o3862, rfl, N3862, K3862, g3862, F3862, E3862⟩
      have N3862a := Fr.app N3805a N3862
      have F3886 := (Safe.keep K3805 sf0 H3802.1 (Safe.keep K3767 sf0 H3764.1 SF3745))
      have sf3885 : ∀ x ∈ [a3745], Safe Z own_EL T1464.vm h3805 x := (sfS F3886 sf0)
      have C3885 : CHr Z own_EL T1464.vm h3805 T1464.vm h3862 := CHr.keep K3862 sf3885 H3845.1
      have hk := Nat.le_trans hk C3885.2.1
      have H3885 := H3845.trans C3885
      show Ends p e below _ T3862 (mkF m 111 #[iv i0, iv i1, iv i2, iv i3, iv (i0 &&& (3 : Int32)), iv (i1 &&& (3 : Int32)), rv a1406, rv a1433, rv a1479, rv a3422, .unset] [(.ref a3745)])
      refine go (fun _ => XS.astore X3862.here hx rfl (hb hby at_111) rfl rfl (l' := #[iv i0, iv i1, iv i2, iv i3, iv (i0 &&& (3 : Int32)), iv (i1 &&& (3 : Int32)), rv a1406, rv a1433, rv a1479, rv a3422, rv a3745]) rfl) ?_
      refine go (fun _ => XS.aload X3862.here hx rfl (hb hby at_113) rfl rfl) ?_
      show Ends p e below _ T3862 (mkF m 115 #[iv i0, iv i1, iv i2, iv i3, iv (i0 &&& (3 : Int32)), iv (i1 &&& (3 : Int32)), rv a1406, rv a1433, rv a1479, rv a3422, rv a3745] [(.ref a3745)])
      have F3889 := (Exa.keep F3855 K3862)
      refine cVirt X3862 hx hZ hown (by rw [hml]; rfl) e3862 (hwi hw 214 rfl) (hwi hw 215 rfl) (hwi hw 217 rfl) (hwi hw 216 rfl) (hwi hw 109 rfl) (hwi hw 218 rfl) (notFace_of_selects (args := #[]) (mvT hZ (hwi hw 217 rfl))) a3745 F3889 [] [] rfl (rm_hp_1 hw a3745 o3862 _ F3862 E3862) (hb hby at_115) rfl (lenOf pd_23 rfl) (by decide) (by decide) (Nat.le_of_ble_eq_true rfl) (by decide) (by decide) ?_
      rintro v3888 T3888 h3888 L3888 X3888 e3888 ⟨rfl, N3888, rfl⟩
      have N3888a := Fr.app N3862a N3888
      show Ends p e below _ T3888 (mkF m 118 #[iv i0, iv i1, iv i2, iv i3, iv (i0 &&& (3 : Int32)), iv (i1 &&& (3 : Int32)), rv a1406, rv a1433, rv a1479, rv a3422, rv a3745] [(.int (1 : Int32))])
      refine go (fun _ => XS.iload X3888.here hx rfl (hb hby at_118) rfl) ?_
      show Ends p e below _ T3888 (mkF m 120 #[iv i0, iv i1, iv i2, iv i3, iv (i0 &&& (3 : Int32)), iv (i1 &&& (3 : Int32)), rv a1406, rv a1433, rv a1479, rv a3422, rv a3745] [(.int (i0 &&& (3 : Int32))), (.int (1 : Int32))])
      refine go (fun _ => XS.ifNo X3888.here hx rfl (hb hby at_120) rfl (XT.i0_eq_f ((by rw [c3422]; decide) : ¬ ((i0 &&& (3 : Int32)) = (0 : Int32))))) ?_
      show Ends p e below _ T3888 (mkF m 123 #[iv i0, iv i1, iv i2, iv i3, iv (i0 &&& (3 : Int32)), iv (i1 &&& (3 : Int32)), rv a1406, rv a1433, rv a1479, rv a3422, rv a3745] [(.int (1 : Int32))])
      refine go (fun _ => XT.iconstV X3888.here hx rfl (1 : Int32) (hb hby at_123) (by decide)) ?_
      refine go (fun _ => XS.goto X3888.here hx rfl (pc0 := 124) (pc' := 128) rfl (hb hby at_124) (by decide) (by decide)) ?_
      show Ends p e below _ T3888 (mkF m 128 #[iv i0, iv i1, iv i2, iv i3, iv (i0 &&& (3 : Int32)), iv (i1 &&& (3 : Int32)), rv a1406, rv a1433, rv a1479, rv a3422, rv a3745] [(.int (1 : Int32)), (.int (1 : Int32))])
      refine go (fun _ => XS.icmpNo X3888.here hx rfl (hb hby at_128) rfl (XT.ii_ne_f ((by decide) : (1 : Int32) = (1 : Int32)))) ?_
      show Ends p e below _ T3888 (mkF m 131 #[iv i0, iv i1, iv i2, iv i3, iv (i0 &&& (3 : Int32)), iv (i1 &&& (3 : Int32)), rv a1406, rv a1433, rv a1479, rv a3422, rv a3745] [])
      refine go (fun _ => XT.iconstV X3888.here hx rfl (1 : Int32) (hb hby at_131) (by decide)) ?_
      refine go (fun _ => XS.goto X3888.here hx rfl (pc0 := 132) (pc' := 136) rfl (hb hby at_132) (by decide) (by decide)) ?_
      show Ends p e below _ T3888 (mkF m 136 #[iv i0, iv i1, iv i2, iv i3, iv (i0 &&& (3 : Int32)), iv (i1 &&& (3 : Int32)), rv a1406, rv a1433, rv a1479, rv a3422, rv a3745] [(.int (1 : Int32))])
      exact endN X3888 hx hret (by simp) (hb hby at_136) (lvW X3888 hlk hZ (own_EW hw) hs0 hS hk H3885 e3888 (fun h => by rw [hret] at h; cases h) ⟨rfl, N3888a⟩ (by decide) (by decide))
    · have N3422a := Fr.app N1479a N3422
      have C3912 : CHr Z own_EL T1464.vm h1479 T1464.vm h3422 := CHr.keep K3422 sf0 H3418.1
      have hk := Nat.le_trans hk C3912.2.1
      have H3912 := H3418.trans C3912
      have O3913 : Ext Z.heap h3422 := xk O3419 K3422 all0
      show Ends p e below _ T3422 (mkF m 74 #[iv i0, iv i1, iv i2, iv i3, iv (i0 &&& (3 : Int32)), iv (i1 &&& (3 : Int32)), rv a1406, rv a1433, rv a1479, .unset, .unset] [(.ref a3422)])
      refine go (fun _ => XS.astore X3422.here hx rfl (hb hby at_74) rfl rfl (l' := #[iv i0, iv i1, iv i2, iv i3, iv (i0 &&& (3 : Int32)), iv (i1 &&& (3 : Int32)), rv a1406, rv a1433, rv a1479, rv a3422, .unset]) rfl) ?_
      show Ends p e below _ T3422 (mkF m 76 #[iv i0, iv i1, iv i2, iv i3, iv (i0 &&& (3 : Int32)), iv (i1 &&& (3 : Int32)), rv a1406, rv a1433, rv a1479, rv a3422, .unset] [])
      obtain ⟨T3914, h3914, X3914, e3914, E3914, A3914, D3914, U3914, s3914⟩ := newO X3422 hx hZ hown (hwi hw 107 rfl) (hwi hw 108 rfl) (hwi hw 109 rfl) e3422 (g := (mkF m 76 #[iv i0, iv i1, iv i2, iv i3, iv (i0 &&& (3 : Int32)), iv (i1 &&& (3 : Int32)), rv a1406, rv a1433, rv a1479, rv a3422, .unset] [])) rfl (hb hby at_76) (by decide) (by decide)
      have F3915 := (Exa.keep F3421 K3422)
      have F3917 := (Exa.keep F3420 K3422)
      have F3919 := (Exa.keep E1479 K3422)
      have F3922 := (Arv.keep V1479 K3422 nin0)
      obtain ⟨a3914, g3914⟩ : ∃ z : Addr, z = h3422.size := ⟨_, rfl⟩
      have n3923 : a1406 ≠ a3914 := fun q => absurd (F3915.lt) (by rw [q, g3914]; exact Nat.lt_irrefl _)
      have n3925 : a1433 ≠ a3914 := fun q => absurd (F3917.lt) (by rw [q, g3914]; exact Nat.lt_irrefl _)
      have f3914 : Z.heap.size ≤ a3914 := by rw [g3914]; exact (O3913).1
      rw [← g3914] at A3914 D3914 U3914 s3914
      have C3933 : CHr Z own_EL T1464.vm h3422 T1464.vm h3914 := CHr.ext E3914 H3912.1
      have hk := Nat.le_trans hk C3933.2.1
      have H3933 := H3912.trans C3933
      have O3934 : Ext Z.heap h3914 := xx O3913 E3914
      have SF3914 : Safe Z own_EL T1464.vm h3914 a3914 := Safe.ext E3914 H3912.1 (Safe.new (by rw [g3914]; exact Nat.le_refl _))
      refine go s3914 ?_
      show Ends p e below _ T3914 (mkF m 79 #[iv i0, iv i1, iv i2, iv i3, iv (i0 &&& (3 : Int32)), iv (i1 &&& (3 : Int32)), rv a1406, rv a1433, rv a1479, rv a3422, .unset] [(.ref a3914)])
      refine go (fun _ => XS.dup X3914.here hx rfl (hb hby at_79) rfl rfl) ?_
      refine go (fun _ => XS.iloadN X3914.here hx rfl (hb hby at_80) rfl) ?_
      refine go (fun _ => XT.bipushV X3914.here hx rfl (8 : Int32) (hb hby at_81) (by decide)) ?_
      refine go (fun _ => XT.iushr X3914.here hx rfl (hb hby at_83) rfl) ?_
      refine go (fun _ => XT.sipushV X3914.here hx rfl (255 : Int32) (hb hby at_84) (by decide)) ?_
      refine go (fun _ => XS.iand X3914.here hx rfl (hb hby at_87) rfl) ?_
      show Ends p e below _ T3914 (mkF m 88 #[iv i0, iv i1, iv i2, iv i3, iv (i0 &&& (3 : Int32)), iv (i1 &&& (3 : Int32)), rv a1406, rv a1433, rv a1479, rv a3422, .unset] [(.int ((XT.ushr i2 (8 : Int32)) &&& (255 : Int32))), (.ref a3914), (.ref a3914)])
      refine go (fun _ => XT.i2c X3914.here hx rfl (hb hby at_88) rfl) ?_
      show Ends p e below _ T3914 (mkF m 89 #[iv i0, iv i1, iv i2, iv i3, iv (i0 &&& (3 : Int32)), iv (i1 &&& (3 : Int32)), rv a1406, rv a1433, rv a1479, rv a3422, .unset] [(.int ((XT.ushr i2 (8 : Int32)) &&& (255 : Int32)).toUInt32.toUInt16.toUInt32.toInt32), (.ref a3914), (.ref a3914)])
      obtain ⟨ch3935, hch3935⟩ : ∃ z : Int32, z = ((XT.ushr i2 (8 : Int32)) &&& (255 : Int32)).toUInt32.toUInt16.toUInt32.toInt32 := ⟨_, rfl⟩
      have lc3935 : ¬ (255 : Int32) < ch3935 := by rw [hch3935]; exact (own_ch _).1
      rw [← hch3935]
      show Ends p e below _ T3914 (mkF m 89 #[iv i0, iv i1, iv i2, iv i3, iv (i0 &&& (3 : Int32)), iv (i1 &&& (3 : Int32)), rv a1406, rv a1433, rv a1479, rv a3422, .unset] [(.int ch3935), (.ref a3914), (.ref a3914)])
      refine cStat X3914 hx hZ hown (by rw [hml]; rfl) e3914 (hwi hw 3 rfl) (hwi hw 4 rfl) (hwi hw 5 rfl) (hwi hw 6 rfl) [(.int ch3935)] [(.ref a3914), (.ref a3914)] rfl (rm_cvalueOf hw ch3935 _ O3934 lc3935 cz SCS hcz) (hb hby at_89) rfl (lenOf pd_36 rfl) (by decide) (by decide) (Nat.le_of_ble_eq_true rfl) (by decide) (by decide) ?_
      rintro v3936 T3936 h3936 L3936 X3936 e3936 ⟨a3936, b3936, k3936, rfl, N3936, K3936, ga3936, gb3936, nn3936, E3936, Fv3936, Fc3936, V3936⟩
      have N3936a := Fr.app N3422a N3936
      have F3937 := (Exa.ext E3914 F3915)
      have F3941 := (Exa.ext E3914 F3917)
      have F3945 := (Exa.ext E3914 F3919)
      have F3947 := (Exa.ext E3914 E3422)
      have F3954 := (Arv.ext F3922 E3914)
      have F3956 := (Arv.ext V3422 E3914)
      have C3971 : CHr Z own_EL T1464.vm h3914 T1464.vm h3936 := CHr.keep K3936 sf0 H3933.1
      have hk := Nat.le_trans hk C3971.2.1
      have H3971 := H3933.trans C3971
      have O3972 : Ext Z.heap h3936 := xk O3934 K3936 all0
      show Ends p e below _ T3936 (mkF m 92 #[iv i0, iv i1, iv i2, iv i3, iv (i0 &&& (3 : Int32)), iv (i1 &&& (3 : Int32)), rv a1406, rv a1433, rv a1479, rv a3422, .unset] [(.ref a3936), (.ref a3914), (.ref a3914)])
      refine go (fun _ => XS.iloadN X3936.here hx rfl (hb hby at_92) rfl) ?_
      refine go (fun _ => XT.bipushV X3936.here hx rfl (8 : Int32) (hb hby at_93) (by decide)) ?_
      refine go (fun _ => XT.iushr X3936.here hx rfl (hb hby at_95) rfl) ?_
      refine go (fun _ => XT.sipushV X3936.here hx rfl (255 : Int32) (hb hby at_96) (by decide)) ?_
      refine go (fun _ => XS.iand X3936.here hx rfl (hb hby at_99) rfl) ?_
      refine go (fun _ => XT.i2c X3936.here hx rfl (hb hby at_100) rfl) ?_
      show Ends p e below _ T3936 (mkF m 101 #[iv i0, iv i1, iv i2, iv i3, iv (i0 &&& (3 : Int32)), iv (i1 &&& (3 : Int32)), rv a1406, rv a1433, rv a1479, rv a3422, .unset] [(.int ((XT.ushr i3 (8 : Int32)) &&& (255 : Int32)).toUInt32.toUInt16.toUInt32.toInt32), (.ref a3936), (.ref a3914), (.ref a3914)])
      obtain ⟨ch3973, hch3973⟩ : ∃ z : Int32, z = ((XT.ushr i3 (8 : Int32)) &&& (255 : Int32)).toUInt32.toUInt16.toUInt32.toInt32 := ⟨_, rfl⟩
      have lc3973 : ¬ (255 : Int32) < ch3973 := by rw [hch3973]; exact (own_ch _).1
      rw [← hch3973]
      show Ends p e below _ T3936 (mkF m 101 #[iv i0, iv i1, iv i2, iv i3, iv (i0 &&& (3 : Int32)), iv (i1 &&& (3 : Int32)), rv a1406, rv a1433, rv a1479, rv a3422, .unset] [(.int ch3973), (.ref a3936), (.ref a3914), (.ref a3914)])
      refine cStat X3936 hx hZ hown (by rw [hml]; rfl) e3936 (hwi hw 3 rfl) (hwi hw 4 rfl) (hwi hw 5 rfl) (hwi hw 6 rfl) [(.int ch3973)] [(.ref a3936), (.ref a3914), (.ref a3914)] rfl (rm_cvalueOf hw ch3973 _ O3972 lc3973 cz SCS hcz) (hb hby at_101) rfl (lenOf pd_36 rfl) (by decide) (by decide) (Nat.le_of_ble_eq_true rfl) (by decide) (by decide) ?_
      rintro v3974 T3974 h3974 L3974 X3974 e3974 ⟨a3974, b3974, k3974, rfl, N3974, K3974, ga3974, gb3974, nn3974, E3974, Fv3974, Fc3974, V3974⟩
      have N3974a := Fr.app N3936a N3974
      have F3975 := (Exa.keep F3937 K3936)
      have F3979 := (Exa.keep F3941 K3936)
      have F3983 := (Exa.keep F3945 K3936)
      have F3985 := (Exa.keep F3947 K3936)
      have F3987 := (Exa.keep A3914 K3936)
      have F3994 := (Arv.keep F3954 K3936 nin0)
      have F3996 := (Arv.keep F3956 K3936 nin0)
      have C4014 : CHr Z own_EL T1464.vm h3936 T1464.vm h3974 := CHr.keep K3974 sf0 H3971.1
      have hk := Nat.le_trans hk C4014.2.1
      have H4014 := H3971.trans C4014
      have O4015 : Ext Z.heap h3974 := xk O3972 K3974 all0
      show Ends p e below _ T3974 (mkF m 104 #[iv i0, iv i1, iv i2, iv i3, iv (i0 &&& (3 : Int32)), iv (i1 &&& (3 : Int32)), rv a1406, rv a1433, rv a1479, rv a3422, .unset] [(.ref a3974), (.ref a3936), (.ref a3914), (.ref a3914)])
      refine go (fun _ => XS.aload X3974.here hx rfl (hb hby at_104) rfl rfl) ?_
      refine go (fun _ => XS.aload X3974.here hx rfl (hb hby at_106) rfl rfl) ?_
      show Ends p e below _ T3974 (mkF m 108 #[iv i0, iv i1, iv i2, iv i3, iv (i0 &&& (3 : Int32)), iv (i1 &&& (3 : Int32)), rv a1406, rv a1433, rv a1479, rv a3422, .unset] [(.ref a3422), (.ref a1479), (.ref a3974), (.ref a3936), (.ref a3914), (.ref a3914)])
      have F4016 := (Exa.keep F3983 K3974)
      have F4017 := (Fld.keep (Fld.keep (Fld.ext E3914 (Fld.keep F21479 K3422 nin0)) K3936 nin0) K3974 nin0)
      have F4018 := (Fld.keep (Fld.keep (Fld.ext E3914 (Fld.keep F31479 K3422 nin0)) K3936 nin0) K3974 nin0)
      have F4019 := (Arv.keep F3994 K3974 nin0)
      have F4020 := (Exa.keep F3985 K3974)
      have F4021 := (Fld.keep (Fld.keep (Fld.ext E3914 F23422) K3936 nin0) K3974 nin0)
      have F4022 := (Fld.keep (Fld.keep (Fld.ext E3914 F33422) K3936 nin0) K3974 nin0)
      have F4023 := (Arv.keep F3996 K3974 nin0)
      have F4024 := (Exa.keep F3987 K3974)
      have F4025 := (Fld.keep (Fld.keep (D3914 (Or.inr (hwi hw 207 rfl)) (ty := (.object "java/lang/String")) (by decide)) K3936 nin0) K3974 nin0)
      have F4026 := (Fld.keep (Fld.keep (D3914 (Or.inr (hwi hw 209 rfl)) (ty := (.object "java/lang/String")) (by decide)) K3936 nin0) K3974 nin0)
      have F4027 := (Fld.keep (Fld.keep (D3914 (Or.inr (hwi hw 211 rfl)) (ty := (.object "java/util/List")) (by decide)) K3936 nin0) K3974 nin0)
      have F4028 := (Fld.keep (Fld.keep (D3914 (Or.inr (hwi hw 213 rfl)) (ty := (.object "java/util/List")) (by decide)) K3936 nin0) K3974 nin0)
      have F4029 := (Exa.keep F3975 K3974)
      have F4030 := (Exa.keep F3979 K3974)
      refine cInit X3974 hx hZ hown (by rw [hml]; rfl) e3974 (hwi hw 110 rfl) (hwi hw 111 rfl) (hwi hw 109 rfl) (hwi hw 112 rfl) a3914 [(.ref a3936), (.ref a3974), (.ref a1479), (.ref a3422)] [(.ref a3914)] rfl (rm_tab_3_3 hw a3914 a3936 a3974 a1479 a3422 a1406 a1433 b1479 k1479 b3422 k3422 mr aL aN aE kN _ O4015 f3914 F4024 F4025 F4026 F4027 F4028 MM SL XL FL VN SE F4029 F4030 F4016 F4017 F4018 O1479 F4019 F4020 F4021 F4022 O3422 F4023 (Ne.symm n3923) (Ne.symm n3925)) (hb hby at_108) rfl (lenOf pd_39 rfl) rfl (by decide) (by decide) (Nat.le_of_ble_eq_true rfl) (by decide) (by decide) ?_
      rintro v4031 T4031 h4031 L4031 X4031 e4031 ⟨o4031, r4031, kr4031, rfl, N4031, K4031, g4031, F4031, E4031, Fa4031, Fb4031⟩
      have N4031a := Fr.app N3974a N4031
      have F4055 := (Safe.keep K3974 sf0 H3971.1 (Safe.keep K3936 sf0 H3933.1 SF3914))
      have sf4054 : ∀ x ∈ [a3914], Safe Z own_EL T1464.vm h3974 x := (sfS F4055 sf0)
      have C4054 : CHr Z own_EL T1464.vm h3974 T1464.vm h4031 := CHr.keep K4031 sf4054 H4014.1
      have hk := Nat.le_trans hk C4054.2.1
      have H4054 := H4014.trans C4054
      show Ends p e below _ T4031 (mkF m 111 #[iv i0, iv i1, iv i2, iv i3, iv (i0 &&& (3 : Int32)), iv (i1 &&& (3 : Int32)), rv a1406, rv a1433, rv a1479, rv a3422, .unset] [(.ref a3914)])
      refine go (fun _ => XS.astore X4031.here hx rfl (hb hby at_111) rfl rfl (l' := #[iv i0, iv i1, iv i2, iv i3, iv (i0 &&& (3 : Int32)), iv (i1 &&& (3 : Int32)), rv a1406, rv a1433, rv a1479, rv a3422, rv a3914]) rfl) ?_
      refine go (fun _ => XS.aload X4031.here hx rfl (hb hby at_113) rfl rfl) ?_
      show Ends p e below _ T4031 (mkF m 115 #[iv i0, iv i1, iv i2, iv i3, iv (i0 &&& (3 : Int32)), iv (i1 &&& (3 : Int32)), rv a1406, rv a1433, rv a1479, rv a3422, rv a3914] [(.ref a3914)])
      have F4058 := (Exa.keep F4024 K4031)
      refine cVirt X4031 hx hZ hown (by rw [hml]; rfl) e4031 (hwi hw 214 rfl) (hwi hw 215 rfl) (hwi hw 217 rfl) (hwi hw 216 rfl) (hwi hw 109 rfl) (hwi hw 218 rfl) (notFace_of_selects (args := #[]) (mvT hZ (hwi hw 217 rfl))) a3914 F4058 [] [] rfl (rm_hp_3 hw a3914 o4031 r4031 kr4031 _ _ F4031 E4031 Fa4031 Fb4031) (hb hby at_115) rfl (lenOf pd_23 rfl) (by decide) (by decide) (Nat.le_of_ble_eq_true rfl) (by decide) (by decide) ?_
      rintro v4057 T4057 h4057 L4057 X4057 e4057 ⟨rfl, N4057, rfl⟩
      have N4057a := Fr.app N4031a N4057
      show Ends p e below _ T4057 (mkF m 118 #[iv i0, iv i1, iv i2, iv i3, iv (i0 &&& (3 : Int32)), iv (i1 &&& (3 : Int32)), rv a1406, rv a1433, rv a1479, rv a3422, rv a3914] [(.int (1 : Int32))])
      refine go (fun _ => XS.iload X4057.here hx rfl (hb hby at_118) rfl) ?_
      show Ends p e below _ T4057 (mkF m 120 #[iv i0, iv i1, iv i2, iv i3, iv (i0 &&& (3 : Int32)), iv (i1 &&& (3 : Int32)), rv a1406, rv a1433, rv a1479, rv a3422, rv a3914] [(.int (i0 &&& (3 : Int32))), (.int (1 : Int32))])
      refine go (fun _ => XS.ifNo X4057.here hx rfl (hb hby at_120) rfl (XT.i0_eq_f ((by rw [c3422]; decide) : ¬ ((i0 &&& (3 : Int32)) = (0 : Int32))))) ?_
      show Ends p e below _ T4057 (mkF m 123 #[iv i0, iv i1, iv i2, iv i3, iv (i0 &&& (3 : Int32)), iv (i1 &&& (3 : Int32)), rv a1406, rv a1433, rv a1479, rv a3422, rv a3914] [(.int (1 : Int32))])
      refine go (fun _ => XT.iconstV X4057.here hx rfl (1 : Int32) (hb hby at_123) (by decide)) ?_
      refine go (fun _ => XS.goto X4057.here hx rfl (pc0 := 124) (pc' := 128) rfl (hb hby at_124) (by decide) (by decide)) ?_
      show Ends p e below _ T4057 (mkF m 128 #[iv i0, iv i1, iv i2, iv i3, iv (i0 &&& (3 : Int32)), iv (i1 &&& (3 : Int32)), rv a1406, rv a1433, rv a1479, rv a3422, rv a3914] [(.int (1 : Int32)), (.int (1 : Int32))])
      refine go (fun _ => XS.icmpNo X4057.here hx rfl (hb hby at_128) rfl (XT.ii_ne_f ((by decide) : (1 : Int32) = (1 : Int32)))) ?_
      show Ends p e below _ T4057 (mkF m 131 #[iv i0, iv i1, iv i2, iv i3, iv (i0 &&& (3 : Int32)), iv (i1 &&& (3 : Int32)), rv a1406, rv a1433, rv a1479, rv a3422, rv a3914] [])
      refine go (fun _ => XT.iconstV X4057.here hx rfl (1 : Int32) (hb hby at_131) (by decide)) ?_
      refine go (fun _ => XS.goto X4057.here hx rfl (pc0 := 132) (pc' := 136) rfl (hb hby at_132) (by decide) (by decide)) ?_
      show Ends p e below _ T4057 (mkF m 136 #[iv i0, iv i1, iv i2, iv i3, iv (i0 &&& (3 : Int32)), iv (i1 &&& (3 : Int32)), rv a1406, rv a1433, rv a1479, rv a3422, rv a3914] [(.int (1 : Int32))])
      exact endN X4057 hx hret (by simp) (hb hby at_136) (lvW X4057 hlk hZ (own_EW hw) hs0 hS hk H4054 e4057 (fun h => by rw [hret] at h; cases h) ⟨rfl, N4057a⟩ (by decide) (by decide))
set_option maxRecDepth 65536 in
set_option maxHeartbeats 40000000 in
theorem comes_1 {Post : Tables → Env → Array Value → State → Outcome → State → Prop} (hpost : ∀ tb e args s v u, (limb_1_1.after args s (.returned v) u = true ∧ limb_1_2.after args s (.returned v) u = true ∧ True) → ReturnedEndW s (.returned v) u (Jvm.fieldLocs frame_1_writes args s ++ Jvm.arrayLocs frame_1_arrays args s ++ Jvm.staticLocs frame_1_statics s) 56 2304 → Post tb e args s (.returned v) u) :
    ArmFor flags0 classFile x code maxLocals ret World_1 tables_1 room_1 Calls_1 rest_1 Pre_1 Post := by
  intro l hfl _ _ p e ha hc hk s m args below hf hA hF happ hP
  obtain ⟨hcalls, hrest, hpre⟩ := hP
  obtain ⟨-, -, -, hnamed, -, -, -, hat⟩ := (Spec.applies_iff hf).mp happ
  obtain ⟨hg, hn⟩ := and_e (Cond.before_iff.mp (show (Jvm.Cond.and given_1 narrow_1).before args s = true from hpre))
  obtain ⟨gv0, gvtr⟩ := and_e hg
  obtain ⟨gv1, gvtrr⟩ := and_e gvtr
  obtain ⟨gv2, gvtrrr⟩ := and_e gvtrr
  obtain ⟨gv3, gv4⟩ := and_e gvtrrr
  obtain ⟨w0, w1, w2, w3, rfl⟩ : ∃ w0 w1 w2 w3 : Value, args = #[w0, w1, w2, w3] := by
    have hs : args.size = 4 := by simpa [Cond.value, given_1] using gv0
    obtain ⟨L⟩ := args
    match L, hs with
    | [w0, w1, w2, w3], _ => exact ⟨w0, w1, w2, w3, rfl⟩
  have hw := fun d (hd : d ∈ tables_1) => atoms_spec (ws := Jvm.Cond.code x code maxLocals ret :: tables_1) hat d (List.mem_cons_of_mem _ hd)
  have hfit : Fit s := fun {y c} hc i hi => by
    obtain ⟨ha, rfl⟩ := Array.getElem?_eq_some_iff.mp hc
    have q := List.all_eq_true.mp ((Array.all_eq_true_iff_forall_mem.mp hF) _ (Array.getElem_mem ha)) i (List.mem_range.mpr hi)
    simpa [Array.getElem?_eq_getElem hi] using q
  obtain ⟨hsets, hown0⟩ := atoms_of _ (rest_1_c_eq ▸ (show rest_1_c.before _ s = true from hrest))
  obtain ⟨i0, ei0⟩ := is_v gv1
  obtain rfl : w0 = (.int i0) := Option.some.inj ei0
  obtain ⟨i1, ei1⟩ := is_v gv2
  obtain rfl : w1 = (.int i1) := Option.some.inj ei1
  obtain ⟨i2, ei2⟩ := is_v gv3
  obtain rfl : w2 = (.int i2) := Option.some.inj ei2
  obtain ⟨i3, ei3⟩ := is_v gv4
  obtain rfl : w3 = (.int i3) := Option.some.inj ei3
  obtain ⟨cz, evz⟩ := is_v (Cond.before_iff.mp (hsets _ (List.mem_of_getElem? (i := 1) rfl)))
  have SCS := Sta.start evz (Or.inl (hsets _ (List.mem_of_getElem? (i := 0) rfl)))
  have hcz : ¬ cz = (0 : Int32) := gotF (Cond.eq_ints evz (Term.int_eval (0 : Int32))) (not_v (Cond.before_iff.mp (hsets _ (List.mem_of_getElem? (i := 2) rfl))))
  have wD1 := Cond.before_iff.mp (hsets _ (List.mem_of_getElem? (i := 15) rfl))
  obtain ⟨aD, evD⟩ := arr_v wD1
  obtain ⟨cD_, AD_⟩ := Arr.start evD wD1
  have lD_ := own_len evD AD_ (eqv_i (Term.int_eval (0 : Int32)) (Cond.before_iff.mp (hsets _ (List.mem_of_getElem? (i := 17) rfl))))
  have VD : Arv s s.heap aD cD_.cls (.object "java/lang/Object") (0 : Int32) [] .null := Arv.start hfit AD_ lD_.1 lD_.2 (by decide) rfl trivial
  have SD := Sta.start evD (Or.inr ⟨(hwi hw 54 rfl), (hsets _ (List.mem_of_getElem? (i := 11) rfl))⟩)
  have wL1 := Cond.before_iff.mp (hsets _ (List.mem_of_getElem? (i := 20) rfl))
  obtain ⟨aL, evL⟩ := exa_v wL1
  have XL := Exa.start evL wL1
  have SL := Sta.start evL (Or.inl (hsets _ (List.mem_of_getElem? (i := 19) rfl)))
  have wN1 := Cond.before_iff.mp (hsets _ (List.mem_of_getElem? (i := 21) rfl))
  obtain ⟨aN, evN⟩ := arr_v wN1
  obtain ⟨cN_, AN_⟩ := Arr.start evN wN1
  have lN_ := own_len evN AN_ (eqv_i (Term.int_eval (0 : Int32)) (Cond.before_iff.mp (hsets _ (List.mem_of_getElem? (i := 23) rfl))))
  have VN : Arv s s.heap aN cN_.cls (.object "java/lang/Object") (0 : Int32) [] .null := Arv.start hfit AN_ lN_.1 lN_.2 (by decide) rfl trivial
  have FL := Fld.start ((fld_at evL).symm.trans evN)
  obtain ⟨aE, evE⟩ := exa_v (Cond.before_iff.mp (hsets _ (List.mem_of_getElem? (i := 27) rfl)))
  have SE := Sta.start evE (Or.inl (hsets _ (List.mem_of_getElem? (i := 26) rfl)))
  obtain ⟨cm, km, mr, m1, m2, m3, -⟩ := hcalls.1
  have MM : Mid s "[Ljava/lang/Object;" mr := ⟨cm, km, m1, m2, m3⟩
  have hCH : CHv s own_EL s.vm s.heap := fun _ hp => absurd hp List.not_mem_nil
  obtain ⟨n, o, h1, h2, h3, _, L, rfl, ⟨rfl, N⟩, -, hq⟩ := (rm_law (l := l) hw i0 i1 i2 i3 aD cD_.cls mr aL aN aE cN_.cls s.heap ⟨Nat.le_refl _, fun _ _ q => q⟩ cz SCS hcz SD VD MM SL XL FL VN SE) tables_1 p e ha hc hk s m _ below hf ((Spec.applies_iff_loose hf).mp happ).1 ⟨rfl, State.Warmed39.refl s, rfl, hCH⟩ trivial
  refine ⟨n, _, h1, h2, h3, hpost _ _ _ _ _ _ ⟨Cond.after_iff.mpr rfl, Cond.after_iff.mpr (eq_i res_at (Term.int_eval (1)) rfl), trivial⟩ ⟨hq.1, hq.2.1, hq.2.2.1, (hq.2.2.2.sift fun y hy => Or.inr (N y hy)).mono (by decide) (by decide)⟩⟩
theorem main_1_1 : Claimed_1_1 := comes_1 fun _ _ _ _ _ _ h hF => ⟨h.1, hF⟩
theorem main_1_2 : Claimed_1_2 := comes_1 fun _ _ _ _ _ _ h hF => ⟨h.2.1, hF⟩
end Jvm.Pilot.@@N@@
namespace Jvm.Pilot.@@N@@
open Jvm Jvm.ClassFile Sem Op Lib Jvm.Free Jvm.Stand Jvm.Pilot.@@N@@.Jvm.D
/-! MADE BY PROGRAM (witnessworld.py) out of the Statement's table words and the real class files: 38 classes; the members and pool entries that the words name. The judged class is class 1, her method 1. -/
namespace start1
open Jvm.ClassFile
def u (s : String) : CpInfo := .utf8 (stringToUtf16 s)
/-- a pool by its gaps: so many unusable entries, then the entry; so many at the end -/
def gap : Nat → List CpInfo → List CpInfo
  | 0, r => r
  | n + 1, r => .unusable :: gap n r
def poolList (es : List (Nat × CpInfo)) (last : Nat) : List CpInfo := es.foldr (fun e r => gap e.1 (e.2 :: r)) (gap last [])
def pool (es : List (Nat × CpInfo)) (last : Nat) : Array CpInfo := ⟨poolList es last⟩
def fileOf (pool : Array CpInfo) (this : Nat) (attrs : Array Attribute := #[]) (ms : Array MethodInfo := #[]) (fl : Nat := 33) (sup : Nat := 0) (ifs : Array Nat := #[]) (fds : Array FieldInfo := #[]) : ClassFile where
  minorVersion := 0
  majorVersion := 65
  constantPool := pool
  accessFlags := fl
  thisClass := this
  superClass := sup
  interfaces := ifs
  fields := fds
  methods := ms
  attributes := attrs
def plain (name : String) (sup : Option ClassId) : Class where
  name := name
  kind := .ordinary
  loader := none
  accessFlags := 33
  super := sup
  interfaces := #[]
  cf := none
  fields := #[]
  methods := #[]
  instanceTypes := #[]
  staticTypes := #[]
  resolved := #[]
  callSites := []
  init := .initialized
  statics := none
  mirror := none

def pool0 : Array CpInfo := pool [(5, u "<init>"), (0, u "()V"), (1, .class_ 10), (1, u "java/lang/Object"), (0, u "getClass"), (0, u "()Ljava/lang/Class;")] 111

def k0c0 : Code := { maxStack := 0, maxLocals := 1, code := object_method_1_code, exceptionTable := #[], attributes := #[] }
def k0m0 : Method := { name := "<init>", desc := "()V", sig := { parameters := [], returnType := none }, accessFlags := 1, code := some k0c0 }
def k0m1 : Method := { name := "getClass", desc := "()Ljava/lang/Class;", sig := { parameters := [], returnType := some (.object "java/lang/Class") }, accessFlags := 273, code := none }
/-- java/lang/Object -/
def k0 : Class := { plain "java/lang/Object" none with
  accessFlags := 33
  interfaces := #[]
  cf := some (fileOf pool0 8 #[] #[{ accessFlags := 1, nameIndex := 5, descriptorIndex := 6, attributes := #[] }, { accessFlags := 273, nameIndex := 11, descriptorIndex := 12, attributes := #[] }] 33 0 #[] #[])
  fields := #[]
  methods := #[k0m0, k0m1]
  instanceTypes := #[]
  staticTypes := #[]
  resolved := Array.replicate 124 none
  statics := none }

def pool1 : Array CpInfo := pool [(2, .class_ 4), (0, .nameAndType 5 6), (0, u "java/lang/Object"), (0, u "<init>"), (0, u "()V"), (0, .class_ 8), (0, u "com/example/scopa/scopa/schema/Column"), (0, .methodref 10 11), (0, .class_ 12), (0, .nameAndType 13 14), (0, u "java/lang/String"), (0, u "valueOf"), (0, u "(C)Ljava/lang/String;"), (0, .string 16), (0, u "integer"), (0, .methodref 7 18), (0, .nameAndType 5 19), (0, u "(Ljava/lang/String;Ljava/lang/String;Ljava/lang/String;)V"), (0, .string 21), (0, u "text"), (0, .methodref 23 24), (0, .class_ 25), (0, .nameAndType 26 27), (0, u "com/example/scopa/scopa/schema/TableHasPrimaryKeyPinLaw"), (0, u "listOf"), (0, u "(Lcom/example/scopa/scopa/schema/Column;Lcom/example/scopa/scopa/schema/Column;I)Ljava/util/ArrayList;"), (0, .class_ 29), (0, u "com/example/scopa/scopa/schema/Table"), (0, .methodref 28 31), (0, .nameAndType 5 32), (0, u "(Ljava/lang/String;Ljava/lang/String;Ljava/util/List;Ljava/util/List;)V"), (0, .methodref 28 34), (0, .nameAndType 35 36), (0, u "hasPrimaryKey"), (0, u "()Z"), (0, .class_ 38), (0, u "java/util/ArrayList"), (0, .methodref 37 3), (0, .methodref 37 41), (0, .nameAndType 42 43), (0, u "add"), (0, u "(Ljava/lang/Object;)Z"), (2, u "law"), (0, u "(IIII)Z")] 5

def k1m0 : Method := { name := "<init>", desc := "()V", sig := { parameters := [], returnType := none }, accessFlags := 2, code := none }
def k1c1 : Code := { maxStack := 6, maxLocals := 11, code := code, exceptionTable := #[], attributes := #[] }
def k1m1 : Method := { name := "law", desc := "(IIII)Z", sig := { parameters := [.int, .int, .int, .int], returnType := some .boolean }, accessFlags := 9, code := some k1c1 }
def k1c2 : Code := { maxStack := 2, maxLocals := 4, code := method_3_code, exceptionTable := #[], attributes := #[] }
def k1m2 : Method := { name := "listOf", desc := "(Lcom/example/scopa/scopa/schema/Column;Lcom/example/scopa/scopa/schema/Column;I)Ljava/util/ArrayList;", sig := { parameters := [(.object "com/example/scopa/scopa/schema/Column"), (.object "com/example/scopa/scopa/schema/Column"), .int], returnType := some (.object "java/util/ArrayList") }, accessFlags := 10, code := some k1c2 }
/-- com/example/scopa/scopa/schema/TableHasPrimaryKeyPinLaw -/
def k1 : Class := { plain "com/example/scopa/scopa/schema/TableHasPrimaryKeyPinLaw" (some 0) with
  accessFlags := 49
  interfaces := #[]
  cf := some (fileOf pool1 23 #[] #[{ accessFlags := 2, nameIndex := 5, descriptorIndex := 6, attributes := #[] }, { accessFlags := 9, nameIndex := 46, descriptorIndex := 47, attributes := #[] }, { accessFlags := 10, nameIndex := 26, descriptorIndex := 27, attributes := #[] }] 49 2 #[] #[])
  fields := #[]
  methods := #[k1m0, k1m1, k1m2]
  instanceTypes := #[]
  staticTypes := #[]
  resolved := Array.replicate 53 none
  statics := none }

def pool2 : Array CpInfo := pool [(1, .methodref 2 3), (0, .class_ 4), (0, .nameAndType 5 6), (0, u "java/lang/Object"), (0, u "<init>"), (0, u "()V"), (0, .class_ 8), (0, u "java/lang/Record")] 13

def k2c0 : Code := { maxStack := 1, maxLocals := 1, code := jdk_30_method_1_code, exceptionTable := #[], attributes := #[] }
def k2m0 : Method := { name := "<init>", desc := "()V", sig := { parameters := [], returnType := none }, accessFlags := 4, code := some k2c0 }
/-- java/lang/Record -/
def k2 : Class := { plain "java/lang/Record" (some 0) with
  accessFlags := 1057
  interfaces := #[]
  cf := some (fileOf pool2 7 #[] #[{ accessFlags := 4, nameIndex := 5, descriptorIndex := 6, attributes := #[] }] 1057 2 #[] #[])
  fields := #[]
  methods := #[k2m0]
  instanceTypes := #[]
  staticTypes := #[]
  resolved := Array.replicate 22 none
  statics := none }

def pool3 : Array CpInfo := pool [(1, .methodref 2 3), (0, .class_ 4), (0, .nameAndType 5 6), (0, u "java/lang/Record"), (0, u "<init>"), (0, u "()V"), (0, .fieldref 8 9), (0, .class_ 10), (0, .nameAndType 11 12), (0, u "com/example/scopa/scopa/schema/Column"), (0, u "name"), (0, u "Ljava/lang/String;"), (0, .fieldref 8 14), (0, .nameAndType 15 12), (0, u "baseType"), (0, .fieldref 8 17), (0, .nameAndType 18 12), (0, u "storedType"), (18, u "(Ljava/lang/String;Ljava/lang/String;Ljava/lang/String;)V")] 29

def k3c0 : Code := { maxStack := 2, maxLocals := 4, code := prog_9_method_1_code, exceptionTable := #[], attributes := #[] }
def k3m0 : Method := { name := "<init>", desc := "(Ljava/lang/String;Ljava/lang/String;Ljava/lang/String;)V", sig := { parameters := [(.object "java/lang/String"), (.object "java/lang/String"), (.object "java/lang/String")], returnType := none }, accessFlags := 1, code := some k3c0 }
/-- com/example/scopa/scopa/schema/Column -/
def k3 : Class := { plain "com/example/scopa/scopa/schema/Column" (some 2) with
  accessFlags := 49
  interfaces := #[]
  cf := some (fileOf pool3 8 #[] #[{ accessFlags := 1, nameIndex := 5, descriptorIndex := 37, attributes := #[] }] 49 2 #[] #[{ accessFlags := 18, nameIndex := 11, descriptorIndex := 12, attributes := #[] }, { accessFlags := 18, nameIndex := 15, descriptorIndex := 12, attributes := #[] }, { accessFlags := 18, nameIndex := 18, descriptorIndex := 12, attributes := #[] }])
  fields := #[{ name := "name", type := (.object "java/lang/String"), accessFlags := 18, slot := 0, constantValue := 0 }, { name := "baseType", type := (.object "java/lang/String"), accessFlags := 18, slot := 1, constantValue := 0 }, { name := "storedType", type := (.object "java/lang/String"), accessFlags := 18, slot := 2, constantValue := 0 }]
  methods := #[k3m0]
  instanceTypes := #[(.object "java/lang/String"), (.object "java/lang/String"), (.object "java/lang/String")]
  staticTypes := #[]
  resolved := Array.replicate 67 none
  statics := none }

def pool4 : Array CpInfo := pool [(1, .class_ 2), (0, u "java/io/Serializable"), (0, .class_ 4), (0, u "java/lang/Object")] 2

/-- java/io/Serializable -/
def k4 : Class := { plain "java/io/Serializable" (some 0) with
  accessFlags := 1537
  interfaces := #[]
  cf := some (fileOf pool4 1 #[] #[] 1537 3 #[] #[])
  fields := #[]
  methods := #[]
  instanceTypes := #[]
  staticTypes := #[]
  resolved := Array.replicate 7 none
  statics := none }

def pool5 : Array CpInfo := pool [(1, .class_ 2), (0, u "java/lang/Comparable"), (0, .class_ 4), (0, u "java/lang/Object")] 7

/-- java/lang/Comparable -/
def k5 : Class := { plain "java/lang/Comparable" (some 0) with
  accessFlags := 1537
  interfaces := #[]
  cf := some (fileOf pool5 1 #[] #[] 1537 3 #[] #[])
  fields := #[]
  methods := #[]
  instanceTypes := #[]
  staticTypes := #[]
  resolved := Array.replicate 12 none
  statics := none }

def pool6 : Array CpInfo := pool [(2, .class_ 4), (1, u "java/lang/CharSequence"), (42, .class_ 48), (0, u "java/lang/CharSequence$1CodePointIterator"), (10, .class_ 60), (0, u "java/lang/CharSequence$1CharIterator"), (5, .class_ 67), (0, u "java/lang/Object")] 63

/-- java/lang/CharSequence -/
def k6 : Class := { plain "java/lang/CharSequence" (some 0) with
  accessFlags := 1537
  interfaces := #[]
  cf := some (fileOf pool6 2 #[.nestMembers #[47, 59]] #[] 1537 66 #[] #[])
  fields := #[]
  methods := #[]
  instanceTypes := #[]
  staticTypes := #[]
  resolved := Array.replicate 131 none
  statics := none }

def pool7 : Array CpInfo := pool [(1, .class_ 2), (0, u "java/lang/constant/Constable"), (0, .class_ 4), (0, u "java/lang/Object")] 6

/-- java/lang/constant/Constable -/
def k7 : Class := { plain "java/lang/constant/Constable" (some 0) with
  accessFlags := 1537
  interfaces := #[]
  cf := some (fileOf pool7 1 #[] #[] 1537 3 #[] #[])
  fields := #[]
  methods := #[]
  instanceTypes := #[]
  staticTypes := #[]
  resolved := Array.replicate 11 none
  statics := none }

def pool8 : Array CpInfo := pool [(1, .class_ 2), (0, u "java/lang/constant/ConstantDesc"), (0, .class_ 4), (0, u "java/lang/Object")] 32

/-- java/lang/constant/ConstantDesc -/
def k8 : Class := { plain "java/lang/constant/ConstantDesc" (some 0) with
  accessFlags := 1537
  interfaces := #[]
  cf := some (fileOf pool8 1 #[] #[] 1537 3 #[] #[])
  fields := #[]
  methods := #[]
  instanceTypes := #[]
  staticTypes := #[]
  resolved := Array.replicate 37 none
  statics := none }

def pool9 : Array CpInfo := pool [(1, .methodref 2 3), (0, .class_ 4), (0, .nameAndType 5 6), (0, u "java/lang/Object"), (0, u "<init>"), (0, u "()V"), (2, .fieldref 10 11), (0, .class_ 12), (0, .nameAndType 13 14), (0, u "java/lang/String"), (0, u "value"), (0, u "[B"), (0, .fieldref 10 16), (0, .nameAndType 17 18), (0, u "coder"), (0, u "B"), (2, u "hash"), (0, u "I"), (2, u "hashIsZero"), (0, u "Z"), (11, .fieldref 10 39), (0, .nameAndType 40 26), (0, u "COMPACT_STRINGS"), (12, u "toBytes"), (53, .class_ 109), (1, u "java/lang/StringLatin1"), (99, .methodref 10 210), (0, .nameAndType 5 211), (0, u "([BB)V"), (157, u "(C)Z"), (205, .class_ 576), (0, u "java/lang/CharSequence"), (22, u "CASE_INSENSITIVE_ORDER"), (0, u "Ljava/util/Comparator;"), (181, u "valueOf"), (0, u "(C)Ljava/lang/String;"), (231, .methodref 107 1016), (0, .nameAndType 1017 369), (0, u "canEncode"), (0, .methodref 107 1019), (0, .nameAndType 53 1020), (0, u "(C)[B"), (80, u "serialPersistentFields"), (0, u "[Ljava/io/ObjectStreamField;"), (0, .class_ 1104), (0, u "java/lang/String$CaseInsensitiveComparator"), (1, .class_ 1107), (0, u "java/io/Serializable"), (0, .class_ 1109), (0, u "java/lang/Comparable"), (0, .class_ 1111), (0, u "java/lang/constant/Constable"), (0, .class_ 1113), (0, u "java/lang/constant/ConstantDesc"), (2, u "serialVersionUID"), (0, u "J"), (3, u "REPL"), (0, u "C"), (2, u "LATIN1"), (1, u "UTF16")] 323

def k9m0 : Method := { name := "<init>", desc := "()V", sig := { parameters := [], returnType := none }, accessFlags := 1, code := none }
def k9c1 : Code := { maxStack := 4, maxLocals := 1, code := jdk_42_method_139_code, exceptionTable := #[], attributes := #[] }
def k9m1 : Method := { name := "valueOf", desc := "(C)Ljava/lang/String;", sig := { parameters := [.char], returnType := some (.object "java/lang/String") }, accessFlags := 9, code := some k9c1 }
def k9c2 : Code := { maxStack := 2, maxLocals := 3, code := jdk_42_method_151_code, exceptionTable := #[], attributes := #[] }
def k9m2 : Method := { name := "<init>", desc := "([BB)V", sig := { parameters := [(.array .byte), .byte], returnType := none }, accessFlags := 0, code := some k9c2 }
/-- java/lang/String -/
def k9 : Class := { plain "java/lang/String" (some 0) with
  accessFlags := 49
  interfaces := #[4, 5, 6, 7, 8]
  cf := some (fileOf pool9 10 #[.nestMembers #[1103]] #[{ accessFlags := 1, nameIndex := 5, descriptorIndex := 6, attributes := #[] }, { accessFlags := 9, nameIndex := 782, descriptorIndex := 783, attributes := #[] }, { accessFlags := 0, nameIndex := 5, descriptorIndex := 211, attributes := #[] }] 49 2 #[1106, 1108, 575, 1110, 1112] #[{ accessFlags := 18, nameIndex := 13, descriptorIndex := 14, attributes := #[] }, { accessFlags := 18, nameIndex := 17, descriptorIndex := 18, attributes := #[] }, { accessFlags := 2, nameIndex := 21, descriptorIndex := 22, attributes := #[] }, { accessFlags := 2, nameIndex := 25, descriptorIndex := 26, attributes := #[] }, { accessFlags := 26, nameIndex := 1116, descriptorIndex := 1117, attributes := #[] }, { accessFlags := 24, nameIndex := 40, descriptorIndex := 26, attributes := #[] }, { accessFlags := 26, nameIndex := 1101, descriptorIndex := 1102, attributes := #[] }, { accessFlags := 26, nameIndex := 1121, descriptorIndex := 1122, attributes := #[] }, { accessFlags := 25, nameIndex := 599, descriptorIndex := 600, attributes := #[] }, { accessFlags := 24, nameIndex := 1125, descriptorIndex := 18, attributes := #[] }, { accessFlags := 24, nameIndex := 1127, descriptorIndex := 18, attributes := #[] }])
  fields := #[{ name := "value", type := (.array .byte), accessFlags := 18, slot := 0, constantValue := 0 }, { name := "coder", type := .byte, accessFlags := 18, slot := 1, constantValue := 0 }, { name := "hash", type := .int, accessFlags := 2, slot := 2, constantValue := 0 }, { name := "hashIsZero", type := .boolean, accessFlags := 2, slot := 3, constantValue := 0 }, { name := "serialVersionUID", type := .long, accessFlags := 26, slot := 0, constantValue := 0 }, { name := "COMPACT_STRINGS", type := .boolean, accessFlags := 24, slot := 1, constantValue := 0 }, { name := "serialPersistentFields", type := (.array (.object "java/io/ObjectStreamField")), accessFlags := 26, slot := 2, constantValue := 0 }, { name := "REPL", type := .char, accessFlags := 26, slot := 3, constantValue := 0 }, { name := "CASE_INSENSITIVE_ORDER", type := (.object "java/util/Comparator"), accessFlags := 25, slot := 4, constantValue := 0 }, { name := "LATIN1", type := .byte, accessFlags := 24, slot := 5, constantValue := 0 }, { name := "UTF16", type := .byte, accessFlags := 24, slot := 6, constantValue := 0 }]
  methods := #[k9m0, k9m1, k9m2]
  instanceTypes := #[(.array .byte), .byte, .int, .boolean]
  staticTypes := #[.long, .boolean, (.array (.object "java/io/ObjectStreamField")), .char, (.object "java/util/Comparator"), .byte, .byte]
  resolved := Array.replicate 1451 none
  statics := some 0 }

def pool10 : Array CpInfo := pool [(4, .class_ 6), (1, u "java/lang/Object"), (0, u "<init>"), (0, u "()V"), (5, .class_ 16), (1, u "java/lang/StringLatin1"), (73, u "canEncode"), (14, u "(C)Z"), (15, u "$assertionsDisabled"), (0, u "Z"), (98, .class_ 223), (1, u "java/lang/StringLatin1$LinesSpliterator"), (156, u "toBytes"), (1, u "(C)[B"), (7, .class_ 391), (0, u "java/lang/StringLatin1$CharsSpliterator")] 3

def k10m0 : Method := { name := "<init>", desc := "()V", sig := { parameters := [], returnType := none }, accessFlags := 0, code := none }
def k10c1 : Code := { maxStack := 2, maxLocals := 1, code := jdk_43_method_3_code, exceptionTable := #[], attributes := #[] }
def k10m1 : Method := { name := "canEncode", desc := "(C)Z", sig := { parameters := [.char], returnType := some .boolean }, accessFlags := 9, code := some k10c1 }
def k10c2 : Code := { maxStack := 4, maxLocals := 1, code := jdk_43_method_46_code, exceptionTable := #[], attributes := #[] }
def k10m2 : Method := { name := "toBytes", desc := "(C)[B", sig := { parameters := [.char], returnType := some (.array .byte) }, accessFlags := 9, code := some k10c2 }
/-- java/lang/StringLatin1 -/
def k10 : Class := { plain "java/lang/StringLatin1" (some 0) with
  accessFlags := 48
  interfaces := #[]
  cf := some (fileOf pool10 14 #[.nestMembers #[390, 221]] #[{ accessFlags := 0, nameIndex := 7, descriptorIndex := 8, attributes := #[] }, { accessFlags := 9, nameIndex := 90, descriptorIndex := 105, attributes := #[] }, { accessFlags := 9, nameIndex := 380, descriptorIndex := 382, attributes := #[] }] 48 4 #[] #[{ accessFlags := 4120, nameIndex := 121, descriptorIndex := 122, attributes := #[] }])
  fields := #[{ name := "$assertionsDisabled", type := .boolean, accessFlags := 4120, slot := 0, constantValue := 0 }]
  methods := #[k10m0, k10m1, k10m2]
  instanceTypes := #[]
  staticTypes := #[.boolean]
  resolved := Array.replicate 395 none
  statics := none }

def pool11 : Array CpInfo := pool [(8, .class_ 10), (1, u "java/lang/Iterable"), (24, .class_ 36), (0, u "java/lang/Object")] 25

/-- java/lang/Iterable -/
def k11 : Class := { plain "java/lang/Iterable" (some 0) with
  accessFlags := 1537
  interfaces := #[]
  cf := some (fileOf pool11 8 #[] #[] 1537 35 #[] #[])
  fields := #[]
  methods := #[]
  instanceTypes := #[]
  staticTypes := #[]
  resolved := Array.replicate 62 none
  statics := none }

def pool12 : Array CpInfo := pool [(10, .class_ 12), (1, u "java/util/Collection"), (0, u "toArray"), (16, u "()Z"), (29, .class_ 61), (0, u "java/lang/Object"), (0, .class_ 63), (0, u "java/lang/Iterable"), (2, u "isEmpty"), (3, u "()[Ljava/lang/Object;")] 44

def k12m0 : Method := { name := "isEmpty", desc := "()Z", sig := { parameters := [], returnType := some .boolean }, accessFlags := 1025, code := none }
def k12m1 : Method := { name := "toArray", desc := "()[Ljava/lang/Object;", sig := { parameters := [], returnType := some (.array (.object "java/lang/Object")) }, accessFlags := 1025, code := none }
/-- java/util/Collection -/
def k12 : Class := { plain "java/util/Collection" (some 0) with
  accessFlags := 1537
  interfaces := #[11]
  cf := some (fileOf pool12 10 #[] #[{ accessFlags := 1025, nameIndex := 66, descriptorIndex := 30, attributes := #[] }, { accessFlags := 1025, nameIndex := 13, descriptorIndex := 70, attributes := #[] }] 1537 60 #[62] #[])
  fields := #[]
  methods := #[k12m0, k12m1]
  instanceTypes := #[]
  staticTypes := #[]
  resolved := Array.replicate 115 none
  statics := none }

def pool13 : Array CpInfo := pool [(1, .methodref 2 3), (0, .class_ 4), (0, .nameAndType 5 6), (0, u "java/lang/Object"), (0, u "<init>"), (0, u "()V"), (1, .class_ 10), (1, u "java/util/AbstractCollection"), (66, .class_ 78), (0, u "java/util/Collection")] 81

def k13c0 : Code := { maxStack := 1, maxLocals := 1, code := jdk_22_method_1_code, exceptionTable := #[], attributes := #[] }
def k13m0 : Method := { name := "<init>", desc := "()V", sig := { parameters := [], returnType := none }, accessFlags := 4, code := some k13c0 }
/-- java/util/AbstractCollection -/
def k13 : Class := { plain "java/util/AbstractCollection" (some 0) with
  accessFlags := 1057
  interfaces := #[12]
  cf := some (fileOf pool13 8 #[] #[{ accessFlags := 4, nameIndex := 5, descriptorIndex := 6, attributes := #[] }] 1057 2 #[77] #[])
  fields := #[]
  methods := #[k13m0]
  instanceTypes := #[]
  staticTypes := #[]
  resolved := Array.replicate 160 none
  statics := none }

def pool14 : Array CpInfo := pool [(8, .class_ 10), (1, u "java/util/SequencedCollection"), (15, .class_ 27), (0, u "java/lang/Object"), (0, .class_ 29), (0, u "java/util/Collection")] 27

/-- java/util/SequencedCollection -/
def k14 : Class := { plain "java/util/SequencedCollection" (some 0) with
  accessFlags := 1537
  interfaces := #[12]
  cf := some (fileOf pool14 8 #[] #[] 1537 26 #[28] #[])
  fields := #[]
  methods := #[]
  instanceTypes := #[]
  staticTypes := #[]
  resolved := Array.replicate 57 none
  statics := none }

def pool15 : Array CpInfo := pool [(8, .class_ 10), (1, u "java/util/List"), (7, u "()Z"), (12, u "(Ljava/lang/Object;)V"), (16, u "<init>"), (18, u "isEmpty"), (20, u "of"), (1, .fieldref 91 92), (0, .class_ 93), (0, .nameAndType 94 95), (0, u "java/util/ImmutableCollections"), (0, u "EMPTY_LIST"), (0, u "Ljava/util/ImmutableCollections$ListN;"), (0, .class_ 97), (0, u "java/util/ImmutableCollections$List12"), (0, .methodref 96 99), (0, .nameAndType 48 31), (0, .methodref 96 101), (0, .nameAndType 48 102), (0, u "(Ljava/lang/Object;Ljava/lang/Object;)V"), (0, .class_ 104), (0, u "java/lang/Object"), (3, u "([Ljava/lang/Object;)Ljava/util/List;"), (0, .methodref 91 110), (0, .nameAndType 111 108), (0, u "listFromArray"), (0, .methodref 91 113), (0, .nameAndType 114 115), (0, u "listCopy"), (0, u "(Ljava/util/Collection;)Ljava/util/List;"), (3, u "()Ljava/util/List;"), (0, .class_ 121), (0, u "java/util/SequencedCollection"), (112, u "copyOf")] 16

def k15m0 : Method := { name := "isEmpty", desc := "()Z", sig := { parameters := [], returnType := some .boolean }, accessFlags := 1025, code := none }
def k15c1 : Code := { maxStack := 1, maxLocals := 0, code := jdk_40_method_36_code, exceptionTable := #[], attributes := #[] }
def k15m1 : Method := { name := "of", desc := "()Ljava/util/List;", sig := { parameters := [], returnType := some (.object "java/util/List") }, accessFlags := 9, code := some k15c1 }
def k15c2 : Code := { maxStack := 5, maxLocals := 2, code := jdk_40_method_47_code, exceptionTable := #[], attributes := #[] }
def k15m2 : Method := { name := "of", desc := "([Ljava/lang/Object;)Ljava/util/List;", sig := { parameters := [(.array (.object "java/lang/Object"))], returnType := some (.object "java/util/List") }, accessFlags := 137, code := some k15c2 }
def k15c3 : Code := { maxStack := 1, maxLocals := 1, code := jdk_40_method_48_code, exceptionTable := #[], attributes := #[] }
def k15m3 : Method := { name := "copyOf", desc := "(Ljava/util/Collection;)Ljava/util/List;", sig := { parameters := [(.object "java/util/Collection")], returnType := some (.object "java/util/List") }, accessFlags := 9, code := some k15c3 }
/-- java/util/List -/
def k15 : Class := { plain "java/util/List" (some 0) with
  accessFlags := 1537
  interfaces := #[14]
  cf := some (fileOf pool15 8 #[] #[{ accessFlags := 1025, nameIndex := 67, descriptorIndex := 18, attributes := #[] }, { accessFlags := 9, nameIndex := 88, descriptorIndex := 119, attributes := #[] }, { accessFlags := 137, nameIndex := 88, descriptorIndex := 108, attributes := #[] }, { accessFlags := 9, nameIndex := 234, descriptorIndex := 115, attributes := #[] }] 1537 103 #[120] #[])
  fields := #[]
  methods := #[k15m0, k15m1, k15m2, k15m3]
  instanceTypes := #[]
  staticTypes := #[]
  resolved := Array.replicate 251 none
  statics := none }

def pool16 : Array CpInfo := pool [(1, .methodref 2 3), (0, .class_ 4), (0, .nameAndType 5 6), (0, u "java/util/AbstractCollection"), (0, u "<init>"), (0, u "()V"), (0, .fieldref 8 9), (0, .class_ 10), (0, .nameAndType 11 12), (0, u "java/util/AbstractList"), (0, u "modCount"), (0, u "I"), (64, .class_ 78), (0, u "java/util/AbstractList$Itr"), (3, .class_ 83), (0, u "java/util/AbstractList$ListItr"), (9, .class_ 94), (0, u "java/util/AbstractList$RandomAccessSubList"), (3, .class_ 99), (0, u "java/util/AbstractList$SubList"), (33, .class_ 134), (0, u "java/util/List"), (73, .class_ 209), (0, u "java/util/AbstractList$SubList$1"), (0, .class_ 211), (0, u "java/util/AbstractList$RandomAccessSpliterator")] 6

def k16c0 : Code := { maxStack := 2, maxLocals := 1, code := jdk_39_method_1_code, exceptionTable := #[], attributes := #[] }
def k16m0 : Method := { name := "<init>", desc := "()V", sig := { parameters := [], returnType := none }, accessFlags := 4, code := some k16c0 }
/-- java/util/AbstractList -/
def k16 : Class := { plain "java/util/AbstractList" (some 13) with
  accessFlags := 1057
  interfaces := #[15]
  cf := some (fileOf pool16 8 #[.nestMembers #[93, 98, 208, 210, 82, 77]] #[{ accessFlags := 4, nameIndex := 5, descriptorIndex := 6, attributes := #[] }] 1057 2 #[133] #[{ accessFlags := 132, nameIndex := 11, descriptorIndex := 12, attributes := #[] }])
  fields := #[{ name := "modCount", type := .int, accessFlags := 132, slot := 0, constantValue := 0 }]
  methods := #[k16m0]
  instanceTypes := #[.int]
  staticTypes := #[]
  resolved := Array.replicate 218 none
  statics := none }

def pool17 : Array CpInfo := pool [(1, .class_ 2), (0, u "java/util/RandomAccess"), (0, .class_ 4), (0, u "java/lang/Object")] 2

/-- java/util/RandomAccess -/
def k17 : Class := { plain "java/util/RandomAccess" (some 0) with
  accessFlags := 1537
  interfaces := #[]
  cf := some (fileOf pool17 1 #[] #[] 1537 3 #[] #[])
  fields := #[]
  methods := #[]
  instanceTypes := #[]
  staticTypes := #[]
  resolved := Array.replicate 7 none
  statics := none }

def pool18 : Array CpInfo := pool [(1, .class_ 2), (0, u "java/lang/Cloneable"), (0, .class_ 4), (0, u "java/lang/Object")] 2

/-- java/lang/Cloneable -/
def k18 : Class := { plain "java/lang/Cloneable" (some 0) with
  accessFlags := 1537
  interfaces := #[]
  cf := some (fileOf pool18 1 #[] #[] 1537 3 #[] #[])
  fields := #[]
  methods := #[]
  instanceTypes := #[]
  staticTypes := #[]
  resolved := Array.replicate 7 none
  statics := none }

def pool19 : Array CpInfo := pool [(1, .methodref 2 3), (0, .class_ 4), (0, .nameAndType 5 6), (0, u "java/util/AbstractList"), (0, u "<init>"), (0, u "()V"), (0, .class_ 8), (0, u "java/lang/Object"), (0, .fieldref 10 11), (0, .class_ 12), (0, .nameAndType 13 14), (0, u "java/util/ArrayList"), (0, u "elementData"), (0, u "[Ljava/lang/Object;"), (2, u "EMPTY_ELEMENTDATA"), (21, .fieldref 10 40), (0, .nameAndType 41 14), (0, u "DEFAULTCAPACITY_EMPTY_ELEMENTDATA"), (4, u "toArray"), (0, u "()[Ljava/lang/Object;"), (0, .fieldref 10 49), (0, .nameAndType 50 51), (0, u "size"), (0, u "I"), (6, .class_ 60), (1, u "java/util/Arrays"), (0, u "copyOf"), (1, .fieldref 10 64), (0, .nameAndType 65 51), (0, u "modCount"), (0, .methodref 58 67), (0, .nameAndType 61 68), (0, u "([Ljava/lang/Object;I)[Ljava/lang/Object;"), (0, .methodref 10 70), (0, .nameAndType 71 72), (0, u "grow"), (0, u "(I)[Ljava/lang/Object;"), (6, .methodref 80 81), (0, .class_ 82), (0, .nameAndType 83 84), (0, u "java/lang/Math"), (0, u "max"), (0, u "(II)I"), (11, u "(Ljava/lang/Object;)Z"), (32, .methodref 10 130), (0, .nameAndType 71 47), (0, .methodref 10 132), (0, .nameAndType 133 134), (0, u "add"), (0, u "(Ljava/lang/Object;[Ljava/lang/Object;I)V"), (13, .class_ 149), (0, u "java/util/List"), (23, u "()Z"), (88, .class_ 263), (0, u "java/util/ArrayList$ListItr"), (3, .class_ 268), (0, u "java/util/ArrayList$Itr"), (7, .class_ 277), (0, u "java/util/ArrayList$SubList"), (12, .class_ 291), (0, u "java/util/ArrayList$ArrayListSpliterator"), (37, .class_ 330), (0, u "java/util/RandomAccess"), (0, .class_ 332), (0, u "java/lang/Cloneable"), (0, .class_ 334), (0, u "java/io/Serializable"), (0, u "serialVersionUID"), (0, u "J"), (3, u "DEFAULT_CAPACITY"), (22, u "isEmpty"), (136, .class_ 501), (0, u "java/util/ArrayList$SubList$2"), (0, .class_ 503), (0, u "java/util/ArrayList$SubList$1")] 5

def k19c0 : Code := { maxStack := 2, maxLocals := 1, code := jdk_38_method_2_code, exceptionTable := #[], attributes := #[] }
def k19m0 : Method := { name := "<init>", desc := "()V", sig := { parameters := [], returnType := none }, accessFlags := 1, code := some k19c0 }
def k19c1 : Code := { maxStack := 4, maxLocals := 4, code := jdk_38_method_6_code, exceptionTable := #[], attributes := #[] }
def k19m1 : Method := { name := "grow", desc := "(I)[Ljava/lang/Object;", sig := { parameters := [.int], returnType := some (.array (.object "java/lang/Object")) }, accessFlags := 2, code := some k19c1 }
def k19c2 : Code := { maxStack := 3, maxLocals := 1, code := jdk_38_method_7_code, exceptionTable := #[], attributes := #[] }
def k19m2 : Method := { name := "grow", desc := "()[Ljava/lang/Object;", sig := { parameters := [], returnType := some (.array (.object "java/lang/Object")) }, accessFlags := 2, code := some k19c2 }
def k19c3 : Code := { maxStack := 1, maxLocals := 1, code := jdk_38_method_9_code, exceptionTable := #[], attributes := #[] }
def k19m3 : Method := { name := "isEmpty", desc := "()Z", sig := { parameters := [], returnType := some .boolean }, accessFlags := 1, code := some k19c3 }
def k19c4 : Code := { maxStack := 2, maxLocals := 1, code := jdk_38_method_16_code, exceptionTable := #[], attributes := #[] }
def k19m4 : Method := { name := "toArray", desc := "()[Ljava/lang/Object;", sig := { parameters := [], returnType := some (.array (.object "java/lang/Object")) }, accessFlags := 1, code := some k19c4 }
def k19c5 : Code := { maxStack := 3, maxLocals := 4, code := jdk_38_method_24_code, exceptionTable := #[], attributes := #[] }
def k19m5 : Method := { name := "add", desc := "(Ljava/lang/Object;[Ljava/lang/Object;I)V", sig := { parameters := [(.object "java/lang/Object"), (.array (.object "java/lang/Object")), .int], returnType := none }, accessFlags := 2, code := some k19c5 }
def k19c6 : Code := { maxStack := 4, maxLocals := 2, code := jdk_38_method_25_code, exceptionTable := #[], attributes := #[] }
def k19m6 : Method := { name := "add", desc := "(Ljava/lang/Object;)Z", sig := { parameters := [(.object "java/lang/Object")], returnType := some .boolean }, accessFlags := 1, code := some k19c6 }
/-- java/util/ArrayList -/
def k19 : Class := { plain "java/util/ArrayList" (some 16) with
  accessFlags := 33
  interfaces := #[15, 17, 18, 4]
  cf := some (fileOf pool19 10 #[.nestMembers #[290, 276, 500, 502, 262, 267]] #[{ accessFlags := 1, nameIndex := 5, descriptorIndex := 6, attributes := #[] }, { accessFlags := 2, nameIndex := 71, descriptorIndex := 72, attributes := #[] }, { accessFlags := 2, nameIndex := 71, descriptorIndex := 47, attributes := #[] }, { accessFlags := 1, nameIndex := 363, descriptorIndex := 173, attributes := #[] }, { accessFlags := 1, nameIndex := 46, descriptorIndex := 47, attributes := #[] }, { accessFlags := 2, nameIndex := 133, descriptorIndex := 134, attributes := #[] }, { accessFlags := 1, nameIndex := 133, descriptorIndex := 96, attributes := #[] }] 33 2 #[148, 329, 331, 333] #[{ accessFlags := 26, nameIndex := 335, descriptorIndex := 336, attributes := #[] }, { accessFlags := 26, nameIndex := 340, descriptorIndex := 51, attributes := #[] }, { accessFlags := 26, nameIndex := 17, descriptorIndex := 14, attributes := #[] }, { accessFlags := 26, nameIndex := 41, descriptorIndex := 14, attributes := #[] }, { accessFlags := 128, nameIndex := 13, descriptorIndex := 14, attributes := #[] }, { accessFlags := 2, nameIndex := 50, descriptorIndex := 51, attributes := #[] }])
  fields := #[{ name := "serialVersionUID", type := .long, accessFlags := 26, slot := 0, constantValue := 0 }, { name := "DEFAULT_CAPACITY", type := .int, accessFlags := 26, slot := 1, constantValue := 0 }, { name := "EMPTY_ELEMENTDATA", type := (.array (.object "java/lang/Object")), accessFlags := 26, slot := 2, constantValue := 0 }, { name := "DEFAULTCAPACITY_EMPTY_ELEMENTDATA", type := (.array (.object "java/lang/Object")), accessFlags := 26, slot := 3, constantValue := 0 }, { name := "elementData", type := (.array (.object "java/lang/Object")), accessFlags := 128, slot := 1, constantValue := 0 }, { name := "size", type := .int, accessFlags := 2, slot := 2, constantValue := 0 }]
  methods := #[k19m0, k19m1, k19m2, k19m3, k19m4, k19m5, k19m6]
  instanceTypes := #[.int, (.array (.object "java/lang/Object")), .int]
  staticTypes := #[.long, .int, (.array (.object "java/lang/Object")), (.array (.object "java/lang/Object"))]
  resolved := Array.replicate 509 none
  statics := some 1 }

def pool20 : Array CpInfo := pool [(1, .class_ 2), (0, u "java/lang/Math"), (1, .class_ 6), (1, u "java/lang/Object"), (0, u "<init>"), (0, u "()V"), (89, .class_ 100), (1, u "java/lang/Math$RandomNumberGeneratorHolder"), (71, u "negativeZeroFloatBits"), (0, u "J"), (2, u "negativeZeroDoubleBits"), (21, u "max"), (2, u "min"), (43, u "$assertionsDisabled"), (0, u "Z"), (88, u "(II)I"), (2, u "twoToTheDoubleScaleDown"), (0, u "D"), (4, u "twoToTheDoubleScaleUp"), (9, u "E"), (3, u "PI"), (2, u "TAU"), (2, u "DEGREES_TO_RADIANS"), (0, u "RADIANS_TO_DEGREES")] 94

def k20m0 : Method := { name := "<init>", desc := "()V", sig := { parameters := [], returnType := none }, accessFlags := 2, code := none }
def k20c1 : Code := { maxStack := 2, maxLocals := 2, code := jdk_29_method_65_code, exceptionTable := #[], attributes := #[] }
def k20m1 : Method := { name := "max", desc := "(II)I", sig := { parameters := [.int, .int], returnType := some .int }, accessFlags := 9, code := some k20c1 }
def k20c2 : Code := { maxStack := 2, maxLocals := 2, code := jdk_29_method_69_code, exceptionTable := #[], attributes := #[] }
def k20m2 : Method := { name := "min", desc := "(II)I", sig := { parameters := [.int, .int], returnType := some .int }, accessFlags := 9, code := some k20c2 }
/-- java/lang/Math -/
def k20 : Class := { plain "java/lang/Math" (some 0) with
  accessFlags := 49
  interfaces := #[]
  cf := some (fileOf pool20 1 #[.nestMembers #[98]] #[{ accessFlags := 2, nameIndex := 7, descriptorIndex := 8, attributes := #[] }, { accessFlags := 9, nameIndex := 198, descriptorIndex := 335, attributes := #[] }, { accessFlags := 9, nameIndex := 201, descriptorIndex := 335, attributes := #[] }] 49 4 #[] #[{ accessFlags := 25, nameIndex := 354, descriptorIndex := 339, attributes := #[] }, { accessFlags := 25, nameIndex := 358, descriptorIndex := 339, attributes := #[] }, { accessFlags := 25, nameIndex := 361, descriptorIndex := 339, attributes := #[] }, { accessFlags := 26, nameIndex := 364, descriptorIndex := 339, attributes := #[] }, { accessFlags := 26, nameIndex := 365, descriptorIndex := 339, attributes := #[] }, { accessFlags := 26, nameIndex := 172, descriptorIndex := 173, attributes := #[] }, { accessFlags := 26, nameIndex := 176, descriptorIndex := 173, attributes := #[] }, { accessFlags := 8, nameIndex := 344, descriptorIndex := 339, attributes := #[] }, { accessFlags := 8, nameIndex := 338, descriptorIndex := 339, attributes := #[] }, { accessFlags := 4120, nameIndex := 245, descriptorIndex := 246, attributes := #[] }])
  fields := #[{ name := "E", type := .double, accessFlags := 25, slot := 0, constantValue := 0 }, { name := "PI", type := .double, accessFlags := 25, slot := 1, constantValue := 0 }, { name := "TAU", type := .double, accessFlags := 25, slot := 2, constantValue := 0 }, { name := "DEGREES_TO_RADIANS", type := .double, accessFlags := 26, slot := 3, constantValue := 0 }, { name := "RADIANS_TO_DEGREES", type := .double, accessFlags := 26, slot := 4, constantValue := 0 }, { name := "negativeZeroFloatBits", type := .long, accessFlags := 26, slot := 5, constantValue := 0 }, { name := "negativeZeroDoubleBits", type := .long, accessFlags := 26, slot := 6, constantValue := 0 }, { name := "twoToTheDoubleScaleUp", type := .double, accessFlags := 8, slot := 7, constantValue := 0 }, { name := "twoToTheDoubleScaleDown", type := .double, accessFlags := 8, slot := 8, constantValue := 0 }, { name := "$assertionsDisabled", type := .boolean, accessFlags := 4120, slot := 9, constantValue := 0 }]
  methods := #[k20m0, k20m1, k20m2]
  instanceTypes := #[]
  staticTypes := #[.double, .double, .double, .double, .double, .long, .long, .double, .double, .boolean]
  resolved := Array.replicate 460 none
  statics := none }

def pool21 : Array CpInfo := pool [(1, .methodref 2 3), (0, .class_ 4), (0, .nameAndType 5 6), (0, u "java/lang/Record"), (0, u "<init>"), (0, u "()V"), (0, .interfaceMethodref 8 9), (0, .class_ 10), (0, .nameAndType 11 12), (0, u "java/util/List"), (0, u "copyOf"), (0, u "(Ljava/util/Collection;)Ljava/util/List;"), (0, .fieldref 14 15), (0, .class_ 16), (0, .nameAndType 17 18), (0, u "com/example/scopa/scopa/schema/Table"), (0, u "schema"), (0, u "Ljava/lang/String;"), (0, .fieldref 14 20), (0, .nameAndType 21 18), (0, u "name"), (0, .fieldref 14 23), (0, .nameAndType 24 25), (0, u "columns"), (0, u "Ljava/util/List;"), (0, .fieldref 14 27), (0, .nameAndType 28 25), (0, u "primaryKey"), (9, u "()Z"), (37, .interfaceMethodref 8 77), (0, .nameAndType 78 38), (0, u "isEmpty"), (13, u "DEFAULT_SCHEMA"), (1, u "(Ljava/lang/String;Ljava/lang/String;Ljava/util/List;Ljava/util/List;)V"), (10, u "hasPrimaryKey")] 34

def k21c0 : Code := { maxStack := 2, maxLocals := 5, code := prog_14_method_1_code, exceptionTable := #[], attributes := #[] }
def k21m0 : Method := { name := "<init>", desc := "(Ljava/lang/String;Ljava/lang/String;Ljava/util/List;Ljava/util/List;)V", sig := { parameters := [(.object "java/lang/String"), (.object "java/lang/String"), (.object "java/util/List"), (.object "java/util/List")], returnType := none }, accessFlags := 1, code := some k21c0 }
def k21c1 : Code := { maxStack := 1, maxLocals := 1, code := prog_14_method_5_code, exceptionTable := #[], attributes := #[] }
def k21m1 : Method := { name := "hasPrimaryKey", desc := "()Z", sig := { parameters := [], returnType := some .boolean }, accessFlags := 1, code := some k21c1 }
/-- com/example/scopa/scopa/schema/Table -/
def k21 : Class := { plain "com/example/scopa/scopa/schema/Table" (some 2) with
  accessFlags := 49
  interfaces := #[]
  cf := some (fileOf pool21 14 #[] #[{ accessFlags := 1, nameIndex := 5, descriptorIndex := 94, attributes := #[] }, { accessFlags := 1, nameIndex := 105, descriptorIndex := 38, attributes := #[] }] 49 2 #[] #[{ accessFlags := 18, nameIndex := 17, descriptorIndex := 18, attributes := #[] }, { accessFlags := 18, nameIndex := 21, descriptorIndex := 18, attributes := #[] }, { accessFlags := 18, nameIndex := 24, descriptorIndex := 25, attributes := #[] }, { accessFlags := 18, nameIndex := 28, descriptorIndex := 25, attributes := #[] }, { accessFlags := 25, nameIndex := 92, descriptorIndex := 18, attributes := #[] }])
  fields := #[{ name := "schema", type := (.object "java/lang/String"), accessFlags := 18, slot := 0, constantValue := 0 }, { name := "name", type := (.object "java/lang/String"), accessFlags := 18, slot := 1, constantValue := 0 }, { name := "columns", type := (.object "java/util/List"), accessFlags := 18, slot := 2, constantValue := 0 }, { name := "primaryKey", type := (.object "java/util/List"), accessFlags := 18, slot := 3, constantValue := 0 }, { name := "DEFAULT_SCHEMA", type := (.object "java/lang/String"), accessFlags := 25, slot := 0, constantValue := 0 }]
  methods := #[k21m0, k21m1]
  instanceTypes := #[(.object "java/lang/String"), (.object "java/lang/String"), (.object "java/util/List"), (.object "java/util/List")]
  staticTypes := #[(.object "java/lang/String")]
  resolved := Array.replicate 140 none
  statics := none }

def pool22 : Array CpInfo := pool [(2, .class_ 4), (1, u "java/lang/Object"), (0, u "<init>"), (0, u "()V"), (3, .class_ 11), (0, u "java/util/ImmutableCollections$List12"), (0, .class_ 13), (0, u "java/util/ImmutableCollections$ListN"), (3, u "Z"), (0, .class_ 19), (0, u "java/util/List"), (0, .interfaceMethodref 21 22), (0, .class_ 23), (0, .nameAndType 24 25), (0, u "java/util/Collection"), (0, u "isEmpty"), (0, u "()Z"), (0, .interfaceMethodref 18 27), (0, .nameAndType 28 29), (0, u "of"), (0, u "()Ljava/util/List;"), (0, .interfaceMethodref 21 31), (0, .nameAndType 32 33), (0, u "toArray"), (0, u "()[Ljava/lang/Object;"), (0, .interfaceMethodref 18 35), (0, .nameAndType 28 36), (0, u "([Ljava/lang/Object;)Ljava/util/List;"), (0, .methodref 38 39), (0, .class_ 40), (0, .nameAndType 41 42), (0, u "java/util/Objects"), (0, u "requireNonNull"), (0, u "(Ljava/lang/Object;)Ljava/lang/Object;"), (0, .methodref 12 44), (0, .nameAndType 5 45), (0, u "([Ljava/lang/Object;Z)V"), (1, .class_ 49), (1, u "java/util/ImmutableCollections"), (0, u "$assertionsDisabled"), (5, u "[Ljava/lang/Object;"), (5, u "EMPTY_LIST"), (0, u "Ljava/util/ImmutableCollections$ListN;"), (8, u "EMPTY_LIST_NULLS"), (22, u "SALT32L"), (0, u "J"), (2, u "REVERSE"), (6, u "archivedObjects"), (2, u "EMPTY"), (0, u "Ljava/lang/Object;"), (0, .class_ 112), (0, u "java/util/ImmutableCollections$SetN"), (5, u "EMPTY_SET"), (0, u "Ljava/util/ImmutableCollections$SetN;"), (0, .class_ 121), (0, u "java/util/ImmutableCollections$MapN"), (3, u "EMPTY_MAP"), (0, u "Ljava/util/ImmutableCollections$MapN;"), (4, u "EXPAND_FACTOR"), (0, u "I"), (9, u "listCopy"), (0, u "(Ljava/util/Collection;)Ljava/util/List;"), (7, u "listFromArray"), (17, .class_ 170), (0, u "java/util/ImmutableCollections$MapN$MapNIterator"), (0, .class_ 172), (0, u "java/util/ImmutableCollections$MapN$1"), (0, .class_ 174), (0, u "java/util/ImmutableCollections$Map1"), (0, .class_ 176), (0, u "java/util/ImmutableCollections$AbstractImmutableMap"), (0, .class_ 178), (0, u "java/util/ImmutableCollections$SetN$SetNIterator"), (0, .class_ 180), (0, u "java/util/ImmutableCollections$Set12"), (0, .class_ 182), (0, u "java/util/ImmutableCollections$Set12$1"), (0, .class_ 184), (0, u "java/util/ImmutableCollections$AbstractImmutableSet"), (0, .class_ 186), (0, u "java/util/ImmutableCollections$SubList"), (0, .class_ 188), (0, u "java/util/ImmutableCollections$ListItr"), (0, .class_ 190), (0, u "java/util/ImmutableCollections$AbstractImmutableList"), (0, .class_ 192), (0, u "java/util/ImmutableCollections$AbstractImmutableCollection"), (0, .class_ 194), (0, u "java/util/ImmutableCollections$Access"), (0, .class_ 196), (0, u "java/util/ImmutableCollections$Access$1")] 16

def k22m0 : Method := { name := "<init>", desc := "()V", sig := { parameters := [], returnType := none }, accessFlags := 2, code := none }
def k22c1 : Code := { maxStack := 1, maxLocals := 2, code := jdk_56_method_3_code, exceptionTable := #[], attributes := #[] }
def k22m1 : Method := { name := "listCopy", desc := "(Ljava/util/Collection;)Ljava/util/List;", sig := { parameters := [(.object "java/util/Collection")], returnType := some (.object "java/util/List") }, accessFlags := 8, code := some k22c1 }
def k22c2 : Code := { maxStack := 4, maxLocals := 3, code := jdk_56_method_4_code, exceptionTable := #[], attributes := #[] }
def k22m2 : Method := { name := "listFromArray", desc := "([Ljava/lang/Object;)Ljava/util/List;", sig := { parameters := [(.array (.object "java/lang/Object"))], returnType := some (.object "java/util/List") }, accessFlags := 136, code := some k22c2 }
/-- java/util/ImmutableCollections -/
def k22 : Class := { plain "java/util/ImmutableCollections" (some 0) with
  accessFlags := 32
  interfaces := #[]
  cf := some (fileOf pool22 47 #[.nestMembers #[120, 169, 171, 173, 175, 111, 177, 179, 181, 183, 12, 10, 185, 187, 189, 191, 193, 195]] #[{ accessFlags := 2, nameIndex := 5, descriptorIndex := 6, attributes := #[] }, { accessFlags := 8, nameIndex := 142, descriptorIndex := 143, attributes := #[] }, { accessFlags := 136, nameIndex := 151, descriptorIndex := 36, attributes := #[] }] 32 2 #[] #[{ accessFlags := 26, nameIndex := 95, descriptorIndex := 96, attributes := #[] }, { accessFlags := 26, nameIndex := 99, descriptorIndex := 17, attributes := #[] }, { accessFlags := 10, nameIndex := 106, descriptorIndex := 56, attributes := #[] }, { accessFlags := 26, nameIndex := 109, descriptorIndex := 110, attributes := #[] }, { accessFlags := 24, nameIndex := 62, descriptorIndex := 63, attributes := #[] }, { accessFlags := 24, nameIndex := 72, descriptorIndex := 63, attributes := #[] }, { accessFlags := 24, nameIndex := 118, descriptorIndex := 119, attributes := #[] }, { accessFlags := 24, nameIndex := 125, descriptorIndex := 126, attributes := #[] }, { accessFlags := 24, nameIndex := 131, descriptorIndex := 132, attributes := #[] }, { accessFlags := 4120, nameIndex := 50, descriptorIndex := 17, attributes := #[] }])
  fields := #[{ name := "SALT32L", type := .long, accessFlags := 26, slot := 0, constantValue := 0 }, { name := "REVERSE", type := .boolean, accessFlags := 26, slot := 1, constantValue := 0 }, { name := "archivedObjects", type := (.array (.object "java/lang/Object")), accessFlags := 10, slot := 2, constantValue := 0 }, { name := "EMPTY", type := (.object "java/lang/Object"), accessFlags := 26, slot := 3, constantValue := 0 }, { name := "EMPTY_LIST", type := (.object "java/util/ImmutableCollections$ListN"), accessFlags := 24, slot := 4, constantValue := 0 }, { name := "EMPTY_LIST_NULLS", type := (.object "java/util/ImmutableCollections$ListN"), accessFlags := 24, slot := 5, constantValue := 0 }, { name := "EMPTY_SET", type := (.object "java/util/ImmutableCollections$SetN"), accessFlags := 24, slot := 6, constantValue := 0 }, { name := "EMPTY_MAP", type := (.object "java/util/ImmutableCollections$MapN"), accessFlags := 24, slot := 7, constantValue := 0 }, { name := "EXPAND_FACTOR", type := .int, accessFlags := 24, slot := 8, constantValue := 0 }, { name := "$assertionsDisabled", type := .boolean, accessFlags := 4120, slot := 9, constantValue := 0 }]
  methods := #[k22m0, k22m1, k22m2]
  instanceTypes := #[]
  staticTypes := #[.long, .boolean, (.array (.object "java/lang/Object")), (.object "java/lang/Object"), (.object "java/util/ImmutableCollections$ListN"), (.object "java/util/ImmutableCollections$ListN"), (.object "java/util/ImmutableCollections$SetN"), (.object "java/util/ImmutableCollections$MapN"), .int, .boolean]
  resolved := Array.replicate 213 none
  statics := some 2 }

def pool23 : Array CpInfo := pool [(1, .methodref 2 3), (0, .class_ 4), (0, .nameAndType 5 6), (0, u "java/util/AbstractCollection"), (0, u "<init>"), (0, u "()V"), (1, .class_ 10), (1, u "java/util/ImmutableCollections"), (2, .class_ 14), (0, u "java/util/ImmutableCollections$AbstractImmutableCollection")] 41

def k23c0 : Code := { maxStack := 1, maxLocals := 1, code := jdk_47_method_1_code, exceptionTable := #[], attributes := #[] }
def k23m0 : Method := { name := "<init>", desc := "()V", sig := { parameters := [], returnType := none }, accessFlags := 0, code := some k23c0 }
/-- java/util/ImmutableCollections$AbstractImmutableCollection -/
def k23 : Class := { plain "java/util/ImmutableCollections$AbstractImmutableCollection" (some 13) with
  accessFlags := 1056
  interfaces := #[]
  cf := some (fileOf pool23 13 #[.nestHost 8] #[{ accessFlags := 0, nameIndex := 5, descriptorIndex := 6, attributes := #[] }] 1056 2 #[] #[])
  fields := #[]
  methods := #[k23m0]
  instanceTypes := #[]
  staticTypes := #[]
  resolved := Array.replicate 56 none
  statics := none }

def pool24 : Array CpInfo := pool [(1, .methodref 2 3), (0, .class_ 4), (0, .nameAndType 5 6), (0, u "java/util/ImmutableCollections$AbstractImmutableCollection"), (0, u "<init>"), (0, u "()V"), (1, .class_ 10), (1, u "java/util/ImmutableCollections"), (3, .class_ 16), (1, u "java/util/ImmutableCollections$AbstractImmutableList"), (60, .class_ 78), (0, u "java/util/List"), (45, .class_ 125), (0, u "java/util/RandomAccess")] 70

def k24c0 : Code := { maxStack := 1, maxLocals := 1, code := jdk_46_method_1_code, exceptionTable := #[], attributes := #[] }
def k24m0 : Method := { name := "<init>", desc := "()V", sig := { parameters := [], returnType := none }, accessFlags := 0, code := some k24c0 }
/-- java/util/ImmutableCollections$AbstractImmutableList -/
def k24 : Class := { plain "java/util/ImmutableCollections$AbstractImmutableList" (some 23) with
  accessFlags := 1056
  interfaces := #[15, 17]
  cf := some (fileOf pool24 14 #[.nestHost 8] #[{ accessFlags := 0, nameIndex := 5, descriptorIndex := 6, attributes := #[] }] 1056 2 #[77, 124] #[])
  fields := #[]
  methods := #[k24m0]
  instanceTypes := #[]
  staticTypes := #[]
  resolved := Array.replicate 196 none
  statics := none }

def pool25 : Array CpInfo := pool [(1, .methodref 2 3), (0, .class_ 4), (0, .nameAndType 5 6), (0, u "java/util/ImmutableCollections$AbstractImmutableList"), (0, u "<init>"), (0, u "()V"), (0, .methodref 8 9), (0, .class_ 10), (0, .nameAndType 11 12), (0, u "java/util/Objects"), (0, u "requireNonNull"), (0, u "(Ljava/lang/Object;)Ljava/lang/Object;"), (0, .fieldref 14 15), (0, .class_ 16), (0, .nameAndType 17 18), (0, u "java/util/ImmutableCollections$List12"), (0, u "e0"), (0, u "Ljava/lang/Object;"), (0, .fieldref 20 21), (0, .class_ 22), (0, .nameAndType 23 18), (0, u "java/util/ImmutableCollections"), (0, u "EMPTY"), (0, .fieldref 14 25), (0, .nameAndType 26 18), (0, u "e1"), (43, .class_ 71), (0, u "java/io/Serializable"), (4, u "(Ljava/lang/Object;)V"), (8, u "(Ljava/lang/Object;Ljava/lang/Object;)V"), (2, u "isEmpty"), (0, u "()Z")] 35

def k25c0 : Code := { maxStack := 2, maxLocals := 2, code := jdk_44_method_1_code, exceptionTable := #[], attributes := #[] }
def k25m0 : Method := { name := "<init>", desc := "(Ljava/lang/Object;)V", sig := { parameters := [(.object "java/lang/Object")], returnType := none }, accessFlags := 0, code := some k25c0 }
def k25c1 : Code := { maxStack := 2, maxLocals := 3, code := jdk_44_method_2_code, exceptionTable := #[], attributes := #[] }
def k25m1 : Method := { name := "<init>", desc := "(Ljava/lang/Object;Ljava/lang/Object;)V", sig := { parameters := [(.object "java/lang/Object"), (.object "java/lang/Object")], returnType := none }, accessFlags := 0, code := some k25c1 }
def k25c2 : Code := { maxStack := 1, maxLocals := 1, code := jdk_44_method_4_code, exceptionTable := #[], attributes := #[] }
def k25m2 : Method := { name := "isEmpty", desc := "()Z", sig := { parameters := [], returnType := some .boolean }, accessFlags := 1, code := some k25c2 }
/-- java/util/ImmutableCollections$List12 -/
def k25 : Class := { plain "java/util/ImmutableCollections$List12" (some 24) with
  accessFlags := 48
  interfaces := #[4]
  cf := some (fileOf pool25 14 #[.nestHost 20] #[{ accessFlags := 0, nameIndex := 5, descriptorIndex := 76, attributes := #[] }, { accessFlags := 0, nameIndex := 5, descriptorIndex := 85, attributes := #[] }, { accessFlags := 1, nameIndex := 88, descriptorIndex := 89, attributes := #[] }] 48 2 #[70] #[{ accessFlags := 18, nameIndex := 17, descriptorIndex := 18, attributes := #[] }, { accessFlags := 18, nameIndex := 26, descriptorIndex := 18, attributes := #[] }])
  fields := #[{ name := "e0", type := (.object "java/lang/Object"), accessFlags := 18, slot := 0, constantValue := 0 }, { name := "e1", type := (.object "java/lang/Object"), accessFlags := 18, slot := 1, constantValue := 0 }]
  methods := #[k25m0, k25m1, k25m2]
  instanceTypes := #[(.object "java/lang/Object"), (.object "java/lang/Object")]
  staticTypes := #[]
  resolved := Array.replicate 125 none
  statics := none }

def pool26 : Array CpInfo := pool [(1, .methodref 2 3), (0, .class_ 4), (0, .nameAndType 5 6), (0, u "java/util/ImmutableCollections$AbstractImmutableList"), (0, u "<init>"), (0, u "()V"), (0, .fieldref 8 9), (0, .class_ 10), (0, .nameAndType 11 12), (0, u "java/util/ImmutableCollections$ListN"), (0, u "elements"), (0, u "[Ljava/lang/Object;"), (0, .fieldref 8 14), (0, .nameAndType 15 16), (0, u "allowNulls"), (0, u "Z"), (42, .class_ 60), (0, u "java/io/Serializable"), (4, u "([Ljava/lang/Object;Z)V"), (8, u "isEmpty"), (0, u "()Z"), (38, .class_ 115), (0, u "java/util/ImmutableCollections")] 3

def k26c0 : Code := { maxStack := 2, maxLocals := 3, code := jdk_45_method_1_code, exceptionTable := #[], attributes := #[] }
def k26m0 : Method := { name := "<init>", desc := "([Ljava/lang/Object;Z)V", sig := { parameters := [(.array (.object "java/lang/Object")), .boolean], returnType := none }, accessFlags := 2, code := some k26c0 }
def k26c1 : Code := { maxStack := 1, maxLocals := 1, code := jdk_45_method_2_code, exceptionTable := #[], attributes := #[] }
def k26m1 : Method := { name := "isEmpty", desc := "()Z", sig := { parameters := [], returnType := some .boolean }, accessFlags := 1, code := some k26c1 }
/-- java/util/ImmutableCollections$ListN -/
def k26 : Class := { plain "java/util/ImmutableCollections$ListN" (some 24) with
  accessFlags := 48
  interfaces := #[4]
  cf := some (fileOf pool26 8 #[.nestHost 114] #[{ accessFlags := 2, nameIndex := 5, descriptorIndex := 65, attributes := #[] }, { accessFlags := 1, nameIndex := 74, descriptorIndex := 75, attributes := #[] }] 48 2 #[59] #[{ accessFlags := 18, nameIndex := 11, descriptorIndex := 12, attributes := #[] }, { accessFlags := 18, nameIndex := 15, descriptorIndex := 16, attributes := #[] }])
  fields := #[{ name := "elements", type := (.array (.object "java/lang/Object")), accessFlags := 18, slot := 0, constantValue := 0 }, { name := "allowNulls", type := .boolean, accessFlags := 18, slot := 1, constantValue := 0 }]
  methods := #[k26m0, k26m1]
  instanceTypes := #[(.array (.object "java/lang/Object")), .boolean]
  staticTypes := #[]
  resolved := Array.replicate 119 none
  statics := none }

def pool27 : Array CpInfo := pool [(2, .class_ 4), (1, u "java/lang/Object"), (0, u "<init>"), (0, u "()V"), (7, .class_ 16), (1, u "java/util/Arrays"), (57, .class_ 76), (1, u "java/util/Arrays$NaturalOrder"), (9, .methodref 2 87), (0, .nameAndType 88 89), (0, u "getClass"), (0, u "()Ljava/lang/Class;"), (20, .class_ 111), (0, u "[Ljava/lang/Object;"), (1, .class_ 115), (1, u "java/util/Arrays$LegacyMergeSort"), (1, u "Z"), (32, .methodref 151 152), (0, .class_ 153), (0, .nameAndType 154 155), (0, u "java/lang/System"), (0, u "arraycopy"), (0, u "(Ljava/lang/Object;ILjava/lang/Object;II)V"), (144, .methodref 14 301), (0, .nameAndType 302 303), (0, u "copyOf"), (0, u "([Ljava/lang/Object;ILjava/lang/Class;)[Ljava/lang/Object;"), (0, .methodref 305 306), (0, .class_ 307), (0, .nameAndType 308 309), (0, u "java/lang/Math"), (0, u "min"), (0, u "(II)I"), (65, .class_ 376), (0, u "java/util/Arrays$ArrayList"), (68, u "$assertionsDisabled"), (269, u "MIN_ARRAY_SORT_GRAN"), (0, u "I"), (2, u "INSERTIONSORT_THRESHOLD"), (140, u "([Ljava/lang/Object;I)[Ljava/lang/Object;"), (114, .class_ 976), (0, u "java/util/Arrays$ArrayItr")] 52

def k27m0 : Method := { name := "<init>", desc := "()V", sig := { parameters := [], returnType := none }, accessFlags := 2, code := none }
def k27c1 : Code := { maxStack := 3, maxLocals := 2, code := jdk_65_method_119_code, exceptionTable := #[], attributes := #[] }
def k27m1 : Method := { name := "copyOf", desc := "([Ljava/lang/Object;I)[Ljava/lang/Object;", sig := { parameters := [(.array (.object "java/lang/Object")), .int], returnType := some (.array (.object "java/lang/Object")) }, accessFlags := 9, code := some k27c1 }
def k27c2 : Code := { maxStack := 6, maxLocals := 4, code := jdk_65_method_120_code, exceptionTable := #[], attributes := #[] }
def k27m2 : Method := { name := "copyOf", desc := "([Ljava/lang/Object;ILjava/lang/Class;)[Ljava/lang/Object;", sig := { parameters := [(.array (.object "java/lang/Object")), .int, (.object "java/lang/Class")], returnType := some (.array (.object "java/lang/Object")) }, accessFlags := 9, code := some k27c2 }
/-- java/util/Arrays -/
def k27 : Class := { plain "java/util/Arrays" (some 0) with
  accessFlags := 49
  interfaces := #[]
  cf := some (fileOf pool27 14 #[.nestMembers #[975, 375, 113, 74]] #[{ accessFlags := 2, nameIndex := 5, descriptorIndex := 6, attributes := #[] }, { accessFlags := 9, nameIndex := 302, descriptorIndex := 860, attributes := #[] }, { accessFlags := 9, nameIndex := 302, descriptorIndex := 303, attributes := #[] }] 49 2 #[] #[{ accessFlags := 26, nameIndex := 715, descriptorIndex := 716, attributes := #[] }, { accessFlags := 26, nameIndex := 719, descriptorIndex := 716, attributes := #[] }, { accessFlags := 4120, nameIndex := 445, descriptorIndex := 117, attributes := #[] }])
  fields := #[{ name := "MIN_ARRAY_SORT_GRAN", type := .int, accessFlags := 26, slot := 0, constantValue := 0 }, { name := "INSERTIONSORT_THRESHOLD", type := .int, accessFlags := 26, slot := 1, constantValue := 0 }, { name := "$assertionsDisabled", type := .boolean, accessFlags := 4120, slot := 2, constantValue := 0 }]
  methods := #[k27m0, k27m1, k27m2]
  instanceTypes := #[]
  staticTypes := #[.int, .int, .boolean]
  resolved := Array.replicate 1029 none
  statics := none }

def pool28 : Array CpInfo := pool [(2, .class_ 4), (1, u "java/lang/Object"), (0, u "<init>"), (0, u "()V"), (1, .class_ 10), (1, u "java/lang/System"), (0, u "allowSecurityManager"), (0, u "I"), (16, u "cons"), (0, u "Ljava/io/Console;"), (77, .class_ 110), (1, u "java/lang/System$CallersHolder"), (43, u "initialErrStream"), (0, u "Ljava/io/PrintStream;"), (19, u "security"), (0, u "Ljava/lang/SecurityManager;"), (31, .class_ 209), (0, u "java/lang/System$1"), (7, u "props"), (0, u "Ljava/util/Properties;"), (2, u "lineSeparator"), (0, u "Ljava/lang/String;"), (96, .class_ 321), (1, u "java/lang/System$LoggerFinder"), (5, .class_ 328), (0, u "java/lang/System$Logger"), (67, u "err"), (2, u "out"), (91, u "notSupportedJnuEncoding"), (15, u "in"), (17, u "initialIn"), (0, u "Ljava/io/InputStream;"), (35, u "bootLayer"), (0, u "Ljava/lang/ModuleLayer;"), (99, .class_ 664), (0, u "java/lang/System$2"), (9, u "NEVER"), (2, u "MAYBE"), (49, u "arraycopy"), (0, u "(Ljava/lang/Object;ILjava/lang/Object;II)V"), (72, .class_ 802), (0, u "java/lang/System$Logger$Level")] 31

def k28m0 : Method := { name := "<init>", desc := "()V", sig := { parameters := [], returnType := none }, accessFlags := 2, code := none }
def k28m1 : Method := { name := "arraycopy", desc := "(Ljava/lang/Object;ILjava/lang/Object;II)V", sig := { parameters := [(.object "java/lang/Object"), .int, (.object "java/lang/Object"), .int, .int], returnType := none }, accessFlags := 265, code := none }
/-- java/lang/System -/
def k28 : Class := { plain "java/lang/System" (some 0) with
  accessFlags := 49
  interfaces := #[]
  cf := some (fileOf pool28 8 #[.nestMembers #[319, 327, 801, 108, 663, 208]] #[{ accessFlags := 2, nameIndex := 5, descriptorIndex := 6, attributes := #[] }, { accessFlags := 265, nameIndex := 727, descriptorIndex := 728, attributes := #[] }] 49 2 #[] #[{ accessFlags := 25, nameIndex := 507, descriptorIndex := 526, attributes := #[] }, { accessFlags := 25, nameIndex := 399, descriptorIndex := 155, attributes := #[] }, { accessFlags := 25, nameIndex := 396, descriptorIndex := 155, attributes := #[] }, { accessFlags := 10, nameIndex := 525, descriptorIndex := 526, attributes := #[] }, { accessFlags := 26, nameIndex := 674, descriptorIndex := 12, attributes := #[] }, { accessFlags := 26, nameIndex := 677, descriptorIndex := 12, attributes := #[] }, { accessFlags := 10, nameIndex := 11, descriptorIndex := 12, attributes := #[] }, { accessFlags := 74, nameIndex := 175, descriptorIndex := 176, attributes := #[] }, { accessFlags := 10, nameIndex := 491, descriptorIndex := 222, attributes := #[] }, { accessFlags := 74, nameIndex := 29, descriptorIndex := 30, attributes := #[] }, { accessFlags := 74, nameIndex := 154, descriptorIndex := 155, attributes := #[] }, { accessFlags := 10, nameIndex := 217, descriptorIndex := 218, attributes := #[] }, { accessFlags := 10, nameIndex := 221, descriptorIndex := 222, attributes := #[] }, { accessFlags := 8, nameIndex := 562, descriptorIndex := 563, attributes := #[] }])
  fields := #[{ name := "in", type := (.object "java/io/InputStream"), accessFlags := 25, slot := 0, constantValue := 0 }, { name := "out", type := (.object "java/io/PrintStream"), accessFlags := 25, slot := 1, constantValue := 0 }, { name := "err", type := (.object "java/io/PrintStream"), accessFlags := 25, slot := 2, constantValue := 0 }, { name := "initialIn", type := (.object "java/io/InputStream"), accessFlags := 10, slot := 3, constantValue := 0 }, { name := "NEVER", type := .int, accessFlags := 26, slot := 4, constantValue := 0 }, { name := "MAYBE", type := .int, accessFlags := 26, slot := 5, constantValue := 0 }, { name := "allowSecurityManager", type := .int, accessFlags := 10, slot := 6, constantValue := 0 }, { name := "security", type := (.object "java/lang/SecurityManager"), accessFlags := 74, slot := 7, constantValue := 0 }, { name := "notSupportedJnuEncoding", type := (.object "java/lang/String"), accessFlags := 10, slot := 8, constantValue := 0 }, { name := "cons", type := (.object "java/io/Console"), accessFlags := 74, slot := 9, constantValue := 0 }, { name := "initialErrStream", type := (.object "java/io/PrintStream"), accessFlags := 74, slot := 10, constantValue := 0 }, { name := "props", type := (.object "java/util/Properties"), accessFlags := 10, slot := 11, constantValue := 0 }, { name := "lineSeparator", type := (.object "java/lang/String"), accessFlags := 10, slot := 12, constantValue := 0 }, { name := "bootLayer", type := (.object "java/lang/ModuleLayer"), accessFlags := 8, slot := 13, constantValue := 0 }]
  methods := #[k28m0, k28m1]
  instanceTypes := #[]
  staticTypes := #[(.object "java/io/InputStream"), (.object "java/io/PrintStream"), (.object "java/io/PrintStream"), (.object "java/io/InputStream"), .int, .int, .int, (.object "java/lang/SecurityManager"), (.object "java/lang/String"), (.object "java/io/Console"), (.object "java/io/PrintStream"), (.object "java/util/Properties"), (.object "java/lang/String"), (.object "java/lang/ModuleLayer")]
  resolved := Array.replicate 834 none
  statics := none }

def pool29 : Array CpInfo := pool [(2, .class_ 4), (1, u "java/lang/Object"), (0, u "<init>"), (0, u "()V"), (35, .class_ 44), (1, u "java/util/Objects"), (0, u "requireNonNull"), (0, u "(Ljava/lang/Object;)Ljava/lang/Object;")] 137

def k29m0 : Method := { name := "<init>", desc := "()V", sig := { parameters := [], returnType := none }, accessFlags := 2, code := none }
def k29c1 : Code := { maxStack := 2, maxLocals := 1, code := jdk_31_method_10_code, exceptionTable := #[], attributes := #[] }
def k29m1 : Method := { name := "requireNonNull", desc := "(Ljava/lang/Object;)Ljava/lang/Object;", sig := { parameters := [(.object "java/lang/Object")], returnType := some (.object "java/lang/Object") }, accessFlags := 9, code := some k29c1 }
/-- java/util/Objects -/
def k29 : Class := { plain "java/util/Objects" (some 0) with
  accessFlags := 49
  interfaces := #[]
  cf := some (fileOf pool29 42 #[] #[{ accessFlags := 2, nameIndex := 5, descriptorIndex := 6, attributes := #[] }, { accessFlags := 9, nameIndex := 45, descriptorIndex := 46, attributes := #[] }] 49 2 #[] #[])
  fields := #[]
  methods := #[k29m0, k29m1]
  instanceTypes := #[]
  staticTypes := #[]
  resolved := Array.replicate 184 none
  statics := none }

def pool30 : Array CpInfo := pool [(2, .class_ 4), (1, u "java/lang/Object"), (0, u "<init>"), (0, u "()V"), (17, .class_ 26), (1, u "jdk/internal/util/Preconditions"), (28, .class_ 56), (0, u "jdk/internal/util/Preconditions$4"), (57, .class_ 115), (0, u "jdk/internal/util/Preconditions$1"), (7, u "SIOOBE_FORMATTER"), (0, u "Ljava/util/function/BiFunction;"), (0, .class_ 126), (0, u "jdk/internal/util/Preconditions$2"), (3, u "AIOOBE_FORMATTER"), (0, .class_ 132), (0, u "jdk/internal/util/Preconditions$3"), (3, u "IOOBE_FORMATTER")] 57

def k30m0 : Method := { name := "<init>", desc := "()V", sig := { parameters := [], returnType := none }, accessFlags := 1, code := none }
/-- jdk/internal/util/Preconditions -/
def k30 : Class := { plain "jdk/internal/util/Preconditions" (some 0) with
  accessFlags := 33
  interfaces := #[]
  cf := some (fileOf pool30 24 #[.nestMembers #[55, 131, 125, 114]] #[{ accessFlags := 1, nameIndex := 5, descriptorIndex := 6, attributes := #[] }] 33 2 #[] #[{ accessFlags := 25, nameIndex := 123, descriptorIndex := 124, attributes := #[] }, { accessFlags := 25, nameIndex := 130, descriptorIndex := 124, attributes := #[] }, { accessFlags := 25, nameIndex := 136, descriptorIndex := 124, attributes := #[] }])
  fields := #[{ name := "SIOOBE_FORMATTER", type := (.object "java/util/function/BiFunction"), accessFlags := 25, slot := 0, constantValue := 0 }, { name := "AIOOBE_FORMATTER", type := (.object "java/util/function/BiFunction"), accessFlags := 25, slot := 1, constantValue := 0 }, { name := "IOOBE_FORMATTER", type := (.object "java/util/function/BiFunction"), accessFlags := 25, slot := 2, constantValue := 0 }]
  methods := #[k30m0]
  instanceTypes := #[]
  staticTypes := #[(.object "java/util/function/BiFunction"), (.object "java/util/function/BiFunction"), (.object "java/util/function/BiFunction")]
  resolved := Array.replicate 194 none
  statics := some 3 }

def pool31 : Array CpInfo := pool [(9, u "<init>"), (6, .class_ 18), (1, u "java/lang/Object"), (0, u "()V"), (1, .class_ 23), (1, u "jdk/internal/util/ArraysSupport"), (0, u "LOG2_ARRAY_LONG_INDEX_SCALE"), (0, u "I"), (2, u "U"), (0, u "Ljdk/internal/misc/Unsafe;"), (8, u "BIG_ENDIAN"), (0, u "Z"), (8, u "LOG2_BYTE_BIT_SIZE"), (4, u "LOG2_ARRAY_INT_INDEX_SCALE"), (54, u "JLA"), (0, u "Ljdk/internal/access/JavaLangAccess;"), (11, u "LOG2_ARRAY_BOOLEAN_INDEX_SCALE"), (9, u "LOG2_ARRAY_BYTE_INDEX_SCALE"), (5, u "LOG2_ARRAY_CHAR_INDEX_SCALE"), (5, u "LOG2_ARRAY_SHORT_INDEX_SCALE"), (18, u "LOG2_ARRAY_FLOAT_INDEX_SCALE"), (24, u "LOG2_ARRAY_DOUBLE_INDEX_SCALE"), (89, u "T_BOOLEAN"), (2, u "T_CHAR"), (1, u "T_FLOAT"), (1, u "T_DOUBLE"), (1, u "T_BYTE"), (1, u "T_SHORT"), (1, u "T_INT"), (1, u "T_LONG"), (1, u "SOFT_MAX_ARRAY_LENGTH")] 83

def k31m0 : Method := { name := "<init>", desc := "()V", sig := { parameters := [], returnType := none }, accessFlags := 2, code := none }
/-- jdk/internal/util/ArraysSupport -/
def k31 : Class := { plain "jdk/internal/util/ArraysSupport" (some 0) with
  accessFlags := 33
  interfaces := #[]
  cf := some (fileOf pool31 21 #[] #[{ accessFlags := 2, nameIndex := 9, descriptorIndex := 19, attributes := #[] }] 33 16 #[] #[{ accessFlags := 24, nameIndex := 28, descriptorIndex := 29, attributes := #[] }, { accessFlags := 26, nameIndex := 38, descriptorIndex := 39, attributes := #[] }, { accessFlags := 25, nameIndex := 121, descriptorIndex := 25, attributes := #[] }, { accessFlags := 25, nameIndex := 131, descriptorIndex := 25, attributes := #[] }, { accessFlags := 25, nameIndex := 137, descriptorIndex := 25, attributes := #[] }, { accessFlags := 25, nameIndex := 143, descriptorIndex := 25, attributes := #[] }, { accessFlags := 25, nameIndex := 53, descriptorIndex := 25, attributes := #[] }, { accessFlags := 25, nameIndex := 24, descriptorIndex := 25, attributes := #[] }, { accessFlags := 25, nameIndex := 162, descriptorIndex := 25, attributes := #[] }, { accessFlags := 25, nameIndex := 187, descriptorIndex := 25, attributes := #[] }, { accessFlags := 26, nameIndex := 48, descriptorIndex := 25, attributes := #[] }, { accessFlags := 25, nameIndex := 277, descriptorIndex := 25, attributes := #[] }, { accessFlags := 25, nameIndex := 280, descriptorIndex := 25, attributes := #[] }, { accessFlags := 25, nameIndex := 282, descriptorIndex := 25, attributes := #[] }, { accessFlags := 25, nameIndex := 284, descriptorIndex := 25, attributes := #[] }, { accessFlags := 25, nameIndex := 286, descriptorIndex := 25, attributes := #[] }, { accessFlags := 25, nameIndex := 288, descriptorIndex := 25, attributes := #[] }, { accessFlags := 25, nameIndex := 290, descriptorIndex := 25, attributes := #[] }, { accessFlags := 25, nameIndex := 292, descriptorIndex := 25, attributes := #[] }, { accessFlags := 26, nameIndex := 108, descriptorIndex := 109, attributes := #[] }, { accessFlags := 25, nameIndex := 294, descriptorIndex := 25, attributes := #[] }])
  fields := #[{ name := "U", type := (.object "jdk/internal/misc/Unsafe"), accessFlags := 24, slot := 0, constantValue := 0 }, { name := "BIG_ENDIAN", type := .boolean, accessFlags := 26, slot := 1, constantValue := 0 }, { name := "LOG2_ARRAY_BOOLEAN_INDEX_SCALE", type := .int, accessFlags := 25, slot := 2, constantValue := 0 }, { name := "LOG2_ARRAY_BYTE_INDEX_SCALE", type := .int, accessFlags := 25, slot := 3, constantValue := 0 }, { name := "LOG2_ARRAY_CHAR_INDEX_SCALE", type := .int, accessFlags := 25, slot := 4, constantValue := 0 }, { name := "LOG2_ARRAY_SHORT_INDEX_SCALE", type := .int, accessFlags := 25, slot := 5, constantValue := 0 }, { name := "LOG2_ARRAY_INT_INDEX_SCALE", type := .int, accessFlags := 25, slot := 6, constantValue := 0 }, { name := "LOG2_ARRAY_LONG_INDEX_SCALE", type := .int, accessFlags := 25, slot := 7, constantValue := 0 }, { name := "LOG2_ARRAY_FLOAT_INDEX_SCALE", type := .int, accessFlags := 25, slot := 8, constantValue := 0 }, { name := "LOG2_ARRAY_DOUBLE_INDEX_SCALE", type := .int, accessFlags := 25, slot := 9, constantValue := 0 }, { name := "LOG2_BYTE_BIT_SIZE", type := .int, accessFlags := 26, slot := 10, constantValue := 0 }, { name := "T_BOOLEAN", type := .int, accessFlags := 25, slot := 11, constantValue := 0 }, { name := "T_CHAR", type := .int, accessFlags := 25, slot := 12, constantValue := 0 }, { name := "T_FLOAT", type := .int, accessFlags := 25, slot := 13, constantValue := 0 }, { name := "T_DOUBLE", type := .int, accessFlags := 25, slot := 14, constantValue := 0 }, { name := "T_BYTE", type := .int, accessFlags := 25, slot := 15, constantValue := 0 }, { name := "T_SHORT", type := .int, accessFlags := 25, slot := 16, constantValue := 0 }, { name := "T_INT", type := .int, accessFlags := 25, slot := 17, constantValue := 0 }, { name := "T_LONG", type := .int, accessFlags := 25, slot := 18, constantValue := 0 }, { name := "JLA", type := (.object "jdk/internal/access/JavaLangAccess"), accessFlags := 26, slot := 19, constantValue := 0 }, { name := "SOFT_MAX_ARRAY_LENGTH", type := .int, accessFlags := 25, slot := 20, constantValue := 0 }]
  methods := #[k31m0]
  instanceTypes := #[]
  staticTypes := #[(.object "jdk/internal/misc/Unsafe"), .boolean, .int, .int, .int, .int, .int, .int, .int, .int, .int, .int, .int, .int, .int, .int, .int, .int, .int, (.object "jdk/internal/access/JavaLangAccess"), .int]
  resolved := Array.replicate 378 none
  statics := none }

def pool32 : Array CpInfo := pool [(1, u "java/lang/Class"), (0, .class_ 1), (0, u "java/lang/Object"), (0, .class_ 3)] 3

/-- java/lang/Class -/
def k32 : Class := { plain "java/lang/Class" (some 0) with
  accessFlags := 49
  interfaces := #[]
  cf := some (fileOf pool32 2 #[] #[] 49 4 #[] #[])
  fields := #[]
  methods := #[]
  instanceTypes := #[]
  staticTypes := #[]
  resolved := Array.replicate 8 none
  statics := none }

/-- the primitive byte -/
def k33 : Class := { plain "byte" none with kind := .primitive 'B', accessFlags := 0x411 }
/-- [B -/
def k34 : Class := { plain "[B" (some 0) with kind := .array 33 .byte, interfaces := #[18, 4], accessFlags := 1041 }

/-- the primitive int -/
def k35 : Class := { plain "int" none with kind := .primitive 'I', accessFlags := 0x411 }
/-- [I -/
def k36 : Class := { plain "[I" (some 0) with kind := .array 35 .int, interfaces := #[18, 4], accessFlags := 1041 }

/-- [Ljava/lang/Object; -/
def k37 : Class := { plain "[Ljava/lang/Object;" (some 0) with kind := .array 0 (.object "java/lang/Object"), interfaces := #[18, 4], accessFlags := 1041, mirror := some 4 }

def heap : Heap := #[{ cls := 9, slots := #[.long 0, .int 1, .null, .int 0, .null, .int 0, .int 0], vm := .statics 9 },
  { cls := 19, slots := #[.long 0, .int 0, .ref 6, .ref 5], vm := .statics 19 },
  { cls := 22, slots := #[.long 0, .int 0, .null, .ref 8, .ref 9, .null, .null, .null, .int 0, .int 1], vm := .statics 22 },
  { cls := 30, slots := #[.null, .null, .null], vm := .statics 30 },
  { cls := 32, slots := #[], vm := .mirror 37 },
  { cls := 37, slots := #[], vm := .none },
  { cls := 37, slots := #[], vm := .none },
  { cls := 37, slots := #[], vm := .none },
  { cls := 0, slots := #[], vm := .none },
  { cls := 26, slots := #[.ref 7, .int 0], vm := .none }]
def classes : Array Class := #[k0, k1, k2, k3, k4, k5, k6, k7, k8, k9, k10, k11, k12, k13, k14, k15, k16, k17, k18, k19, k20, k21, k22, k23, k24, k25, k26, k27, k28, k29, k30, k31, k32, k33, k34, k35, k36, k37]
def interned : List (Array UInt16 × Addr) := []
def slotsUsed : Nat := 26
def theMethod : MethodId := ⟨1, 1⟩
def args0 : Array Value := #[.int 1, .int 2, .int 3, .int 4]
def aboutOver (below : List Frame) : State where
  vm := { classes := classes, interned := interned.toArray }
  heap := heap
  slotsUsed := slotsUsed
  threads := #[{ frames := .invoking theMethod args0 :: below }]
def below0 : List Frame := [.native { method := ⟨0, 0⟩, args := #[] }]
def about1 : State := aboutOver below0
def p0 : Program := .bare "" "" ""
def e0 : Env := launch0.env 0 0 0
theorem w_frames : about1.frames = Frame.invoking theMethod args0 :: below0 := rfl
set_option maxRecDepth 65536 in
theorem w_args : argsFit about1.vm theMethod args0 = true := by decide +kernel
set_option maxRecDepth 65536 in
theorem w_heap : heapFits about1 = true := by decide +kernel
set_option maxRecDepth 65536 in
theorem w_runnable : about1.curStatus? = some .runnable := by decide +kernel
set_option maxRecDepth 65536 in
theorem w_alone : about1.alone = true := by decide +kernel
set_option maxRecDepth 65536 in
theorem w_named : about1.methodNamed? x = some theMethod := by decide +kernel
set_option maxRecDepth 65536 in
theorem w_hears : about1.hears theMethod below0 = true := by decide +kernel
set_option maxRecDepth 65536 in
theorem w_ripe : about1.ripe theMethod args0 below0 = true := by decide +kernel
theorem w_running : about1.status = .running := rfl
set_option maxRecDepth 65536 in
theorem w_room : about1.hasRoom e0.platform room_1 = true :=
  launch0.hasRoom_least _ room_1 (by decide +kernel) (by decide +kernel) (by decide +kernel) (by decide +kernel) (by decide +kernel) (by decide +kernel)
theorem allAtoms_all (ts : List Jvm.Cond) (a : Array Jvm.Value) (st : Jvm.State) : (allAtoms ts).before a st = ts.all (fun c => c.before a st) := by
  induction ts with
  | nil => rfl
  | cons c t ih =>
    show (Jvm.Cond.and c (allAtoms t)).before a st = _
    rw [Jvm.Cond.before_and, ih, List.all_cons]
def words1 : List Jvm.Cond := Jvm.Cond.code x code maxLocals ret :: tables_1
/-- a 'code' word, met by the world's own term for the bytes: nothing is compared byte by byte -/
theorem code_word {y : MethodName} {bytes : ByteArray} {mx : Nat} {rt : Option FieldType} {a : Array Value} {s : State} {m : MethodId} {meth : Method} {c : Code} (h1 : s.methodNamed? y = some m) (h2 : s.vm.method? m = some meth) (h3 : meth.code = some c) (h4 : c.code = bytes)
    (h5 : (c.maxLocals == mx && c.exceptionTable.isEmpty && decide (c.maxStack ≤ mostOperands) && decide (meth.sig.returnType = rt) && !meth.locks && decide (parseMethodDescriptor y.desc = some meth.sig)) = true) : (Jvm.Cond.code y bytes mx rt).before a s = true := by
  simp only [Bool.and_eq_true, beq_iff_eq, Bool.not_eq_true', decide_eq_true_eq] at h5
  obtain ⟨⟨⟨⟨⟨g1, g2⟩, g3⟩, g4⟩, g5⟩, g6⟩ := h5
  simp [Cond.before, Cond.holds, Cond.value, h1, h2, h3, h4, g1, g2, g3, g4, g5, g6]
def isCode : Jvm.Cond → Bool
  | .code _ _ _ _ => true
  | _ => false
theorem all_split {L : List Jvm.Cond} {P : Jvm.Cond → Bool} (h1 : L.all (fun c => isCode c || P c) = true) (h2 : ∀ c ∈ L.filter isCode, P c = true) : L.all P = true := by
  refine List.all_eq_true.mpr fun c hc => ?_
  have h := List.all_eq_true.mp h1 c hc
  rcases Bool.eq_false_or_eq_true (isCode c) with hi | hi
  · exact h2 c (List.mem_filter.mpr ⟨hc, hi⟩)
  · simpa [hi] using h
set_option maxRecDepth 65536 in
theorem w_c0 : (Jvm.Cond.code x code maxLocals ret).before args0 about1 = true := code_word (m := ⟨1, 1⟩) (meth := k1m1) (c := k1c1) (by decide +kernel) rfl rfl rfl (by decide +kernel)
set_option maxRecDepth 65536 in
theorem w_c1 : (Jvm.Cond.code ({ cls := "java/lang/String", name := "valueOf", desc := "(C)Ljava/lang/String;" } : Jvm.MethodName) jdk_42_method_139_code (1 : Nat) (Option.some (Jvm.ClassFile.FieldType.object "java/lang/String"))).before args0 about1 = true := code_word (m := ⟨9, 1⟩) (meth := k9m1) (c := k9c1) (by decide +kernel) rfl rfl rfl (by decide +kernel)
set_option maxRecDepth 65536 in
theorem w_c2 : (Jvm.Cond.code ({ cls := "java/lang/StringLatin1", name := "canEncode", desc := "(C)Z" } : Jvm.MethodName) jdk_43_method_3_code (1 : Nat) (Option.some Jvm.ClassFile.FieldType.boolean)).before args0 about1 = true := code_word (m := ⟨10, 1⟩) (meth := k10m1) (c := k10c1) (by decide +kernel) rfl rfl rfl (by decide +kernel)
set_option maxRecDepth 65536 in
theorem w_c3 : (Jvm.Cond.code ({ cls := "java/lang/StringLatin1", name := "toBytes", desc := "(C)[B" } : Jvm.MethodName) jdk_43_method_46_code (1 : Nat) (Option.some (Jvm.ClassFile.FieldType.array Jvm.ClassFile.FieldType.byte))).before args0 about1 = true := code_word (m := ⟨10, 2⟩) (meth := k10m2) (c := k10c2) (by decide +kernel) rfl rfl rfl (by decide +kernel)
set_option maxRecDepth 65536 in
theorem w_c4 : (Jvm.Cond.code ({ cls := "java/lang/String", name := "<init>", desc := "([BB)V" } : Jvm.MethodName) jdk_42_method_151_code (3 : Nat) (Option.none : Option Jvm.ClassFile.FieldType)).before args0 about1 = true := code_word (m := ⟨9, 2⟩) (meth := k9m2) (c := k9c2) (by decide +kernel) rfl rfl rfl (by decide +kernel)
set_option maxRecDepth 65536 in
theorem w_c5 : (Jvm.Cond.code ({ cls := "java/lang/Object", name := "<init>", desc := "()V" } : Jvm.MethodName) object_method_1_code (1 : Nat) (Option.none : Option Jvm.ClassFile.FieldType)).before args0 about1 = true := code_word (m := ⟨0, 0⟩) (meth := k0m0) (c := k0c0) (by decide +kernel) rfl rfl rfl (by decide +kernel)
set_option maxRecDepth 65536 in
theorem w_c6 : (Jvm.Cond.code ({ cls := "com/example/scopa/scopa/schema/Column", name := "<init>", desc := "(Ljava/lang/String;Ljava/lang/String;Ljava/lang/String;)V" } : Jvm.MethodName) prog_9_method_1_code (4 : Nat) (Option.none : Option Jvm.ClassFile.FieldType)).before args0 about1 = true := code_word (m := ⟨3, 0⟩) (meth := k3m0) (c := k3c0) (by decide +kernel) rfl rfl rfl (by decide +kernel)
set_option maxRecDepth 65536 in
theorem w_c7 : (Jvm.Cond.code ({ cls := "java/lang/Record", name := "<init>", desc := "()V" } : Jvm.MethodName) jdk_30_method_1_code (1 : Nat) (Option.none : Option Jvm.ClassFile.FieldType)).before args0 about1 = true := code_word (m := ⟨2, 0⟩) (meth := k2m0) (c := k2c0) (by decide +kernel) rfl rfl rfl (by decide +kernel)
set_option maxRecDepth 65536 in
theorem w_c8 : (Jvm.Cond.code ({ cls := "com/example/scopa/scopa/schema/TableHasPrimaryKeyPinLaw", name := "listOf", desc := "(Lcom/example/scopa/scopa/schema/Column;Lcom/example/scopa/scopa/schema/Column;I)Ljava/util/ArrayList;" } : Jvm.MethodName) method_3_code (4 : Nat) (Option.some (Jvm.ClassFile.FieldType.object "java/util/ArrayList"))).before args0 about1 = true := code_word (m := ⟨1, 2⟩) (meth := k1m2) (c := k1c2) (by decide +kernel) rfl rfl rfl (by decide +kernel)
set_option maxRecDepth 65536 in
theorem w_c9 : (Jvm.Cond.code ({ cls := "java/util/ArrayList", name := "<init>", desc := "()V" } : Jvm.MethodName) jdk_38_method_2_code (1 : Nat) (Option.none : Option Jvm.ClassFile.FieldType)).before args0 about1 = true := code_word (m := ⟨19, 0⟩) (meth := k19m0) (c := k19c0) (by decide +kernel) rfl rfl rfl (by decide +kernel)
set_option maxRecDepth 65536 in
theorem w_c10 : (Jvm.Cond.code ({ cls := "java/util/AbstractList", name := "<init>", desc := "()V" } : Jvm.MethodName) jdk_39_method_1_code (1 : Nat) (Option.none : Option Jvm.ClassFile.FieldType)).before args0 about1 = true := code_word (m := ⟨16, 0⟩) (meth := k16m0) (c := k16c0) (by decide +kernel) rfl rfl rfl (by decide +kernel)
set_option maxRecDepth 65536 in
theorem w_c11 : (Jvm.Cond.code ({ cls := "java/util/AbstractCollection", name := "<init>", desc := "()V" } : Jvm.MethodName) jdk_22_method_1_code (1 : Nat) (Option.none : Option Jvm.ClassFile.FieldType)).before args0 about1 = true := code_word (m := ⟨13, 0⟩) (meth := k13m0) (c := k13c0) (by decide +kernel) rfl rfl rfl (by decide +kernel)
set_option maxRecDepth 65536 in
theorem w_c12 : (Jvm.Cond.code ({ cls := "java/util/ArrayList", name := "add", desc := "(Ljava/lang/Object;)Z" } : Jvm.MethodName) jdk_38_method_25_code (2 : Nat) (Option.some Jvm.ClassFile.FieldType.boolean)).before args0 about1 = true := code_word (m := ⟨19, 6⟩) (meth := k19m6) (c := k19c6) (by decide +kernel) rfl rfl rfl (by decide +kernel)
set_option maxRecDepth 65536 in
theorem w_c13 : (Jvm.Cond.code ({ cls := "java/util/ArrayList", name := "add", desc := "(Ljava/lang/Object;[Ljava/lang/Object;I)V" } : Jvm.MethodName) jdk_38_method_24_code (4 : Nat) (Option.none : Option Jvm.ClassFile.FieldType)).before args0 about1 = true := code_word (m := ⟨19, 5⟩) (meth := k19m5) (c := k19c5) (by decide +kernel) rfl rfl rfl (by decide +kernel)
set_option maxRecDepth 65536 in
theorem w_c14 : (Jvm.Cond.code ({ cls := "java/util/ArrayList", name := "grow", desc := "()[Ljava/lang/Object;" } : Jvm.MethodName) jdk_38_method_7_code (1 : Nat) (Option.some (Jvm.ClassFile.FieldType.array (Jvm.ClassFile.FieldType.object "java/lang/Object")))).before args0 about1 = true := code_word (m := ⟨19, 2⟩) (meth := k19m2) (c := k19c2) (by decide +kernel) rfl rfl rfl (by decide +kernel)
set_option maxRecDepth 65536 in
theorem w_c15 : (Jvm.Cond.code ({ cls := "java/util/ArrayList", name := "grow", desc := "(I)[Ljava/lang/Object;" } : Jvm.MethodName) jdk_38_method_6_code (4 : Nat) (Option.some (Jvm.ClassFile.FieldType.array (Jvm.ClassFile.FieldType.object "java/lang/Object")))).before args0 about1 = true := code_word (m := ⟨19, 1⟩) (meth := k19m1) (c := k19c1) (by decide +kernel) rfl rfl rfl (by decide +kernel)
set_option maxRecDepth 65536 in
theorem w_c16 : (Jvm.Cond.code ({ cls := "java/lang/Math", name := "max", desc := "(II)I" } : Jvm.MethodName) jdk_29_method_65_code (2 : Nat) (Option.some Jvm.ClassFile.FieldType.int)).before args0 about1 = true := code_word (m := ⟨20, 1⟩) (meth := k20m1) (c := k20c1) (by decide +kernel) rfl rfl rfl (by decide +kernel)
set_option maxRecDepth 65536 in
theorem w_c17 : (Jvm.Cond.code ({ cls := "com/example/scopa/scopa/schema/Table", name := "<init>", desc := "(Ljava/lang/String;Ljava/lang/String;Ljava/util/List;Ljava/util/List;)V" } : Jvm.MethodName) prog_14_method_1_code (5 : Nat) (Option.none : Option Jvm.ClassFile.FieldType)).before args0 about1 = true := code_word (m := ⟨21, 0⟩) (meth := k21m0) (c := k21c0) (by decide +kernel) rfl rfl rfl (by decide +kernel)
set_option maxRecDepth 65536 in
theorem w_c18 : (Jvm.Cond.code ({ cls := "java/util/List", name := "copyOf", desc := "(Ljava/util/Collection;)Ljava/util/List;" } : Jvm.MethodName) jdk_40_method_48_code (1 : Nat) (Option.some (Jvm.ClassFile.FieldType.object "java/util/List"))).before args0 about1 = true := code_word (m := ⟨15, 3⟩) (meth := k15m3) (c := k15c3) (by decide +kernel) rfl rfl rfl (by decide +kernel)
set_option maxRecDepth 65536 in
theorem w_c19 : (Jvm.Cond.code ({ cls := "java/util/ImmutableCollections", name := "listCopy", desc := "(Ljava/util/Collection;)Ljava/util/List;" } : Jvm.MethodName) jdk_56_method_3_code (2 : Nat) (Option.some (Jvm.ClassFile.FieldType.object "java/util/List"))).before args0 about1 = true := code_word (m := ⟨22, 1⟩) (meth := k22m1) (c := k22c1) (by decide +kernel) rfl rfl rfl (by decide +kernel)
set_option maxRecDepth 65536 in
theorem w_c20 : (Jvm.Cond.code ({ cls := "java/util/ArrayList", name := "isEmpty", desc := "()Z" } : Jvm.MethodName) jdk_38_method_9_code (1 : Nat) (Option.some Jvm.ClassFile.FieldType.boolean)).before args0 about1 = true := code_word (m := ⟨19, 3⟩) (meth := k19m3) (c := k19c3) (by decide +kernel) rfl rfl rfl (by decide +kernel)
set_option maxRecDepth 65536 in
theorem w_c21 : (Jvm.Cond.code ({ cls := "java/util/ArrayList", name := "toArray", desc := "()[Ljava/lang/Object;" } : Jvm.MethodName) jdk_38_method_16_code (1 : Nat) (Option.some (Jvm.ClassFile.FieldType.array (Jvm.ClassFile.FieldType.object "java/lang/Object")))).before args0 about1 = true := code_word (m := ⟨19, 4⟩) (meth := k19m4) (c := k19c4) (by decide +kernel) rfl rfl rfl (by decide +kernel)
set_option maxRecDepth 65536 in
theorem w_c22 : (Jvm.Cond.code ({ cls := "java/util/Arrays", name := "copyOf", desc := "([Ljava/lang/Object;I)[Ljava/lang/Object;" } : Jvm.MethodName) jdk_65_method_119_code (2 : Nat) (Option.some (Jvm.ClassFile.FieldType.array (Jvm.ClassFile.FieldType.object "java/lang/Object")))).before args0 about1 = true := code_word (m := ⟨27, 1⟩) (meth := k27m1) (c := k27c1) (by decide +kernel) rfl rfl rfl (by decide +kernel)
set_option maxRecDepth 65536 in
theorem w_c23 : (Jvm.Cond.code ({ cls := "java/util/Arrays", name := "copyOf", desc := "([Ljava/lang/Object;ILjava/lang/Class;)[Ljava/lang/Object;" } : Jvm.MethodName) jdk_65_method_120_code (4 : Nat) (Option.some (Jvm.ClassFile.FieldType.array (Jvm.ClassFile.FieldType.object "java/lang/Object")))).before args0 about1 = true := code_word (m := ⟨27, 2⟩) (meth := k27m2) (c := k27c2) (by decide +kernel) rfl rfl rfl (by decide +kernel)
set_option maxRecDepth 65536 in
theorem w_c24 : (Jvm.Cond.code ({ cls := "java/lang/Math", name := "min", desc := "(II)I" } : Jvm.MethodName) jdk_29_method_69_code (2 : Nat) (Option.some Jvm.ClassFile.FieldType.int)).before args0 about1 = true := code_word (m := ⟨20, 2⟩) (meth := k20m2) (c := k20c2) (by decide +kernel) rfl rfl rfl (by decide +kernel)
set_option maxRecDepth 65536 in
theorem w_c25 : (Jvm.Cond.code ({ cls := "java/util/List", name := "of", desc := "([Ljava/lang/Object;)Ljava/util/List;" } : Jvm.MethodName) jdk_40_method_47_code (2 : Nat) (Option.some (Jvm.ClassFile.FieldType.object "java/util/List"))).before args0 about1 = true := code_word (m := ⟨15, 2⟩) (meth := k15m2) (c := k15c2) (by decide +kernel) rfl rfl rfl (by decide +kernel)
set_option maxRecDepth 65536 in
theorem w_c26 : (Jvm.Cond.code ({ cls := "java/util/ImmutableCollections", name := "listFromArray", desc := "([Ljava/lang/Object;)Ljava/util/List;" } : Jvm.MethodName) jdk_56_method_4_code (3 : Nat) (Option.some (Jvm.ClassFile.FieldType.object "java/util/List"))).before args0 about1 = true := code_word (m := ⟨22, 2⟩) (meth := k22m2) (c := k22c2) (by decide +kernel) rfl rfl rfl (by decide +kernel)
set_option maxRecDepth 65536 in
theorem w_c27 : (Jvm.Cond.code ({ cls := "java/util/Objects", name := "requireNonNull", desc := "(Ljava/lang/Object;)Ljava/lang/Object;" } : Jvm.MethodName) jdk_31_method_10_code (1 : Nat) (Option.some (Jvm.ClassFile.FieldType.object "java/lang/Object"))).before args0 about1 = true := code_word (m := ⟨29, 1⟩) (meth := k29m1) (c := k29c1) (by decide +kernel) rfl rfl rfl (by decide +kernel)
set_option maxRecDepth 65536 in
theorem w_c28 : (Jvm.Cond.code ({ cls := "java/util/ImmutableCollections$ListN", name := "<init>", desc := "([Ljava/lang/Object;Z)V" } : Jvm.MethodName) jdk_45_method_1_code (3 : Nat) (Option.none : Option Jvm.ClassFile.FieldType)).before args0 about1 = true := code_word (m := ⟨26, 0⟩) (meth := k26m0) (c := k26c0) (by decide +kernel) rfl rfl rfl (by decide +kernel)
set_option maxRecDepth 65536 in
theorem w_c29 : (Jvm.Cond.code ({ cls := "java/util/ImmutableCollections$AbstractImmutableList", name := "<init>", desc := "()V" } : Jvm.MethodName) jdk_46_method_1_code (1 : Nat) (Option.none : Option Jvm.ClassFile.FieldType)).before args0 about1 = true := code_word (m := ⟨24, 0⟩) (meth := k24m0) (c := k24c0) (by decide +kernel) rfl rfl rfl (by decide +kernel)
set_option maxRecDepth 65536 in
theorem w_c30 : (Jvm.Cond.code ({ cls := "java/util/ImmutableCollections$AbstractImmutableCollection", name := "<init>", desc := "()V" } : Jvm.MethodName) jdk_47_method_1_code (1 : Nat) (Option.none : Option Jvm.ClassFile.FieldType)).before args0 about1 = true := code_word (m := ⟨23, 0⟩) (meth := k23m0) (c := k23c0) (by decide +kernel) rfl rfl rfl (by decide +kernel)
set_option maxRecDepth 65536 in
theorem w_c31 : (Jvm.Cond.code ({ cls := "java/util/List", name := "of", desc := "()Ljava/util/List;" } : Jvm.MethodName) jdk_40_method_36_code (0 : Nat) (Option.some (Jvm.ClassFile.FieldType.object "java/util/List"))).before args0 about1 = true := code_word (m := ⟨15, 1⟩) (meth := k15m1) (c := k15c1) (by decide +kernel) rfl rfl rfl (by decide +kernel)
set_option maxRecDepth 65536 in
theorem w_c32 : (Jvm.Cond.code ({ cls := "com/example/scopa/scopa/schema/Table", name := "hasPrimaryKey", desc := "()Z" } : Jvm.MethodName) prog_14_method_5_code (1 : Nat) (Option.some Jvm.ClassFile.FieldType.boolean)).before args0 about1 = true := code_word (m := ⟨21, 1⟩) (meth := k21m1) (c := k21c1) (by decide +kernel) rfl rfl rfl (by decide +kernel)
set_option maxRecDepth 65536 in
theorem w_c33 : (Jvm.Cond.code ({ cls := "java/util/ImmutableCollections$ListN", name := "isEmpty", desc := "()Z" } : Jvm.MethodName) jdk_45_method_2_code (1 : Nat) (Option.some Jvm.ClassFile.FieldType.boolean)).before args0 about1 = true := code_word (m := ⟨26, 1⟩) (meth := k26m1) (c := k26c1) (by decide +kernel) rfl rfl rfl (by decide +kernel)
set_option maxRecDepth 65536 in
theorem w_c34 : (Jvm.Cond.code ({ cls := "java/util/ImmutableCollections$List12", name := "<init>", desc := "(Ljava/lang/Object;Ljava/lang/Object;)V" } : Jvm.MethodName) jdk_44_method_2_code (3 : Nat) (Option.none : Option Jvm.ClassFile.FieldType)).before args0 about1 = true := code_word (m := ⟨25, 1⟩) (meth := k25m1) (c := k25c1) (by decide +kernel) rfl rfl rfl (by decide +kernel)
set_option maxRecDepth 65536 in
theorem w_c35 : (Jvm.Cond.code ({ cls := "java/util/ImmutableCollections$List12", name := "isEmpty", desc := "()Z" } : Jvm.MethodName) jdk_44_method_4_code (1 : Nat) (Option.some Jvm.ClassFile.FieldType.boolean)).before args0 about1 = true := code_word (m := ⟨25, 2⟩) (meth := k25m2) (c := k25c2) (by decide +kernel) rfl rfl rfl (by decide +kernel)
set_option maxRecDepth 65536 in
theorem w_c36 : (Jvm.Cond.code ({ cls := "java/util/ImmutableCollections$List12", name := "<init>", desc := "(Ljava/lang/Object;)V" } : Jvm.MethodName) jdk_44_method_1_code (2 : Nat) (Option.none : Option Jvm.ClassFile.FieldType)).before args0 about1 = true := code_word (m := ⟨25, 0⟩) (meth := k25m0) (c := k25c0) (by decide +kernel) rfl rfl rfl (by decide +kernel)
def codes1 : List Jvm.Cond := [Jvm.Cond.code x code maxLocals ret, Jvm.Cond.code ({ cls := "java/lang/String", name := "valueOf", desc := "(C)Ljava/lang/String;" } : Jvm.MethodName) jdk_42_method_139_code (1 : Nat) (Option.some (Jvm.ClassFile.FieldType.object "java/lang/String")), Jvm.Cond.code ({ cls := "java/lang/StringLatin1", name := "canEncode", desc := "(C)Z" } : Jvm.MethodName) jdk_43_method_3_code (1 : Nat) (Option.some Jvm.ClassFile.FieldType.boolean), Jvm.Cond.code ({ cls := "java/lang/StringLatin1", name := "toBytes", desc := "(C)[B" } : Jvm.MethodName) jdk_43_method_46_code (1 : Nat) (Option.some (Jvm.ClassFile.FieldType.array Jvm.ClassFile.FieldType.byte)), Jvm.Cond.code ({ cls := "java/lang/String", name := "<init>", desc := "([BB)V" } : Jvm.MethodName) jdk_42_method_151_code (3 : Nat) (Option.none : Option Jvm.ClassFile.FieldType), Jvm.Cond.code ({ cls := "java/lang/Object", name := "<init>", desc := "()V" } : Jvm.MethodName) object_method_1_code (1 : Nat) (Option.none : Option Jvm.ClassFile.FieldType), Jvm.Cond.code ({ cls := "com/example/scopa/scopa/schema/Column", name := "<init>", desc := "(Ljava/lang/String;Ljava/lang/String;Ljava/lang/String;)V" } : Jvm.MethodName) prog_9_method_1_code (4 : Nat) (Option.none : Option Jvm.ClassFile.FieldType), Jvm.Cond.code ({ cls := "java/lang/Record", name := "<init>", desc := "()V" } : Jvm.MethodName) jdk_30_method_1_code (1 : Nat) (Option.none : Option Jvm.ClassFile.FieldType), Jvm.Cond.code ({ cls := "com/example/scopa/scopa/schema/TableHasPrimaryKeyPinLaw", name := "listOf", desc := "(Lcom/example/scopa/scopa/schema/Column;Lcom/example/scopa/scopa/schema/Column;I)Ljava/util/ArrayList;" } : Jvm.MethodName) method_3_code (4 : Nat) (Option.some (Jvm.ClassFile.FieldType.object "java/util/ArrayList")), Jvm.Cond.code ({ cls := "java/util/ArrayList", name := "<init>", desc := "()V" } : Jvm.MethodName) jdk_38_method_2_code (1 : Nat) (Option.none : Option Jvm.ClassFile.FieldType), Jvm.Cond.code ({ cls := "java/util/AbstractList", name := "<init>", desc := "()V" } : Jvm.MethodName) jdk_39_method_1_code (1 : Nat) (Option.none : Option Jvm.ClassFile.FieldType), Jvm.Cond.code ({ cls := "java/util/AbstractCollection", name := "<init>", desc := "()V" } : Jvm.MethodName) jdk_22_method_1_code (1 : Nat) (Option.none : Option Jvm.ClassFile.FieldType), Jvm.Cond.code ({ cls := "java/util/ArrayList", name := "add", desc := "(Ljava/lang/Object;)Z" } : Jvm.MethodName) jdk_38_method_25_code (2 : Nat) (Option.some Jvm.ClassFile.FieldType.boolean), Jvm.Cond.code ({ cls := "java/util/ArrayList", name := "add", desc := "(Ljava/lang/Object;[Ljava/lang/Object;I)V" } : Jvm.MethodName) jdk_38_method_24_code (4 : Nat) (Option.none : Option Jvm.ClassFile.FieldType), Jvm.Cond.code ({ cls := "java/util/ArrayList", name := "grow", desc := "()[Ljava/lang/Object;" } : Jvm.MethodName) jdk_38_method_7_code (1 : Nat) (Option.some (Jvm.ClassFile.FieldType.array (Jvm.ClassFile.FieldType.object "java/lang/Object"))), Jvm.Cond.code ({ cls := "java/util/ArrayList", name := "grow", desc := "(I)[Ljava/lang/Object;" } : Jvm.MethodName) jdk_38_method_6_code (4 : Nat) (Option.some (Jvm.ClassFile.FieldType.array (Jvm.ClassFile.FieldType.object "java/lang/Object"))), Jvm.Cond.code ({ cls := "java/lang/Math", name := "max", desc := "(II)I" } : Jvm.MethodName) jdk_29_method_65_code (2 : Nat) (Option.some Jvm.ClassFile.FieldType.int), Jvm.Cond.code ({ cls := "com/example/scopa/scopa/schema/Table", name := "<init>", desc := "(Ljava/lang/String;Ljava/lang/String;Ljava/util/List;Ljava/util/List;)V" } : Jvm.MethodName) prog_14_method_1_code (5 : Nat) (Option.none : Option Jvm.ClassFile.FieldType), Jvm.Cond.code ({ cls := "java/util/List", name := "copyOf", desc := "(Ljava/util/Collection;)Ljava/util/List;" } : Jvm.MethodName) jdk_40_method_48_code (1 : Nat) (Option.some (Jvm.ClassFile.FieldType.object "java/util/List")), Jvm.Cond.code ({ cls := "java/util/ImmutableCollections", name := "listCopy", desc := "(Ljava/util/Collection;)Ljava/util/List;" } : Jvm.MethodName) jdk_56_method_3_code (2 : Nat) (Option.some (Jvm.ClassFile.FieldType.object "java/util/List")), Jvm.Cond.code ({ cls := "java/util/ArrayList", name := "isEmpty", desc := "()Z" } : Jvm.MethodName) jdk_38_method_9_code (1 : Nat) (Option.some Jvm.ClassFile.FieldType.boolean), Jvm.Cond.code ({ cls := "java/util/ArrayList", name := "toArray", desc := "()[Ljava/lang/Object;" } : Jvm.MethodName) jdk_38_method_16_code (1 : Nat) (Option.some (Jvm.ClassFile.FieldType.array (Jvm.ClassFile.FieldType.object "java/lang/Object"))), Jvm.Cond.code ({ cls := "java/util/Arrays", name := "copyOf", desc := "([Ljava/lang/Object;I)[Ljava/lang/Object;" } : Jvm.MethodName) jdk_65_method_119_code (2 : Nat) (Option.some (Jvm.ClassFile.FieldType.array (Jvm.ClassFile.FieldType.object "java/lang/Object"))), Jvm.Cond.code ({ cls := "java/util/Arrays", name := "copyOf", desc := "([Ljava/lang/Object;ILjava/lang/Class;)[Ljava/lang/Object;" } : Jvm.MethodName) jdk_65_method_120_code (4 : Nat) (Option.some (Jvm.ClassFile.FieldType.array (Jvm.ClassFile.FieldType.object "java/lang/Object"))), Jvm.Cond.code ({ cls := "java/lang/Math", name := "min", desc := "(II)I" } : Jvm.MethodName) jdk_29_method_69_code (2 : Nat) (Option.some Jvm.ClassFile.FieldType.int), Jvm.Cond.code ({ cls := "java/util/List", name := "of", desc := "([Ljava/lang/Object;)Ljava/util/List;" } : Jvm.MethodName) jdk_40_method_47_code (2 : Nat) (Option.some (Jvm.ClassFile.FieldType.object "java/util/List")), Jvm.Cond.code ({ cls := "java/util/ImmutableCollections", name := "listFromArray", desc := "([Ljava/lang/Object;)Ljava/util/List;" } : Jvm.MethodName) jdk_56_method_4_code (3 : Nat) (Option.some (Jvm.ClassFile.FieldType.object "java/util/List")), Jvm.Cond.code ({ cls := "java/util/Objects", name := "requireNonNull", desc := "(Ljava/lang/Object;)Ljava/lang/Object;" } : Jvm.MethodName) jdk_31_method_10_code (1 : Nat) (Option.some (Jvm.ClassFile.FieldType.object "java/lang/Object")), Jvm.Cond.code ({ cls := "java/util/ImmutableCollections$ListN", name := "<init>", desc := "([Ljava/lang/Object;Z)V" } : Jvm.MethodName) jdk_45_method_1_code (3 : Nat) (Option.none : Option Jvm.ClassFile.FieldType), Jvm.Cond.code ({ cls := "java/util/ImmutableCollections$AbstractImmutableList", name := "<init>", desc := "()V" } : Jvm.MethodName) jdk_46_method_1_code (1 : Nat) (Option.none : Option Jvm.ClassFile.FieldType), Jvm.Cond.code ({ cls := "java/util/ImmutableCollections$AbstractImmutableCollection", name := "<init>", desc := "()V" } : Jvm.MethodName) jdk_47_method_1_code (1 : Nat) (Option.none : Option Jvm.ClassFile.FieldType), Jvm.Cond.code ({ cls := "java/util/List", name := "of", desc := "()Ljava/util/List;" } : Jvm.MethodName) jdk_40_method_36_code (0 : Nat) (Option.some (Jvm.ClassFile.FieldType.object "java/util/List")), Jvm.Cond.code ({ cls := "com/example/scopa/scopa/schema/Table", name := "hasPrimaryKey", desc := "()Z" } : Jvm.MethodName) prog_14_method_5_code (1 : Nat) (Option.some Jvm.ClassFile.FieldType.boolean), Jvm.Cond.code ({ cls := "java/util/ImmutableCollections$ListN", name := "isEmpty", desc := "()Z" } : Jvm.MethodName) jdk_45_method_2_code (1 : Nat) (Option.some Jvm.ClassFile.FieldType.boolean), Jvm.Cond.code ({ cls := "java/util/ImmutableCollections$List12", name := "<init>", desc := "(Ljava/lang/Object;Ljava/lang/Object;)V" } : Jvm.MethodName) jdk_44_method_2_code (3 : Nat) (Option.none : Option Jvm.ClassFile.FieldType), Jvm.Cond.code ({ cls := "java/util/ImmutableCollections$List12", name := "isEmpty", desc := "()Z" } : Jvm.MethodName) jdk_44_method_4_code (1 : Nat) (Option.some Jvm.ClassFile.FieldType.boolean), Jvm.Cond.code ({ cls := "java/util/ImmutableCollections$List12", name := "<init>", desc := "(Ljava/lang/Object;)V" } : Jvm.MethodName) jdk_44_method_1_code (2 : Nat) (Option.none : Option Jvm.ClassFile.FieldType)]
set_option maxRecDepth 65536 in
theorem codes_eq : words1.filter isCode = codes1 := rfl
theorem w_codes : ∀ c ∈ words1.filter isCode, c.before args0 about1 = true := by
  rw [codes_eq]
  intro c hc
  simp only [codes1, List.mem_cons, List.not_mem_nil, or_false] at hc
  rcases hc with rfl | rfl | rfl | rfl | rfl | rfl | rfl | rfl | rfl | rfl | rfl | rfl | rfl | rfl | rfl | rfl | rfl | rfl | rfl | rfl | rfl | rfl | rfl | rfl | rfl | rfl | rfl | rfl | rfl | rfl | rfl | rfl | rfl | rfl | rfl | rfl | rfl
  · exact w_c0
  · exact w_c1
  · exact w_c2
  · exact w_c3
  · exact w_c4
  · exact w_c5
  · exact w_c6
  · exact w_c7
  · exact w_c8
  · exact w_c9
  · exact w_c10
  · exact w_c11
  · exact w_c12
  · exact w_c13
  · exact w_c14
  · exact w_c15
  · exact w_c16
  · exact w_c17
  · exact w_c18
  · exact w_c19
  · exact w_c20
  · exact w_c21
  · exact w_c22
  · exact w_c23
  · exact w_c24
  · exact w_c25
  · exact w_c26
  · exact w_c27
  · exact w_c28
  · exact w_c29
  · exact w_c30
  · exact w_c31
  · exact w_c32
  · exact w_c33
  · exact w_c34
  · exact w_c35
  · exact w_c36
set_option maxRecDepth 65536 in
theorem w_t1 : (words1.take 24).all (fun c => isCode c || c.before args0 about1) = true := by decide +kernel
set_option maxRecDepth 65536 in
theorem w_t2 : ((words1.drop 24).take 24).all (fun c => isCode c || c.before args0 about1) = true := by decide +kernel
set_option maxRecDepth 65536 in
theorem w_t3 : (((words1.drop 24).drop 24).take 24).all (fun c => isCode c || c.before args0 about1) = true := by decide +kernel
set_option maxRecDepth 65536 in
theorem w_t4 : ((((words1.drop 24).drop 24).drop 24).take 24).all (fun c => isCode c || c.before args0 about1) = true := by decide +kernel
set_option maxRecDepth 65536 in
theorem w_t5 : (((((words1.drop 24).drop 24).drop 24).drop 24).take 24).all (fun c => isCode c || c.before args0 about1) = true := by decide +kernel
set_option maxRecDepth 65536 in
theorem w_t6 : ((((((words1.drop 24).drop 24).drop 24).drop 24).drop 24).take 24).all (fun c => isCode c || c.before args0 about1) = true := by decide +kernel
set_option maxRecDepth 65536 in
theorem w_t7 : (((((((words1.drop 24).drop 24).drop 24).drop 24).drop 24).drop 24).take 24).all (fun c => isCode c || c.before args0 about1) = true := by decide +kernel
set_option maxRecDepth 65536 in
theorem w_t8 : ((((((((words1.drop 24).drop 24).drop 24).drop 24).drop 24).drop 24).drop 24).take 24).all (fun c => isCode c || c.before args0 about1) = true := by decide +kernel
set_option maxRecDepth 65536 in
theorem w_t9 : (((((((((words1.drop 24).drop 24).drop 24).drop 24).drop 24).drop 24).drop 24).drop 24).take 24).all (fun c => isCode c || c.before args0 about1) = true := by decide +kernel
set_option maxRecDepth 65536 in
theorem w_t10 : ((((((((((words1.drop 24).drop 24).drop 24).drop 24).drop 24).drop 24).drop 24).drop 24).drop 24).take 24).all (fun c => isCode c || c.before args0 about1) = true := by decide +kernel
set_option maxRecDepth 65536 in
theorem w_t11 : ((((((((((words1.drop 24).drop 24).drop 24).drop 24).drop 24).drop 24).drop 24).drop 24).drop 24).drop 24).all (fun c => isCode c || c.before args0 about1) = true := by decide +kernel
theorem w_tables : (allAtoms (Jvm.Cond.code x code maxLocals ret :: tables_1)).before args0 about1 = true := by
  rw [allAtoms_all]
  show words1.all (fun c => c.before args0 about1) = true
  refine all_split ?_ w_codes
  rw [← List.take_append_drop 24 words1, List.all_append, w_t1, ← List.take_append_drop 24 (words1.drop 24), List.all_append, w_t2, ← List.take_append_drop 24 ((words1.drop 24).drop 24), List.all_append, w_t3, ← List.take_append_drop 24 (((words1.drop 24).drop 24).drop 24), List.all_append, w_t4, ← List.take_append_drop 24 ((((words1.drop 24).drop 24).drop 24).drop 24), List.all_append, w_t5, ← List.take_append_drop 24 (((((words1.drop 24).drop 24).drop 24).drop 24).drop 24), List.all_append, w_t6, ← List.take_append_drop 24 ((((((words1.drop 24).drop 24).drop 24).drop 24).drop 24).drop 24), List.all_append, w_t7, ← List.take_append_drop 24 (((((((words1.drop 24).drop 24).drop 24).drop 24).drop 24).drop 24).drop 24), List.all_append, w_t8, ← List.take_append_drop 24 ((((((((words1.drop 24).drop 24).drop 24).drop 24).drop 24).drop 24).drop 24).drop 24), List.all_append, w_t9, ← List.take_append_drop 24 (((((((((words1.drop 24).drop 24).drop 24).drop 24).drop 24).drop 24).drop 24).drop 24).drop 24), List.all_append, w_t10, w_t11]
  rfl
set_option maxRecDepth 65536 in
theorem w_rest : rest_1_c.before args0 about1 = true := by decide +kernel
set_option maxRecDepth 65536 in
theorem w_case : (Jvm.Cond.and given_1 narrow_1).before args0 about1 = true := by decide +kernel
theorem w_applies : (headSpec (Jvm.Cond.code x code maxLocals ret :: tables_1) room_1).applies x e0.platform about1 = true :=
  (Spec.applies_iff w_frames).mpr ⟨w_running, w_runnable, w_alone, w_named, w_hears, w_ripe, w_room, w_tables⟩
theorem atStart : AtStart classFile x code maxLocals ret World_1 tables_1 room_1 Calls_1 rest_1 Pre_1 launch0 p0 e0 about1 theMethod args0 below0 :=
  ⟨lists_1, trivial, launch0.admits_env _ _ _, launch0.least_env, fairChoices_fair.cas, fairChoices_fair.clock, w_frames, w_args, w_heap, w_applies, ⟨⟨37, k37, 4, by decide +kernel, rfl, rfl, _, rfl, rfl⟩, trivial⟩, w_rest, w_case⟩
end start1
theorem witness_1 : WitnessClaimed_1 := ⟨start1.p0, start1.e0, start1.about1, start1.theMethod, start1.args0, start1.below0, start1.atStart⟩
end Jvm.Pilot.@@N@@
