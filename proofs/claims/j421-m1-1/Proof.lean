import JvmDerived
import JvmDerived.Pilot.@@N@@Statement
import JvmDerived.Pilot.@@N@@Code
set_option linter.unusedVariables false
set_option linter.unusedSimpArgs false
namespace Jvm.Pilot.@@N@@
open Jvm Jvm.ClassFile Sem Op Lib Jvm.Free Jvm.Stand Jvm.LawKit Jvm.RoadKit Bundle Jvm.Pilot.@@N@@.Jvm.D
theorem hwi {Z : State} {a0 : Array Value} (hw : ∀ d ∈ tables_1, d.before a0 Z = true) (i : Nat) {d : Jvm.Cond} (h : tables_1[i]? = some d) : d.before a0 Z = true := hw _ (List.mem_of_getElem? h)
section Own
variable {p : Program} {l : Launch} {e : Env} {R : Room} {s : State} {m : MethodId} {args : Array Value} {below : List Frame} {meth : Method} {c : Code} {T : State} {locs : List Loc} {cells slots : Nat} {Z : State} {a0 : Array Value} {h h' : Heap} {Q : Option Value → Heap → List Loc → Prop} {rc rs : Nat} {P : State → Outcome → Prop}
/-- from here the run comes to its end, and what it leaves is P -/
def Ends (p : Program) (e : Env) (below : List Frame) (P : State → Outcome → Prop) (T : State) (g : JFrame) : Prop :=
  ∃ s₂ o, Steps p.tables e below (T.setTop g) s₂ ∧ s₂.status = .running ∧ Ended s₂ below o ∧ P s₂ o
/-- the narrow end -/
def NP (s : State) (Q : Option Value → Heap → List Loc → Prop) (rc rs : Nat) : State → Outcome → Prop := fun s₂ o => ∃ v L, o = .returned v ∧ Q v s₂.heap L ∧ FrameEnd s o s₂ L rc rs
theorem go {T' : State} {g g' : JFrame} (f : ∀ t, Steps p.tables e below (T'.setTop g') t → Steps p.tables e below (T.setTop g) t) (k : Ends p e below P T' g') : Ends p e below P T g := by
  obtain ⟨s₂, o, h1, r⟩ := k
  exact ⟨s₂, o, f _ h1, r⟩
theorem goS {T' : State} {g g' : JFrame} (f : Steps p.tables e below (T.setTop g) (T'.setTop g')) (k : Ends p e below P T' g') : Ends p e below P T g := by
  obtain ⟨s₂, o, h1, r⟩ := k
  exact ⟨s₂, o, f.trans h1, r⟩
/-- the frame is left with v, and what stands then is P -/
def Lv (e : Env) (m : MethodId) (below : List Frame) (T : State) (v : Option Value) (P : State → Outcome → Prop) : Prop :=
  ∃ fs, (∀ (f : JFrame) (acts : List Action), f.method = m → f.locked = none → f.entered = [] → (doReturn e (T.setTop f) acts v).1 = T.setFrames fs) ∧ (T.setFrames fs).status = .running ∧ Ended (T.setFrames fs) below (.returned v) ∧ P (T.setFrames fs) (.returned v)
theorem lvN (X : Stand p l e R s m args below meth c T locs cells slots) (hlk : meth.locks = false) (eT : T.heap = h) {v : Option Value} (hv : meth.sig.returnType = none → v = none) (hq : Q v h locs) (hc : cells ≤ rc) (hs : slots ≤ rs) : Lv e m below T v (NP s Q rc rs) := by
  subst eT
  obtain ⟨fs, hr, hrun, hended, hW, hsame⟩ := X.leave (v := v) hv hlk
  exact ⟨fs, hr, hrun, hended, _, _, rfl, hq, ⟨_, rfl⟩, hW, hsame.mono hc hs⟩
theorem retI (X : Stand p l e R s m args below meth c T locs cells slots) (hx : p.tables.exec = Jvm.exec) {pc : Nat} {Ls : Array Slot} {z : Int32} {rest : List Value} (hret : meth.sig.returnType = some .int) (hd : decode c.code pc = .ok (.ireturn, 1)) {fs : List Frame}
    (hl : ∀ (f : JFrame) (acts : List Action), f.method = m → f.locked = none → f.entered = [] → (doReturn e (T.setTop f) acts (some (.int z))).1 = T.setFrames fs) : Steps p.tables e below (T.setTop (mkF m pc Ls (.int z :: rest))) (T.setFrames fs) := by
  have hm' : T.vm.method? m = some meth := X.method'
  have hn : narrow .int (.int z) = .int z := rfl
  show Steps p.tables e below (T.setTop { method := m, pc := pc, locals := Ls, stack := _ :: rest, locked := none }) _
  jvm_step X.here [X.here.top, hx, hd, hm', hret, hn]
  first | (intro acts; rw [hl _ acts rfl rfl rfl]) | rw [hl _ _ rfl rfl rfl]
  exact Steps.refl _
theorem endI (X : Stand p l e R s m args below meth c T locs cells slots) (hx : p.tables.exec = Jvm.exec) {pc : Nat} {Ls : Array Slot} {z : Int32} {rest : List Value} (hret : meth.sig.returnType = some .int) (hd : decode c.code pc = .ok (.ireturn, 1)) (hL : Lv e m below T (some (.int z)) P) :
    Ends p e below P T (mkF m pc Ls (.int z :: rest)) := by
  obtain ⟨fs, hr, hrun, hended, hp⟩ := hL
  exact ⟨_, _, retI X hx hret hd hr, hrun, hended, hp⟩
/-- a boolean, byte, char or short: what is returned is narrowed -/
theorem endN (X : Stand p l e R s m args below meth c T locs cells slots) (hx : p.tables.exec = Jvm.exec) {pc : Nat} {Ls : Array Slot} {z : Int32} {t : FieldType} {rest : List Value} (hret : meth.sig.returnType = some t) (ht : t = .boolean ∨ t = .byte ∨ t = .char ∨ t = .short) (hd : decode c.code pc = .ok (.ireturn, 1)) (hL : Lv e m below T (some (.int (nar t z))) P) :
    Ends p e below P T (mkF m pc Ls (.int z :: rest)) := by
  obtain ⟨fs, hr, hrun, hended, hp⟩ := hL
  exact ⟨_, _, retN X hx hret ht hd hr, hrun, hended, hp⟩
theorem endA (X : Stand p l e R s m args below meth c T locs cells slots) (hx : p.tables.exec = Jvm.exec) {pc : Nat} {Ls : Array Slot} {w : Value} {t : FieldType} {rest : List Value} (hret : meth.sig.returnType = some t) (ht : t.isReference = true) (hw : w.isRef = true) (hd : decode c.code pc = .ok (.areturn, 1)) (hL : Lv e m below T (some w) P) :
    Ends p e below P T (mkF m pc Ls (w :: rest)) := by
  obtain ⟨fs, hr, hrun, hended, hp⟩ := hL
  have hn : narrow t w = w := by rcases ref_cases hw with rfl | ⟨b, rfl⟩ <;> cases t <;> rfl
  exact ⟨_, _, retOut X hx hret hn (Or.inr (Or.inr (Or.inr (Or.inr ⟨rfl, ht, hw⟩)))) hd hr, hrun, hended, hp⟩
theorem endJ (X : Stand p l e R s m args below meth c T locs cells slots) (hx : p.tables.exec = Jvm.exec) {pc : Nat} {Ls : Array Slot} {z : Int64} {rest : List Value} (hret : meth.sig.returnType = some .long) (hd : decode c.code pc = .ok (.lreturn, 1)) (hL : Lv e m below T (some (.long z)) P) :
    Ends p e below P T (mkF m pc Ls (.long z :: rest)) := by
  obtain ⟨fs, hr, hrun, hended, hp⟩ := hL
  exact ⟨_, _, retOut X hx hret rfl (Or.inr (Or.inl ⟨rfl, rfl, z, rfl⟩)) hd hr, hrun, hended, hp⟩
theorem endV (X : Stand p l e R s m args below meth c T locs cells slots) (hx : p.tables.exec = Jvm.exec) {pc : Nat} {Ls : Array Slot} (hret : meth.sig.returnType = none) (hd : decode c.code pc = .ok (.return_, 1)) (hL : Lv e m below T none P) :
    Ends p e below P T (mkF m pc Ls []) := by
  obtain ⟨fs, hr, hrun, hended, hp⟩ := hL
  exact ⟨_, _, X.returnOut hx hret hd hr, hrun, hended, hp⟩
/-- a method's contract, at one heap and one list of arguments -/
def Con (l : Launch) (y : MethodName) (bytes : ByteArray) (maxL : Nat) (ret : Option FieldType) (rm : Room) (Z : State) (as' : Array Value) (h0 : Heap) (Q : Option Value → Heap → List Loc → Prop) : Prop :=
  ∀ ws, MetFree l y (head1 (Jvm.Cond.code y bytes maxL ret :: ws) rm) (fun a U => a = as' ∧ Z.Warmed39 U.vm ∧ U.heap = h0) (fun _ _ _ _ _ => True) (fun _ U o U' => ∃ v L, o = .returned v ∧ Q v U'.heap L ∧ FrameEnd U o U' L rm.cells rm.slots)
theorem efOf {m : MethodId} {args : Array Value} {n : Nat} {Ls : Array Slot} (h : Jvm.Sym.laidSlots args.toList ++ List.replicate (n - (Jvm.Sym.laidSlots args.toList).length) .unset = Ls.toList) : entryFrame m args n = mkF m 0 Ls [] := by
  have q : argsToLocals args n = Ls := Array.toList_inj.mp (by rw [Jvm.Sym.argsToLocals_toList]; exact h)
  show mkF m 0 (argsToLocals args n) [] = _
  rw [q]
theorem Con.of {y : MethodName} {bytes : ByteArray} {maxL : Nat} {ret : Option FieldType} {rm : Room} {as' : Array Value} {h0 : Heap} (hp : plainFor y = true) {Ls : Array Slot} (hef : ∀ m, entryFrame m as' maxL = mkF m 0 Ls [])
    (body : ∀ {p : Program} {e : Env} {s : State} {m : MethodId} {below : List Frame} {meth : Method} {c : Code} {T : State}, Stand p l e rm s m as' below meth c T [] 0 0 → p.tables.exec = Jvm.exec → Z.Warmed39 s.vm → c.code = bytes → c.maxLocals = maxL → s.vm.findClass y.cls = some m.cls → meth.name = y.name → meth.sig.returnType = ret → meth.locks = false → T.heap = h0 → Ends p e below (NP s Q rm.cells rm.slots) T (mkF m 0 Ls [])) :
    Con l y bytes maxL ret rm Z as' h0 Q := by
  intro ws
  refine MetFree.of_bodySF hp hisR ?_
  intro p e s m args below meth c s₁ Bd hml0 hP hK
  obtain ⟨rfl, hZ, hh⟩ := hP
  have X0 : Stand p l e rm s m _ below meth c s₁ [] 0 0 := Stand.of_body Bd
  have e0 : s₁.heap = h0 := by rw [← hh, Bd.state]; rfl
  obtain ⟨s₂, o, h1, r⟩ := body X0 Bd.exec hZ Bd.bytes hml0 (findClass_of_methodNamed Bd.named) (name_of_methodNamed Bd.named Bd.method).1 Bd.returns Bd.notSynchronized e0
  exact ⟨s₂, o, castTop (hef m) h1, r⟩
theorem cStat {own : String} {index : Nat} {y : MethodName} {bytes : ByteArray} {maxL : Nat} {ret : Option FieldType} {rm : Room} {Q' : Option Value → Heap → List Loc → Prop} {pc : Nat} {Ls : Array Slot} {st : List Value}
    (X : Stand p l e R s m args below meth c T locs cells slots) (hx : p.tables.exec = Jvm.exec) (hZ : Z.Warmed39 s.vm) (hown : s.vm.findClass own = some m.cls) (hml : Ls.size = c.maxLocals) (eT : T.heap = h)
    (w1 : (Cond.methodLink own index y).before a0 Z = true) (w2 : (Cond.static y).before a0 Z = true) (w3 : (Cond.initialized y.cls).before a0 Z = true) (w4 : (Cond.code y bytes maxL ret).before a0 Z = true)
    (argsL rest : List Value) {as' : Array Value} (has : argsL.toArray = as') (hM : Con l y bytes maxL ret rm Z as' h Q') (hd : decode c.code pc = .ok (.invokestatic index, 3)) (hst : st = argsL.reverse ++ rest)
    (hlen : ∀ sig, parseMethodDescriptor y.desc = some sig → argsL.length = sig.parameters.length) (hy : y.cls ≠ "java/lang/invoke/MethodHandle" ∧ y.cls ≠ "java/lang/invoke/VarHandle")
    (hf : rm.frames + 1 ≤ R.frames) (hl : (rest.map fun v => v.category).sum + (maxL + 11) + rm.locals ≤ R.locals) (hc : cells + rm.cells ≤ R.cells) (hs : slots + rm.slots ≤ R.slots)
    (k : ∀ v T' h' L, Stand p l e R s m args below meth c T' (locs ++ L) (cells + rm.cells) (slots + rm.slots) → T'.heap = h' → Q' v h' L → Ends p e below P T' (mkF m (pc + 3) Ls (v.toList ++ rest))) :
    Ends p e below P T (mkF m pc Ls st) := by
  subst has
  obtain ⟨v, _, ⟨T', L', k', n'⟩, -, X', ⟨Lc, hQ, e1, e2, e3⟩, stp⟩ := Jvm.LawKit.callS X hx (y := y) hown (mvT hZ w1) (mvT hZ w2) (mvT hZ w3) (mvT hZ w4) hy (backOf (W := (rest.map fun v => v.category).sum) (hM []) hZ w4 w3 hf hl) (g := mkF m pc Ls st) rfl hml (argsL := argsL) (rest := rest) hlen hst (by show 2 * 0 + _ ≤ _; omega) hd (fun _ _ => ⟨rfl, eT, hc, hs⟩)
  dsimp only [Pt.U, Pt.locs, Pt.cells, Pt.slots] at X' e1 e2 e3 stp hQ
  subst e1 e2 e3
  exact go stp (k v T' _ Lc X' rfl hQ)
theorem cInit {own : String} {index : Nat} {y : MethodName} {bytes : ByteArray} {maxL : Nat} {rm : Room} {Q' : Option Value → Heap → List Loc → Prop} {pc : Nat} {Ls : Array Slot} {st : List Value}
    (X : Stand p l e R s m args below meth c T locs cells slots) (hx : p.tables.exec = Jvm.exec) (hZ : Z.Warmed39 s.vm) (hown : s.vm.findClass own = some m.cls) (hml : Ls.size = c.maxLocals) (eT : T.heap = h)
    (w1 : (Cond.methodLink own index y).before a0 Z = true) (w2 : (Cond.instanceMethod y).before a0 Z = true) (w3 : (Cond.initialized y.cls).before a0 Z = true) (w4 : (Cond.code y bytes maxL none).before a0 Z = true)
    (a : Addr) (argsL rest : List Value) {as' : Array Value} (has : (.ref a :: argsL).toArray = as') (hM : Con l y bytes maxL none rm Z as' h Q') (hd : decode c.code pc = .ok (.invokespecial index, 3)) (hst : st = argsL.reverse ++ .ref a :: rest)
    (hlen : ∀ sig, parseMethodDescriptor y.desc = some sig → argsL.length = sig.parameters.length) (hy1 : y.name = "<init>") (hy : y.cls ≠ "java/lang/invoke/MethodHandle" ∧ y.cls ≠ "java/lang/invoke/VarHandle")
    (hf : rm.frames + 1 ≤ R.frames) (hl : (rest.map fun v => v.category).sum + (maxL + 11) + rm.locals ≤ R.locals) (hc : cells + rm.cells ≤ R.cells) (hs : slots + rm.slots ≤ R.slots)
    (k : ∀ v T' h' L, Stand p l e R s m args below meth c T' (locs ++ L) (cells + rm.cells) (slots + rm.slots) → T'.heap = h' → Q' v h' L → Ends p e below P T' (mkF m (pc + 3) Ls (v.toList ++ rest))) :
    Ends p e below P T (mkF m pc Ls st) := by
  subst has
  obtain ⟨v, _, ⟨T', L', k', n'⟩, -, X', ⟨Lc, hQ, e1, e2, e3⟩, stp⟩ := X.specialBack hx (y := y) hy1 hown (mvT hZ w1) (mvT hZ w2) (mvT hZ w4) hy (backOf (W := (rest.map fun v => v.category).sum) (hM []) hZ w4 w3 hf hl) (g := mkF m pc Ls st) rfl hml (Steps.refl _) (a := a) (argsL := argsL) (rest := rest) hlen hst (by show 2 * 0 + _ ≤ _; omega) hd (fun _ _ => ⟨rfl, eT, hc, hs⟩)
  dsimp only [Pt.U, Pt.locs, Pt.cells, Pt.slots] at X' e1 e2 e3 stp hQ
  subst e1 e2 e3
  exact goS stp (k v T' _ Lc X' rfl hQ)
theorem own_mvN {own host : String} {index : Nat} {y : MethodName} (hZ : Z.Warmed39 s.vm) (w : (Cond.methodLinkNest own index y host).before a0 Z = true) : (Cond.methodLinkNest own index y host).before args s = true := (Cond.methodLinkNest_wide hZ w :)
theorem cInitN {own host : String} {index : Nat} {y : MethodName} {bytes : ByteArray} {maxL : Nat} {rm : Room} {Q' : Option Value → Heap → List Loc → Prop} {pc : Nat} {Ls : Array Slot} {st : List Value}
    (X : Stand p l e R s m args below meth c T locs cells slots) (hx : p.tables.exec = Jvm.exec) (hZ : Z.Warmed39 s.vm) (hown : s.vm.findClass own = some m.cls) (hml : Ls.size = c.maxLocals) (eT : T.heap = h)
    (w1 : (Cond.methodLinkNest own index y host).before a0 Z = true) (w2 : (Cond.instanceMethod y).before a0 Z = true) (w3 : (Cond.initialized y.cls).before a0 Z = true) (w4 : (Cond.code y bytes maxL none).before a0 Z = true)
    (a : Addr) (argsL rest : List Value) {as' : Array Value} (has : (.ref a :: argsL).toArray = as') (hM : Con l y bytes maxL none rm Z as' h Q') (hd : decode c.code pc = .ok (.invokespecial index, 3)) (hst : st = argsL.reverse ++ .ref a :: rest)
    (hlen : ∀ sig, parseMethodDescriptor y.desc = some sig → argsL.length = sig.parameters.length) (hy1 : y.name = "<init>") (hy : y.cls ≠ "java/lang/invoke/MethodHandle" ∧ y.cls ≠ "java/lang/invoke/VarHandle")
    (hf : rm.frames + 1 ≤ R.frames) (hl : (rest.map fun v => v.category).sum + (maxL + 11) + rm.locals ≤ R.locals) (hc : cells + rm.cells ≤ R.cells) (hs : slots + rm.slots ≤ R.slots)
    (k : ∀ v T' h' L, Stand p l e R s m args below meth c T' (locs ++ L) (cells + rm.cells) (slots + rm.slots) → T'.heap = h' → Q' v h' L → Ends p e below P T' (mkF m (pc + 3) Ls (v.toList ++ rest))) :
    Ends p e below P T (mkF m pc Ls st) := by
  subst has
  obtain ⟨v, _, ⟨T', L', k', n'⟩, -, X', ⟨Lc, hQ, e1, e2, e3⟩, stp⟩ := X.specialBackNest hx (y := y) hy1 hown (own_mvN hZ w1) (mvT hZ w2) (mvT hZ w4) hy (backOf (W := (rest.map fun v => v.category).sum) (hM []) hZ w4 w3 hf hl) (g := mkF m pc Ls st) rfl hml (Steps.refl _) (a := a) (argsL := argsL) (rest := rest) hlen hst (by show 2 * 0 + _ ≤ _; omega) hd (fun _ _ => ⟨rfl, eT, hc, hs⟩)
  dsimp only [Pt.U, Pt.locs, Pt.cells, Pt.slots] at X' e1 e2 e3 stp hQ
  subst e1 e2 e3
  exact goS stp (k v T' _ Lc X' rfl hQ)
theorem cVirt {own K : String} {index : Nat} {y z : MethodName} {bytes : ByteArray} {maxL : Nat} {ret : Option FieldType} {rm : Room} {Q' : Option Value → Heap → List Loc → Prop} {pc : Nat} {Ls : Array Slot} {st : List Value}
    (X : Stand p l e R s m args below meth c T locs cells slots) (hx : p.tables.exec = Jvm.exec) (hZ : Z.Warmed39 s.vm) (hown : s.vm.findClass own = some m.cls) (hml : Ls.size = c.maxLocals) (eT : T.heap = h)
    (w1 : (Cond.methodLink own index y).before a0 Z = true) (w2 : (Cond.declares y).before a0 Z = true) (w3 : (Cond.selects K y z).before a0 Z = true) (w4 : (Cond.instanceMethod z).before a0 Z = true) (w5 : (Cond.initialized z.cls).before a0 Z = true) (w6 : (Cond.code z bytes maxL ret).before a0 Z = true) (hnf : NotFace s y)
    (a : Addr) (E : Exa Z h a K) (argsL rest : List Value) {as' : Array Value} (has : (.ref a :: argsL).toArray = as') (hM : Con l z bytes maxL ret rm Z as' h Q') (hd : decode c.code pc = .ok (.invokevirtual index, 3)) (hst : st = argsL.reverse ++ .ref a :: rest)
    (hlen : ∀ sig, parseMethodDescriptor y.desc = some sig → argsL.length = sig.parameters.length) (hy : y.cls ≠ "java/lang/invoke/MethodHandle" ∧ y.cls ≠ "java/lang/invoke/VarHandle")
    (hf : rm.frames + 1 ≤ R.frames) (hl : (rest.map fun v => v.category).sum + (maxL + 11) + rm.locals ≤ R.locals) (hc : cells + rm.cells ≤ R.cells) (hs : slots + rm.slots ≤ R.slots)
    (k : ∀ v T' h' L, Stand p l e R s m args below meth c T' (locs ++ L) (cells + rm.cells) (slots + rm.slots) → T'.heap = h' → Q' v h' L → Ends p e below P T' (mkF m (pc + 3) Ls (v.toList ++ rest))) :
    Ends p e below P T (mkF m pc Ls st) := by
  subst has
  obtain ⟨cq, kq, qa, qb, qc⟩ := isOf hZ eT E
  obtain ⟨v, _, ⟨T', L', k', n'⟩, -, X', ⟨Lc, hQ, e1, e2, e3⟩, stp⟩ := X.virtualBack hx (y := y) (z := z) hown (mvT hZ w1) (mvT hZ w2) hnf (mvT hZ w3) (mvT hZ w4) hy (backOf (W := (rest.map fun v => v.category).sum) (hM []) hZ w6 w5 hf hl) qa qc (g := mkF m pc Ls st) rfl hml (Steps.refl _) (argsL := argsL) (rest := rest) hlen hst (by show 2 * 0 + _ ≤ _; omega) hd (fun _ _ => ⟨rfl, eT, hc, hs⟩)
  dsimp only [Pt.U, Pt.locs, Pt.cells, Pt.slots] at X' e1 e2 e3 stp hQ
  subst e1 e2 e3
  exact goS stp (k v T' _ Lc X' rfl hQ)
theorem cUp {own K owner : String} {index : Nat} {y z : MethodName} {bytes : ByteArray} {maxL : Nat} {ret : Option FieldType} {rm : Room} {Q' : Option Value → Heap → List Loc → Prop} {pc : Nat} {Ls : Array Slot} {st : List Value}
    (X : Stand p l e R s m args below meth c T locs cells slots) (hx : p.tables.exec = Jvm.exec) (hZ : Z.Warmed39 s.vm) (hown : s.vm.findClass own = some m.cls) (hml : Ls.size = c.maxLocals) (eT : T.heap = h)
    (w1 : (Cond.methodLink own index y).before a0 Z = true) (w2 : (Cond.sameMethod y.cls owner y.name y.desc).before a0 Z = true) (w2d : (Cond.declares ⟨owner, y.name, y.desc⟩).before a0 Z = true) (w3 : (Cond.selects K y z).before a0 Z = true) (w4 : (Cond.instanceMethod z).before a0 Z = true) (w5 : (Cond.initialized z.cls).before a0 Z = true) (w6 : (Cond.code z bytes maxL ret).before a0 Z = true)
    (a : Addr) (E : Exa Z h a K) (argsL rest : List Value) {as' : Array Value} (has : (.ref a :: argsL).toArray = as') (hM : Con l z bytes maxL ret rm Z as' h Q') (hd : decode c.code pc = .ok (.invokevirtual index, 3)) (hst : st = argsL.reverse ++ .ref a :: rest)
    (hlen : ∀ sig, parseMethodDescriptor y.desc = some sig → argsL.length = sig.parameters.length) (hy : owner ≠ "java/lang/invoke/MethodHandle" ∧ owner ≠ "java/lang/invoke/VarHandle")
    (hf : rm.frames + 1 ≤ R.frames) (hl : (rest.map fun v => v.category).sum + (maxL + 11) + rm.locals ≤ R.locals) (hc : cells + rm.cells ≤ R.cells) (hs : slots + rm.slots ≤ R.slots)
    (k : ∀ v T' h' L, Stand p l e R s m args below meth c T' (locs ++ L) (cells + rm.cells) (slots + rm.slots) → T'.heap = h' → Q' v h' L → Ends p e below P T' (mkF m (pc + 3) Ls (v.toList ++ rest))) :
    Ends p e below P T (mkF m pc Ls st) := by
  subst has
  obtain ⟨cq, kq, qa, qb, qc⟩ := isOf hZ eT E
  obtain ⟨v, _, ⟨T', L', k', n'⟩, -, X', ⟨Lc, hQ, e1, e2, e3⟩, stp⟩ := X.virtualBackUp hx (x := y) (y := z) hown (mvT hZ w1) (mvT hZ w2) (mvT hZ w2d) hy (mvT hZ w3) (mvT hZ w4) (backOf (W := (rest.map fun v => v.category).sum) (hM []) hZ w6 w5 hf hl) qa qc (g := mkF m pc Ls st) rfl hml (Steps.refl _) (argsL := argsL) (rest := rest) hlen hst (by show 2 * 0 + _ ≤ _; omega) hd (fun _ _ => ⟨rfl, eT, hc, hs⟩)
  dsimp only [Pt.U, Pt.locs, Pt.cells, Pt.slots] at X' e1 e2 e3 stp hQ
  subst e1 e2 e3
  exact goS stp (k v T' _ Lc X' rfl hQ)
theorem cFace {own K : String} {index count : Nat} {y z : MethodName} {bytes : ByteArray} {maxL : Nat} {ret : Option FieldType} {rm : Room} {Q' : Option Value → Heap → List Loc → Prop} {pc : Nat} {Ls : Array Slot} {st : List Value}
    (X : Stand p l e R s m args below meth c T locs cells slots) (hx : p.tables.exec = Jvm.exec) (hZ : Z.Warmed39 s.vm) (hown : s.vm.findClass own = some m.cls) (hml : Ls.size = c.maxLocals) (eT : T.heap = h)
    (w1 : (Cond.methodLink own index y).before a0 Z = true) (w2 : (Cond.declares y).before a0 Z = true) (wf : (Cond.interfaceMethod y.cls y.cls y.name y.desc).before args s = true) (w3 : (Cond.selects K y z).before a0 Z = true) (w4 : (Cond.instanceMethod z).before a0 Z = true) (wp : (Cond.publicMethod z).before a0 Z = true) (wu : (Cond.unhidden K y.name y.desc).before args s = true) (wc : (Cond.castable K y.cls).before a0 Z = true) (w5 : (Cond.initialized z.cls).before a0 Z = true) (w6 : (Cond.code z bytes maxL ret).before a0 Z = true)
    (a : Addr) (E : Exa Z h a K) (argsL rest : List Value) {as' : Array Value} (has : (.ref a :: argsL).toArray = as') (hM : Con l z bytes maxL ret rm Z as' h Q') (hd : decode c.code pc = .ok (.invokeinterface index count, 5)) (hst : st = argsL.reverse ++ .ref a :: rest)
    (hlen : ∀ sig, parseMethodDescriptor y.desc = some sig → argsL.length = sig.parameters.length) (hy : y.cls ≠ "java/lang/invoke/MethodHandle" ∧ y.cls ≠ "java/lang/invoke/VarHandle")
    (hf : rm.frames + 1 ≤ R.frames) (hl : (rest.map fun v => v.category).sum + (maxL + 11) + rm.locals ≤ R.locals) (hc : cells + rm.cells ≤ R.cells) (hs : slots + rm.slots ≤ R.slots)
    (k : ∀ v T' h' L, Stand p l e R s m args below meth c T' (locs ++ L) (cells + rm.cells) (slots + rm.slots) → T'.heap = h' → Q' v h' L → Ends p e below P T' (mkF m (pc + 5) Ls (v.toList ++ rest))) :
    Ends p e below P T (mkF m pc Ls st) := by
  subst has
  obtain ⟨cq, kq, qa, qb, qc⟩ := isOf hZ eT E
  obtain ⟨v, _, ⟨T', L', k', n'⟩, -, X', ⟨Lc, hQ, e1, e2, e3⟩, stp⟩ := X.interfaceBack hx (xi := y) (y := z) hown (mvT hZ w1) (mvT hZ w2) wf (mvT hZ w3) (mvT hZ w4) (mvT hZ wp) wu (mvT hZ wc) hy (backOf (W := (rest.map fun v => v.category).sum) (hM []) hZ w6 w5 hf hl) qa qb qc (g := mkF m pc Ls st) rfl hml (Steps.refl _) (argsL := argsL) (rest := rest) hlen hst (by show 2 * 0 + _ ≤ _; omega) hd (fun _ _ => ⟨rfl, eT, hc, hs⟩)
  dsimp only [Pt.U, Pt.locs, Pt.cells, Pt.slots] at X' e1 e2 e3 stp hQ
  subst e1 e2 e3
  exact goS stp (k v T' _ Lc X' rfl hQ)
theorem cPriv {own K : String} {index nn : Nat} {y : MethodName} {bytes : ByteArray} {maxL : Nat} {ret : Option FieldType} {rm : Room} {Q' : Option Value → Heap → List Loc → Prop} {pc : Nat} {Ls : Array Slot} {st : List Value}
    (X : Stand p l e R s m args below meth c T locs cells slots) (hx : p.tables.exec = Jvm.exec) (hZ : Z.Warmed39 s.vm) (hown : s.vm.findClass own = some m.cls) (hml : Ls.size = c.maxLocals) (eT : T.heap = h)
    (w1 : (Cond.methodLink own index y).before a0 Z = true) (w2 : (Cond.instanceMethod y).before a0 Z = true) (w3 : (Cond.privateMethod y).before a0 Z = true) (w4 : (Cond.instantiable y.cls nn).before a0 Z = true) (w5 : (Cond.initialized y.cls).before a0 Z = true) (w6 : (Cond.code y bytes maxL ret).before a0 Z = true)
    (a : Addr) (E : Exa Z h a K) (argsL rest : List Value) {as' : Array Value} (has : (.ref a :: argsL).toArray = as') (hM : Con l y bytes maxL ret rm Z as' h Q') (hd : decode c.code pc = .ok (.invokevirtual index, 3)) (hst : st = argsL.reverse ++ .ref a :: rest)
    (hlen : ∀ sig, parseMethodDescriptor y.desc = some sig → argsL.length = sig.parameters.length) (hy : y.cls ≠ "java/lang/invoke/MethodHandle" ∧ y.cls ≠ "java/lang/invoke/VarHandle")
    (hf : rm.frames + 1 ≤ R.frames) (hl : (rest.map fun v => v.category).sum + (maxL + 11) + rm.locals ≤ R.locals) (hc : cells + rm.cells ≤ R.cells) (hs : slots + rm.slots ≤ R.slots)
    (k : ∀ v T' h' L, Stand p l e R s m args below meth c T' (locs ++ L) (cells + rm.cells) (slots + rm.slots) → T'.heap = h' → Q' v h' L → Ends p e below P T' (mkF m (pc + 3) Ls (v.toList ++ rest))) :
    Ends p e below P T (mkF m pc Ls st) := by
  subst has
  obtain ⟨cell, q1, q2⟩ := E.cell
  have hpr := Cond.privateMethod_at (mvP hZ w3 (args := #[]))
  obtain ⟨cc, kc, i1, i2, -, i4, -⟩ := Cond.instantiable_spec (mvT (args := args) hZ w4)
  have hni : kc.isInterface = false := by
    cases hq : kc.isInterface with
    | false => rfl
    | true => rw [hq] at i4; simp at i4
  have hsel := Jvm.Stand.selects_self_of_private (args := args) i1 i2 hni hpr (mvT hZ w2) hy
  obtain ⟨v, _, ⟨T', L', k', n'⟩, -, X', ⟨Lc, hQ, e1, e2, e3⟩, stp⟩ := X.privateBack hx (y := y) hown (mvT hZ w1) (mvT hZ w2) hsel hpr (mvT hZ w6) hy (backOf (W := (rest.map fun v => v.category).sum) (hM []) hZ w6 w5 hf hl) (g := mkF m pc Ls st) rfl hml (Steps.refl _) (a := a) (by rw [eT]; exact q1) q2 (argsL := argsL) (rest := rest) hlen hst (by show 2 * 0 + _ ≤ _; omega) hd (fun _ _ => ⟨rfl, eT, hc, hs⟩)
  dsimp only [Pt.U, Pt.locs, Pt.cells, Pt.slots] at X' e1 e2 e3 stp hQ
  subst e1 e2 e3
  exact goS stp (k v T' _ Lc X' rfl hQ)
theorem xx (O : Ext Z.heap h) (E : Ext h h') : Ext Z.heap h' := ⟨Nat.le_trans O.1 E.1, fun a c q => E.2 _ _ (O.2 _ _ q)⟩
theorem xk {ws : List Addr} (O : Ext Z.heap h) (K : Keep h h' ws) (q : ∀ x ∈ ws, Z.heap.size ≤ x) : Ext Z.heap h' := (Old.keep ⟨rfl, O⟩ K q).2
theorem xw {a : Addr} {sl : Nat} {v : Value} (O : Ext Z.heap h) (W : Wr h h' a sl v) (q : Z.heap.size ≤ a) : Ext Z.heap h' := (Old.wr ⟨rfl, O⟩ W q).2
theorem ke (E : Ext h h') : Keep h h' [] := (Keep.refl h []).ext E
theorem ek (K : Keep h h' []) : Ext h h' := ⟨K.1, fun a c q => K.2.1 a c q nin0⟩
end Own
theorem pn_0 : plainName "com/example/pedestrain/pedestrain/core/CellHeapPopPinLaw" = true := by first | (simp [plainName, overriddenIn]; done) | decide +kernel
theorem d0_0 : decode method_2_code 0 = .ok (.iload_n 0, 1) := by decide +kernel
theorem d0_1 : decode method_2_code 1 = .ok (.iload_n 1, 1) := by decide +kernel
theorem d0_2 : decode method_2_code 2 = .ok (.if_icmp .ge 7, 3) := by decide +kernel
theorem d0_5 : decode method_2_code 5 = .ok (.iconst 1, 1) := by decide +kernel
theorem d0_6 : decode method_2_code 6 = .ok (.goto 4, 3) := by decide +kernel
theorem d0_10 : decode method_2_code 10 = .ok (.ireturn, 1) := by decide +kernel
theorem d0_9 : decode method_2_code 9 = .ok (.iconst 0, 1) := by decide +kernel
theorem pn_1 : plainName "com/example/pedestrain/pedestrain/core/CellHeap" = true := by first | (simp [plainName, overriddenIn]; done) | decide +kernel
theorem d1_0 : decode prog_4_method_1_code 0 = .ok (.aload_n 0, 1) := by decide +kernel
theorem d1_1 : decode prog_4_method_1_code 1 = .ok (.invokespecial 1, 3) := by decide +kernel
theorem d1_4 : decode prog_4_method_1_code 4 = .ok (.aload_n 0, 1) := by decide +kernel
theorem d1_5 : decode prog_4_method_1_code 5 = .ok (.sipush 1024, 3) := by decide +kernel
theorem d1_8 : decode prog_4_method_1_code 8 = .ok (.newarray .int, 2) := by decide +kernel
theorem d1_10 : decode prog_4_method_1_code 10 = .ok (.putfield 9, 3) := by decide +kernel
theorem d1_13 : decode prog_4_method_1_code 13 = .ok (.aload_n 0, 1) := by decide +kernel
theorem d1_14 : decode prog_4_method_1_code 14 = .ok (.sipush 1024, 3) := by decide +kernel
theorem d1_17 : decode prog_4_method_1_code 17 = .ok (.newarray .double, 2) := by decide +kernel
theorem d1_19 : decode prog_4_method_1_code 19 = .ok (.putfield 13, 3) := by decide +kernel
theorem d1_22 : decode prog_4_method_1_code 22 = .ok (.return_, 1) := by decide +kernel
theorem d2_0 : decode prog_4_method_5_code 0 = .ok (.aload_n 0, 1) := by decide +kernel
theorem d2_1 : decode prog_4_method_5_code 1 = .ok (.getfield 17, 3) := by decide +kernel
theorem d2_4 : decode prog_4_method_5_code 4 = .ok (.aload_n 0, 1) := by decide +kernel
theorem d2_5 : decode prog_4_method_5_code 5 = .ok (.getfield 9, 3) := by decide +kernel
theorem d2_8 : decode prog_4_method_5_code 8 = .ok (.arraylength, 1) := by decide +kernel
theorem d2_9 : decode prog_4_method_5_code 9 = .ok (.if_icmp .ne 37, 3) := by decide +kernel
theorem d2_46 : decode prog_4_method_5_code 46 = .ok (.aload_n 0, 1) := by decide +kernel
theorem d2_47 : decode prog_4_method_5_code 47 = .ok (.dup, 1) := by decide +kernel
theorem d2_48 : decode prog_4_method_5_code 48 = .ok (.getfield 17, 3) := by decide +kernel
theorem d2_51 : decode prog_4_method_5_code 51 = .ok (.dup_x1, 1) := by decide +kernel
theorem d2_52 : decode prog_4_method_5_code 52 = .ok (.iconst 1, 1) := by decide +kernel
theorem d2_53 : decode prog_4_method_5_code 53 = .ok (.iadd, 1) := by decide +kernel
theorem d2_54 : decode prog_4_method_5_code 54 = .ok (.putfield 17, 3) := by decide +kernel
theorem d2_57 : decode prog_4_method_5_code 57 = .ok (.istore 4, 2) := by decide +kernel
theorem d2_59 : decode prog_4_method_5_code 59 = .ok (.iload 4, 2) := by decide +kernel
theorem d2_61 : decode prog_4_method_5_code 61 = .ok (.ifCond .le 61, 3) := by decide +kernel
theorem d2_122 : decode prog_4_method_5_code 122 = .ok (.aload_n 0, 1) := by decide +kernel
theorem d2_123 : decode prog_4_method_5_code 123 = .ok (.getfield 9, 3) := by decide +kernel
theorem d2_126 : decode prog_4_method_5_code 126 = .ok (.iload 4, 2) := by decide +kernel
theorem d2_128 : decode prog_4_method_5_code 128 = .ok (.iload_n 1, 1) := by decide +kernel
theorem d2_129 : decode prog_4_method_5_code 129 = .ok (.iastore, 1) := by decide +kernel
theorem d2_130 : decode prog_4_method_5_code 130 = .ok (.aload_n 0, 1) := by decide +kernel
theorem d2_131 : decode prog_4_method_5_code 131 = .ok (.getfield 13, 3) := by decide +kernel
theorem d2_134 : decode prog_4_method_5_code 134 = .ok (.iload 4, 2) := by decide +kernel
theorem d2_136 : decode prog_4_method_5_code 136 = .ok (.dload_n 2, 1) := by decide +kernel
theorem d2_137 : decode prog_4_method_5_code 137 = .ok (.dastore, 1) := by decide +kernel
theorem d2_138 : decode prog_4_method_5_code 138 = .ok (.return_, 1) := by decide +kernel
theorem d2_64 : decode prog_4_method_5_code 64 = .ok (.iload 4, 2) := by decide +kernel
theorem d2_66 : decode prog_4_method_5_code 66 = .ok (.iconst 1, 1) := by decide +kernel
theorem d2_67 : decode prog_4_method_5_code 67 = .ok (.isub, 1) := by decide +kernel
theorem d2_68 : decode prog_4_method_5_code 68 = .ok (.iconst 2, 1) := by decide +kernel
theorem d2_69 : decode prog_4_method_5_code 69 = .ok (.idiv, 1) := by decide +kernel
theorem d2_70 : decode prog_4_method_5_code 70 = .ok (.istore 5, 2) := by decide +kernel
theorem d2_72 : decode prog_4_method_5_code 72 = .ok (.aload_n 0, 1) := by decide +kernel
theorem d2_73 : decode prog_4_method_5_code 73 = .ok (.getfield 13, 3) := by decide +kernel
theorem d2_76 : decode prog_4_method_5_code 76 = .ok (.iload 5, 2) := by decide +kernel
theorem d2_78 : decode prog_4_method_5_code 78 = .ok (.daload, 1) := by decide +kernel
theorem d2_79 : decode prog_4_method_5_code 79 = .ok (.dload_n 2, 1) := by decide +kernel
theorem d2_80 : decode prog_4_method_5_code 80 = .ok (.dcmp .g, 1) := by decide +kernel
theorem d2_81 : decode prog_4_method_5_code 81 = .ok (.ifCond .gt 6, 3) := by decide +kernel
theorem d2_87 : decode prog_4_method_5_code 87 = .ok (.aload_n 0, 1) := by decide +kernel
theorem d2_88 : decode prog_4_method_5_code 88 = .ok (.getfield 9, 3) := by decide +kernel
theorem d2_91 : decode prog_4_method_5_code 91 = .ok (.iload 4, 2) := by decide +kernel
theorem d2_93 : decode prog_4_method_5_code 93 = .ok (.aload_n 0, 1) := by decide +kernel
theorem d2_94 : decode prog_4_method_5_code 94 = .ok (.getfield 9, 3) := by decide +kernel
theorem d2_97 : decode prog_4_method_5_code 97 = .ok (.iload 5, 2) := by decide +kernel
theorem d2_99 : decode prog_4_method_5_code 99 = .ok (.iaload, 1) := by decide +kernel
theorem d2_100 : decode prog_4_method_5_code 100 = .ok (.iastore, 1) := by decide +kernel
theorem d2_101 : decode prog_4_method_5_code 101 = .ok (.aload_n 0, 1) := by decide +kernel
theorem d2_102 : decode prog_4_method_5_code 102 = .ok (.getfield 13, 3) := by decide +kernel
theorem d2_105 : decode prog_4_method_5_code 105 = .ok (.iload 4, 2) := by decide +kernel
theorem d2_107 : decode prog_4_method_5_code 107 = .ok (.aload_n 0, 1) := by decide +kernel
theorem d2_108 : decode prog_4_method_5_code 108 = .ok (.getfield 13, 3) := by decide +kernel
theorem d2_111 : decode prog_4_method_5_code 111 = .ok (.iload 5, 2) := by decide +kernel
theorem d2_113 : decode prog_4_method_5_code 113 = .ok (.daload, 1) := by decide +kernel
theorem d2_114 : decode prog_4_method_5_code 114 = .ok (.dastore, 1) := by decide +kernel
theorem d2_115 : decode prog_4_method_5_code 115 = .ok (.iload 5, 2) := by decide +kernel
theorem d2_117 : decode prog_4_method_5_code 117 = .ok (.istore 4, 2) := by decide +kernel
theorem d2_119 : decode prog_4_method_5_code 119 = .ok (.goto (-60), 3) := by decide +kernel
theorem d2_84 : decode prog_4_method_5_code 84 = .ok (.goto 38, 3) := by decide +kernel
theorem d3_0 : decode prog_4_method_6_code 0 = .ok (.aload_n 0, 1) := by decide +kernel
theorem d3_1 : decode prog_4_method_6_code 1 = .ok (.getfield 9, 3) := by decide +kernel
theorem d3_4 : decode prog_4_method_6_code 4 = .ok (.iconst 0, 1) := by decide +kernel
theorem d3_5 : decode prog_4_method_6_code 5 = .ok (.iaload, 1) := by decide +kernel
theorem d3_6 : decode prog_4_method_6_code 6 = .ok (.istore_n 1, 1) := by decide +kernel
theorem d3_7 : decode prog_4_method_6_code 7 = .ok (.aload_n 0, 1) := by decide +kernel
theorem d3_8 : decode prog_4_method_6_code 8 = .ok (.dup, 1) := by decide +kernel
theorem d3_9 : decode prog_4_method_6_code 9 = .ok (.getfield 17, 3) := by decide +kernel
theorem d3_12 : decode prog_4_method_6_code 12 = .ok (.iconst 1, 1) := by decide +kernel
theorem d3_13 : decode prog_4_method_6_code 13 = .ok (.isub, 1) := by decide +kernel
theorem d3_14 : decode prog_4_method_6_code 14 = .ok (.putfield 17, 3) := by decide +kernel
theorem d3_17 : decode prog_4_method_6_code 17 = .ok (.aload_n 0, 1) := by decide +kernel
theorem d3_18 : decode prog_4_method_6_code 18 = .ok (.getfield 9, 3) := by decide +kernel
theorem d3_21 : decode prog_4_method_6_code 21 = .ok (.aload_n 0, 1) := by decide +kernel
theorem d3_22 : decode prog_4_method_6_code 22 = .ok (.getfield 17, 3) := by decide +kernel
theorem d3_25 : decode prog_4_method_6_code 25 = .ok (.iaload, 1) := by decide +kernel
theorem d3_26 : decode prog_4_method_6_code 26 = .ok (.istore_n 2, 1) := by decide +kernel
theorem d3_27 : decode prog_4_method_6_code 27 = .ok (.aload_n 0, 1) := by decide +kernel
theorem d3_28 : decode prog_4_method_6_code 28 = .ok (.getfield 13, 3) := by decide +kernel
theorem d3_31 : decode prog_4_method_6_code 31 = .ok (.aload_n 0, 1) := by decide +kernel
theorem d3_32 : decode prog_4_method_6_code 32 = .ok (.getfield 17, 3) := by decide +kernel
theorem d3_35 : decode prog_4_method_6_code 35 = .ok (.daload, 1) := by decide +kernel
theorem d3_36 : decode prog_4_method_6_code 36 = .ok (.dstore_n 3, 1) := by decide +kernel
theorem d3_37 : decode prog_4_method_6_code 37 = .ok (.iconst 0, 1) := by decide +kernel
theorem d3_38 : decode prog_4_method_6_code 38 = .ok (.istore 5, 2) := by decide +kernel
theorem d3_40 : decode prog_4_method_6_code 40 = .ok (.iconst 2, 1) := by decide +kernel
theorem d3_41 : decode prog_4_method_6_code 41 = .ok (.iload 5, 2) := by decide +kernel
theorem d3_43 : decode prog_4_method_6_code 43 = .ok (.imul, 1) := by decide +kernel
theorem d3_44 : decode prog_4_method_6_code 44 = .ok (.iconst 1, 1) := by decide +kernel
theorem d3_45 : decode prog_4_method_6_code 45 = .ok (.iadd, 1) := by decide +kernel
theorem d3_46 : decode prog_4_method_6_code 46 = .ok (.istore 6, 2) := by decide +kernel
theorem d3_48 : decode prog_4_method_6_code 48 = .ok (.iload 6, 2) := by decide +kernel
theorem d3_50 : decode prog_4_method_6_code 50 = .ok (.aload_n 0, 1) := by decide +kernel
theorem d3_51 : decode prog_4_method_6_code 51 = .ok (.getfield 17, 3) := by decide +kernel
theorem d3_54 : decode prog_4_method_6_code 54 = .ok (.if_icmp .lt 6, 3) := by decide +kernel
theorem d3_60 : decode prog_4_method_6_code 60 = .ok (.iload 6, 2) := by decide +kernel
theorem d3_62 : decode prog_4_method_6_code 62 = .ok (.iconst 1, 1) := by decide +kernel
theorem d3_63 : decode prog_4_method_6_code 63 = .ok (.iadd, 1) := by decide +kernel
theorem d3_64 : decode prog_4_method_6_code 64 = .ok (.aload_n 0, 1) := by decide +kernel
theorem d3_65 : decode prog_4_method_6_code 65 = .ok (.getfield 17, 3) := by decide +kernel
theorem d3_68 : decode prog_4_method_6_code 68 = .ok (.if_icmp .ge 26, 3) := by decide +kernel
theorem d3_71 : decode prog_4_method_6_code 71 = .ok (.aload_n 0, 1) := by decide +kernel
theorem d3_72 : decode prog_4_method_6_code 72 = .ok (.getfield 13, 3) := by decide +kernel
theorem d3_75 : decode prog_4_method_6_code 75 = .ok (.iload 6, 2) := by decide +kernel
theorem d3_77 : decode prog_4_method_6_code 77 = .ok (.iconst 1, 1) := by decide +kernel
theorem d3_78 : decode prog_4_method_6_code 78 = .ok (.iadd, 1) := by decide +kernel
theorem d3_79 : decode prog_4_method_6_code 79 = .ok (.daload, 1) := by decide +kernel
theorem d3_80 : decode prog_4_method_6_code 80 = .ok (.aload_n 0, 1) := by decide +kernel
theorem d3_81 : decode prog_4_method_6_code 81 = .ok (.getfield 13, 3) := by decide +kernel
theorem d3_84 : decode prog_4_method_6_code 84 = .ok (.iload 6, 2) := by decide +kernel
theorem d3_86 : decode prog_4_method_6_code 86 = .ok (.daload, 1) := by decide +kernel
theorem d3_87 : decode prog_4_method_6_code 87 = .ok (.dcmp .g, 1) := by decide +kernel
theorem d3_88 : decode prog_4_method_6_code 88 = .ok (.ifCond .ge 6, 3) := by decide +kernel
theorem d3_91 : decode prog_4_method_6_code 91 = .ok (.iinc 6 1, 3) := by decide +kernel
theorem d3_94 : decode prog_4_method_6_code 94 = .ok (.aload_n 0, 1) := by decide +kernel
theorem d3_95 : decode prog_4_method_6_code 95 = .ok (.getfield 13, 3) := by decide +kernel
theorem d3_98 : decode prog_4_method_6_code 98 = .ok (.iload 6, 2) := by decide +kernel
theorem d3_100 : decode prog_4_method_6_code 100 = .ok (.daload, 1) := by decide +kernel
theorem d3_101 : decode prog_4_method_6_code 101 = .ok (.dload_n 3, 1) := by decide +kernel
theorem d3_102 : decode prog_4_method_6_code 102 = .ok (.dcmp .l, 1) := by decide +kernel
theorem d3_103 : decode prog_4_method_6_code 103 = .ok (.ifCond .lt 6, 3) := by decide +kernel
theorem d3_109 : decode prog_4_method_6_code 109 = .ok (.aload_n 0, 1) := by decide +kernel
theorem d3_110 : decode prog_4_method_6_code 110 = .ok (.getfield 9, 3) := by decide +kernel
theorem d3_113 : decode prog_4_method_6_code 113 = .ok (.iload 5, 2) := by decide +kernel
theorem d3_115 : decode prog_4_method_6_code 115 = .ok (.aload_n 0, 1) := by decide +kernel
theorem d3_116 : decode prog_4_method_6_code 116 = .ok (.getfield 9, 3) := by decide +kernel
theorem d3_119 : decode prog_4_method_6_code 119 = .ok (.iload 6, 2) := by decide +kernel
theorem d3_121 : decode prog_4_method_6_code 121 = .ok (.iaload, 1) := by decide +kernel
theorem d3_122 : decode prog_4_method_6_code 122 = .ok (.iastore, 1) := by decide +kernel
theorem d3_123 : decode prog_4_method_6_code 123 = .ok (.aload_n 0, 1) := by decide +kernel
theorem d3_124 : decode prog_4_method_6_code 124 = .ok (.getfield 13, 3) := by decide +kernel
theorem d3_127 : decode prog_4_method_6_code 127 = .ok (.iload 5, 2) := by decide +kernel
theorem d3_129 : decode prog_4_method_6_code 129 = .ok (.aload_n 0, 1) := by decide +kernel
theorem d3_130 : decode prog_4_method_6_code 130 = .ok (.getfield 13, 3) := by decide +kernel
theorem d3_133 : decode prog_4_method_6_code 133 = .ok (.iload 6, 2) := by decide +kernel
theorem d3_135 : decode prog_4_method_6_code 135 = .ok (.daload, 1) := by decide +kernel
theorem d3_136 : decode prog_4_method_6_code 136 = .ok (.dastore, 1) := by decide +kernel
theorem d3_137 : decode prog_4_method_6_code 137 = .ok (.iload 6, 2) := by decide +kernel
theorem d3_139 : decode prog_4_method_6_code 139 = .ok (.istore 5, 2) := by decide +kernel
theorem d3_141 : decode prog_4_method_6_code 141 = .ok (.goto (-101), 3) := by decide +kernel
theorem d3_57 : decode prog_4_method_6_code 57 = .ok (.goto 87, 3) := by decide +kernel
theorem d3_144 : decode prog_4_method_6_code 144 = .ok (.aload_n 0, 1) := by decide +kernel
theorem d3_145 : decode prog_4_method_6_code 145 = .ok (.getfield 9, 3) := by decide +kernel
theorem d3_148 : decode prog_4_method_6_code 148 = .ok (.iload 5, 2) := by decide +kernel
theorem d3_150 : decode prog_4_method_6_code 150 = .ok (.iload_n 2, 1) := by decide +kernel
theorem d3_151 : decode prog_4_method_6_code 151 = .ok (.iastore, 1) := by decide +kernel
theorem d3_152 : decode prog_4_method_6_code 152 = .ok (.aload_n 0, 1) := by decide +kernel
theorem d3_153 : decode prog_4_method_6_code 153 = .ok (.getfield 13, 3) := by decide +kernel
theorem d3_156 : decode prog_4_method_6_code 156 = .ok (.iload 5, 2) := by decide +kernel
theorem d3_158 : decode prog_4_method_6_code 158 = .ok (.dload_n 3, 1) := by decide +kernel
theorem d3_159 : decode prog_4_method_6_code 159 = .ok (.dastore, 1) := by decide +kernel
theorem d3_160 : decode prog_4_method_6_code 160 = .ok (.iload_n 1, 1) := by decide +kernel
theorem d3_161 : decode prog_4_method_6_code 161 = .ok (.ireturn, 1) := by decide +kernel
theorem d3_106 : decode prog_4_method_6_code 106 = .ok (.goto 38, 3) := by decide +kernel
theorem d4_0 : decode prog_4_method_2_code 0 = .ok (.aload_n 0, 1) := by decide +kernel
theorem d4_1 : decode prog_4_method_2_code 1 = .ok (.getfield 17, 3) := by decide +kernel
theorem d4_4 : decode prog_4_method_2_code 4 = .ok (.ifCond .ne 7, 3) := by decide +kernel
theorem d4_7 : decode prog_4_method_2_code 7 = .ok (.iconst 1, 1) := by decide +kernel
theorem d4_8 : decode prog_4_method_2_code 8 = .ok (.goto 4, 3) := by decide +kernel
theorem d4_12 : decode prog_4_method_2_code 12 = .ok (.ireturn, 1) := by decide +kernel
theorem pd_2 : parseMethodDescriptor "(II)I" = some ⟨[.int, .int], some .int⟩ := by decide +kernel
theorem pd_3 : parseMethodDescriptor "()V" = some ⟨[], none⟩ := by decide +kernel
theorem pd_4 : parseMethodDescriptor "(ID)V" = some ⟨[.int, .double], none⟩ := by decide +kernel
theorem pd_5 : parseMethodDescriptor "()I" = some ⟨[], some .int⟩ := by decide +kernel
theorem pd_6 : parseMethodDescriptor "()Z" = some ⟨[], some .boolean⟩ := by decide +kernel
theorem own_lw (a b : Int64) : lcmpW a b = XT.cmpL a b := by simp only [lcmpW, XT.cmpL, gt_iff_lt]
theorem own_and7 (x : Int32) : ∃ k : Fin 8, x &&& 7 = Int32.ofInt k.val := by
  have q := c_and x 7 (by decide)
  have e : (7 : Int32).toInt = 7 := by decide
  rw [e] at q
  refine ⟨⟨(x &&& 7).toInt.toNat, by omega⟩, ?_⟩
  rw [show (((x &&& 7).toInt.toNat : Nat) : Int) = (x &&& 7).toInt by omega, Int32.ofInt_toInt]
theorem own_b53 (x : Int32) : B53 x.toInt64 := by
  have q := c_i2l x
  have r := rng32 x
  unfold B53
  omega
theorem own_lt5 {i : Int32} (g : ¬ i < 0 ∧ i < (5 : Int32)) : i.toNatClampNeg < 5 := by
  have h := g.2
  have h0 := nat_of g.1
  rw [Int32.lt_iff_toInt_lt, show (5 : Int32).toInt = 5 by decide] at h
  omega
abbrev L5 : Type := Nat × Nat × Nat × Nat × Nat
def L5.a (q : L5) : Nat := q.1
def L5.b (q : L5) : Nat := q.2.1
def L5.c (q : L5) : Nat := q.2.2.1
def L5.d (q : L5) : Nat := q.2.2.2.1
def L5.e (q : L5) : Nat := q.2.2.2.2
def hpush0 (lt : Nat → Nat → Bool) (q : L5) (t : Nat) : L5 := ⟨t, q.b, q.c, q.d, q.e⟩
def hpush1 (lt : Nat → Nat → Bool) (q : L5) (t : Nat) : L5 := if lt t q.a = true then (⟨t, q.a, q.c, q.d, q.e⟩) else ⟨q.a, t, q.c, q.d, q.e⟩
def hpush2 (lt : Nat → Nat → Bool) (q : L5) (t : Nat) : L5 := if lt t q.a = true then (⟨t, q.b, q.a, q.d, q.e⟩) else ⟨q.a, q.b, t, q.d, q.e⟩
def hpush3 (lt : Nat → Nat → Bool) (q : L5) (t : Nat) : L5 := if lt t q.b = true then (if lt t q.a = true then (⟨t, q.a, q.c, q.b, q.e⟩) else ⟨q.a, t, q.c, q.b, q.e⟩) else ⟨q.a, q.b, q.c, t, q.e⟩
def hpush4 (lt : Nat → Nat → Bool) (q : L5) (t : Nat) : L5 := if lt t q.b = true then (if lt t q.a = true then (⟨t, q.a, q.c, q.d, q.b⟩) else ⟨q.a, t, q.c, q.d, q.b⟩) else ⟨q.a, q.b, q.c, q.d, t⟩
def hpop1 (lt : Nat → Nat → Bool) (q : L5) : L5 := ⟨q.a, q.b, q.c, q.d, q.e⟩
def hpop2 (lt : Nat → Nat → Bool) (q : L5) : L5 := ⟨q.b, q.b, q.c, q.d, q.e⟩
def hpop3 (lt : Nat → Nat → Bool) (q : L5) : L5 := if lt q.b q.c = true then (⟨q.b, q.c, q.c, q.d, q.e⟩) else ⟨q.c, q.b, q.c, q.d, q.e⟩
def hpop4 (lt : Nat → Nat → Bool) (q : L5) : L5 := if lt q.c q.b = true then (if lt q.c q.d = true then (⟨q.c, q.b, q.d, q.d, q.e⟩) else ⟨q.d, q.b, q.c, q.d, q.e⟩) else (if lt q.b q.d = true then (⟨q.b, q.d, q.c, q.d, q.e⟩) else ⟨q.d, q.b, q.c, q.d, q.e⟩)
def hpop5 (lt : Nat → Nat → Bool) (q : L5) : L5 := if lt q.c q.b = true then (if lt q.c q.e = true then (⟨q.c, q.b, q.e, q.d, q.e⟩) else ⟨q.e, q.b, q.c, q.d, q.e⟩) else (if lt q.b q.e = true then (if lt q.d q.e = true then (⟨q.b, q.d, q.c, q.e, q.e⟩) else ⟨q.b, q.e, q.c, q.d, q.e⟩) else ⟨q.e, q.b, q.c, q.d, q.e⟩)
def lt10 (b01 b02 b03 b04 b12 b13 b14 b23 b24 b34 : Bool) : Nat → Nat → Bool
  | 0, 1 => b01
  | 1, 0 => !b01
  | 0, 2 => b02
  | 2, 0 => !b02
  | 0, 3 => b03
  | 3, 0 => !b03
  | 0, 4 => b04
  | 4, 0 => !b04
  | 1, 2 => b12
  | 2, 1 => !b12
  | 1, 3 => b13
  | 3, 1 => !b13
  | 1, 4 => b14
  | 4, 1 => !b14
  | 2, 3 => b23
  | 3, 2 => !b23
  | 2, 4 => b24
  | 4, 2 => !b24
  | 3, 4 => b34
  | 4, 3 => !b34
  | _, _ => false
def hq (lt : Nat → Nat → Bool) : L5 := hpush4 lt (hpush3 lt (hpush2 lt (hpush1 lt (hpush0 lt ⟨5, 5, 5, 5, 5⟩ 0) 1) 2) 3) 4
def labs (lt : Nat → Nat → Bool) : List Nat := [(hq lt).a, (hpop5 lt (hq lt)).a, (hpop4 lt (hpop5 lt (hq lt))).a, (hpop3 lt (hpop4 lt (hpop5 lt (hq lt)))).a, (hpop2 lt (hpop3 lt (hpop4 lt (hpop5 lt (hq lt))))).a]
def rk (lt : Nat → Nat → Bool) (i : Nat) : Nat := (if 0 = i then 0 else (lt 0 i).toNat) + (if 1 = i then 0 else (lt 1 i).toNat) + (if 2 = i then 0 else (lt 2 i).toNat) + (if 3 = i then 0 else (lt 3 i).toNat) + (if 4 = i then 0 else (lt 4 i).toNat)
def exs (lt : Nat → Nat → Bool) : List Nat := ((((([5, 5, 5, 5, 5] : List Nat).set ((lt 1 0).toNat + (lt 2 0).toNat + (lt 3 0).toNat + (lt 4 0).toNat) 0).set ((lt 0 1).toNat + (lt 2 1).toNat + (lt 3 1).toNat + (lt 4 1).toNat) 1).set ((lt 0 2).toNat + (lt 1 2).toNat + (lt 3 2).toNat + (lt 4 2).toNat) 2).set ((lt 0 3).toNat + (lt 1 3).toNat + (lt 2 3).toNat + (lt 4 3).toNat) 3).set ((lt 0 4).toNat + (lt 1 4).toNat + (lt 2 4).toNat + (lt 3 4).toNat) 4
def tr10 (b01 b02 b03 b04 b12 b13 b14 b23 b24 b34 : Bool) : Bool := ((!(b01 && b12) || b02) && (!(!b01 && !b12) || !b02)) && ((!(b01 && b13) || b03) && (!(!b01 && !b13) || !b03)) && ((!(b01 && b14) || b04) && (!(!b01 && !b14) || !b04)) && ((!(b02 && b23) || b03) && (!(!b02 && !b23) || !b03)) && ((!(b02 && b24) || b04) && (!(!b02 && !b24) || !b04)) && ((!(b03 && b34) || b04) && (!(!b03 && !b34) || !b04)) && ((!(b12 && b23) || b13) && (!(!b12 && !b23) || !b13)) && ((!(b12 && b24) || b14) && (!(!b12 && !b24) || !b14)) && ((!(b13 && b34) || b14) && (!(!b13 && !b34) || !b14)) && ((!(b23 && b34) || b24) && (!(!b23 && !b34) || !b24))
theorem own_main : ∀ b01 b02 b03 b04 b12 b13 b14 b23 b24 b34 : Bool, tr10 b01 b02 b03 b04 b12 b13 b14 b23 b24 b34 = true → exs (lt10 b01 b02 b03 b04 b12 b13 b14 b23 b24 b34) = labs (lt10 b01 b02 b03 b04 b12 b13 b14 b23 b24 b34) := by decide +kernel
theorem hpush0_bd {lt : Nat → Nat → Bool} {q : L5} {t : Nat} (hq : True) (ht : t < 5) : (hpush0 lt q t).a < 5 := by
  unfold hpush0
  repeat' split
  all_goals simp_all [L5.a, L5.b, L5.c, L5.d, L5.e]
theorem hpush1_bd {lt : Nat → Nat → Bool} {q : L5} {t : Nat} (hq : q.a < 5) (ht : t < 5) : (hpush1 lt q t).a < 5 ∧ (hpush1 lt q t).b < 5 := by
  unfold hpush1
  repeat' split
  all_goals simp_all [L5.a, L5.b, L5.c, L5.d, L5.e]
theorem hpush2_bd {lt : Nat → Nat → Bool} {q : L5} {t : Nat} (hq : q.a < 5 ∧ q.b < 5) (ht : t < 5) : (hpush2 lt q t).a < 5 ∧ (hpush2 lt q t).b < 5 ∧ (hpush2 lt q t).c < 5 := by
  unfold hpush2
  repeat' split
  all_goals simp_all [L5.a, L5.b, L5.c, L5.d, L5.e]
theorem hpush3_bd {lt : Nat → Nat → Bool} {q : L5} {t : Nat} (hq : q.a < 5 ∧ q.b < 5 ∧ q.c < 5) (ht : t < 5) : (hpush3 lt q t).a < 5 ∧ (hpush3 lt q t).b < 5 ∧ (hpush3 lt q t).c < 5 ∧ (hpush3 lt q t).d < 5 := by
  unfold hpush3
  repeat' split
  all_goals simp_all [L5.a, L5.b, L5.c, L5.d, L5.e]
theorem hpush4_bd {lt : Nat → Nat → Bool} {q : L5} {t : Nat} (hq : q.a < 5 ∧ q.b < 5 ∧ q.c < 5 ∧ q.d < 5) (ht : t < 5) : (hpush4 lt q t).a < 5 ∧ (hpush4 lt q t).b < 5 ∧ (hpush4 lt q t).c < 5 ∧ (hpush4 lt q t).d < 5 ∧ (hpush4 lt q t).e < 5 := by
  unfold hpush4
  repeat' split
  all_goals simp_all [L5.a, L5.b, L5.c, L5.d, L5.e]
theorem hpop2_bd {lt : Nat → Nat → Bool} {q : L5} (hq : q.a < 5 ∧ q.b < 5) : (hpop2 lt q).a < 5 := by
  unfold hpop2
  repeat' split
  all_goals simp_all [L5.a, L5.b, L5.c, L5.d, L5.e]
theorem hpop3_bd {lt : Nat → Nat → Bool} {q : L5} (hq : q.a < 5 ∧ q.b < 5 ∧ q.c < 5) : (hpop3 lt q).a < 5 ∧ (hpop3 lt q).b < 5 := by
  unfold hpop3
  repeat' split
  all_goals simp_all [L5.a, L5.b, L5.c, L5.d, L5.e]
theorem hpop4_bd {lt : Nat → Nat → Bool} {q : L5} (hq : q.a < 5 ∧ q.b < 5 ∧ q.c < 5 ∧ q.d < 5) : (hpop4 lt q).a < 5 ∧ (hpop4 lt q).b < 5 ∧ (hpop4 lt q).c < 5 := by
  unfold hpop4
  repeat' split
  all_goals simp_all [L5.a, L5.b, L5.c, L5.d, L5.e]
theorem hpop5_bd {lt : Nat → Nat → Bool} {q : L5} (hq : q.a < 5 ∧ q.b < 5 ∧ q.c < 5 ∧ q.d < 5 ∧ q.e < 5) : (hpop5 lt q).a < 5 ∧ (hpop5 lt q).b < 5 ∧ (hpop5 lt q).c < 5 ∧ (hpop5 lt q).d < 5 := by
  unfold hpop5
  repeat' split
  all_goals simp_all [L5.a, L5.b, L5.c, L5.d, L5.e]
def own_lt (k0 k1 k2 k3 k4 : Int32) : Nat → Nat → Bool := lt10 (decide (k0 < k1)) (decide (k0 < k2)) (decide (k0 < k3)) (decide (k0 < k4)) (decide (k1 < k2)) (decide (k1 < k3)) (decide (k1 < k4)) (decide (k2 < k3)) (decide (k2 < k4)) (decide (k3 < k4))
def own_cf (c0 c1 c2 c3 c4 : Int32) : Nat → Int32
  | 0 => c0
  | 1 => c1
  | 2 => c2
  | 3 => c3
  | 4 => c4
  | _ => 0
def own_kf (k0 k1 k2 k3 k4 : Int32) (i : Nat) : Int64 := (own_cf k0 k1 k2 k3 k4 i).toInt64
def own_less (a b : Int32) : Int32 := if a < b then 1 else 0
theorem own_i64 {a b : Int32} : a.toInt64 < b.toInt64 ↔ a < b := by
  rw [Int64.lt_iff_toInt_lt, Int32.lt_iff_toInt_lt, Int32.toInt_toInt64, Int32.toInt_toInt64]
theorem own_flip {a b : Int32} (h : ¬ a = b) : decide (b < a) = !decide (a < b) := by
  rw [← Int32.toInt_inj] at h
  by_cases q : a < b
  · have : ¬ b < a := by rw [Int32.lt_iff_toInt_lt] at *; omega
    simp [q, this]
  · have : b < a := by rw [Int32.lt_iff_toInt_lt] at *; omega
    simp [q, this]
theorem own_irr (a : Int32) : ¬ a < a := by rw [Int32.lt_iff_toInt_lt]; omega
theorem own_hlt {k0 k1 k2 k3 k4 : Int32} (n01 : ¬ k0 = k1) (n02 : ¬ k0 = k2) (n03 : ¬ k0 = k3) (n04 : ¬ k0 = k4) (n12 : ¬ k1 = k2) (n13 : ¬ k1 = k3) (n14 : ¬ k1 = k4) (n23 : ¬ k2 = k3) (n24 : ¬ k2 = k4) (n34 : ¬ k3 = k4) : ∀ i j, i < 5 → j < 5 → (own_lt k0 k1 k2 k3 k4 i j = true ↔ own_kf k0 k1 k2 k3 k4 i < own_kf k0 k1 k2 k3 k4 j) := by
  intro i j hi hj
  unfold own_kf
  rw [own_i64]
  have e : ∀ n : Nat, n < 5 → n = 0 ∨ n = 1 ∨ n = 2 ∨ n = 3 ∨ n = 4 := fun n h => by omega
  have f01 := own_flip n01
  have f02 := own_flip n02
  have f03 := own_flip n03
  have f04 := own_flip n04
  have f12 := own_flip n12
  have f13 := own_flip n13
  have f14 := own_flip n14
  have f23 := own_flip n23
  have f24 := own_flip n24
  have f34 := own_flip n34
  rcases e i hi with rfl | rfl | rfl | rfl | rfl <;> rcases e j hj with rfl | rfl | rfl | rfl | rfl <;> simp only [own_lt, lt10, own_cf, own_irr, decide_eq_true_eq, Bool.false_eq_true, ← f01, ← f02, ← f03, ← f04, ← f12, ← f13, ← f14, ← f23, ← f24, ← f34]
theorem own_rk (p1 p2 p3 p4 : Bool) : ((((if p1 = true then (1 : Int32) else 0) + (if p2 = true then 1 else 0)) + (if p3 = true then 1 else 0)) + (if p4 = true then 1 else 0)).toNatClampNeg = p1.toNat + p2.toNat + p3.toNat + p4.toNat := by
  cases p1 <;> cases p2 <;> cases p3 <;> cases p4 <;> decide
theorem own_lessb (a b : Int32) : own_less a b = if decide (a < b) = true then (1 : Int32) else 0 := by simp [own_less]
theorem own_sum4 (p1 p2 p3 p4 : Bool) : ¬ ((((if p1 = true then (1 : Int32) else 0) + (if p2 = true then 1 else 0)) + (if p3 = true then 1 else 0)) + (if p4 = true then 1 else 0)) < 0 ∧ ((((if p1 = true then (1 : Int32) else 0) + (if p2 = true then 1 else 0)) + (if p3 = true then 1 else 0)) + (if p4 = true then 1 else 0)) < (5 : Int32) := by
  cases p1 <;> cases p2 <;> cases p3 <;> cases p4 <;> decide
theorem own_rkb (a b c d k : Int32) : (¬ (((own_less a k) + (own_less b k)) + (own_less c k)) + (own_less d k) < 0) ∧ (((own_less a k) + (own_less b k)) + (own_less c k)) + (own_less d k) < (5 : Int32) := by
  simp only [own_lessb]
  exact own_sum4 _ _ _ _
theorem own_tr {k0 k1 k2 k3 k4 : Int32} : tr10 (decide (k0 < k1)) (decide (k0 < k2)) (decide (k0 < k3)) (decide (k0 < k4)) (decide (k1 < k2)) (decide (k1 < k3)) (decide (k1 < k4)) (decide (k2 < k3)) (decide (k2 < k4)) (decide (k3 < k4)) = true := by
  have t1 : ∀ a b c : Int32, a < b → b < c → a < c := fun a b c h1 h2 => by rw [Int32.lt_iff_toInt_lt] at *; omega
  have t2 : ∀ a b c : Int32, ¬ a < b → ¬ b < c → ¬ a < c := fun a b c h1 h2 => by rw [Int32.lt_iff_toInt_lt] at *; omega
  have key : ∀ a b c : Int32, ((!(decide (a < b) && decide (b < c)) || decide (a < c)) && (!(!decide (a < b) && !decide (b < c)) || !decide (a < c))) = true := fun a b c => by
    have q1 := t1 a b c
    have q2 := t2 a b c
    by_cases h1 : a < b <;> by_cases h2 : b < c <;> by_cases h3 : a < c <;> simp_all
  unfold tr10
  simp only [key, Bool.and_self]
theorem own_ex {α : Type} {k0 k1 k2 k3 k4 : Int32} (n01 : ¬ k0 = k1) (n02 : ¬ k0 = k2) (n03 : ¬ k0 = k3) (n04 : ¬ k0 = k4) (n12 : ¬ k1 = k2) (n13 : ¬ k1 = k3) (n14 : ¬ k1 = k4) (n23 : ¬ k2 = k3) (n24 : ¬ k2 = k4) (n34 : ¬ k3 = k4) (f : Nat → α) : ((((([f 5, f 5, f 5, f 5, f 5] : List α).set ((((own_less k1 k0) + (own_less k2 k0)) + (own_less k3 k0)) + (own_less k4 k0)).toNatClampNeg (f 0)).set ((((own_less k0 k1) + (own_less k2 k1)) + (own_less k3 k1)) + (own_less k4 k1)).toNatClampNeg (f 1)).set ((((own_less k0 k2) + (own_less k1 k2)) + (own_less k3 k2)) + (own_less k4 k2)).toNatClampNeg (f 2)).set ((((own_less k0 k3) + (own_less k1 k3)) + (own_less k2 k3)) + (own_less k4 k3)).toNatClampNeg (f 3)).set ((((own_less k0 k4) + (own_less k1 k4)) + (own_less k2 k4)) + (own_less k3 k4)).toNatClampNeg (f 4) = (labs (own_lt k0 k1 k2 k3 k4)).map f := by
  have m := own_main (decide (k0 < k1)) (decide (k0 < k2)) (decide (k0 < k3)) (decide (k0 < k4)) (decide (k1 < k2)) (decide (k1 < k3)) (decide (k1 < k4)) (decide (k2 < k3)) (decide (k2 < k4)) (decide (k3 < k4)) own_tr
  unfold own_lt
  rw [← m]
  unfold exs
  simp only [List.map_set, List.map_cons, List.map_nil, own_lessb, own_rk]
  have f01 := own_flip n01
  have f02 := own_flip n02
  have f03 := own_flip n03
  have f04 := own_flip n04
  have f12 := own_flip n12
  have f13 := own_flip n13
  have f14 := own_flip n14
  have f23 := own_flip n23
  have f24 := own_flip n24
  have f34 := own_flip n34
  simp only [lt10, f01, f02, f03, f04, f12, f13, f14, f23, f24, f34]
theorem own_k7_0 (x : Int32) : (((x &&& (7 : Int32)) <<< ((3 : Int32) &&& 31)) ||| (0 : Int32)) &&& (7 : Int32) = (0 : Int32) := by
  have q : ∀ k : Fin 8, ((Int32.ofInt k.val <<< ((3 : Int32) &&& 31)) ||| (0 : Int32)) &&& (7 : Int32) = (0 : Int32) := by decide +kernel
  obtain ⟨k, hk⟩ := own_and7 x
  rw [hk]; exact q k
theorem own_k7_1 (x : Int32) : (((x &&& (7 : Int32)) <<< ((3 : Int32) &&& 31)) ||| (1 : Int32)) &&& (7 : Int32) = (1 : Int32) := by
  have q : ∀ k : Fin 8, ((Int32.ofInt k.val <<< ((3 : Int32) &&& 31)) ||| (1 : Int32)) &&& (7 : Int32) = (1 : Int32) := by decide +kernel
  obtain ⟨k, hk⟩ := own_and7 x
  rw [hk]; exact q k
theorem own_k7_2 (x : Int32) : (((x &&& (7 : Int32)) <<< ((3 : Int32) &&& 31)) ||| (2 : Int32)) &&& (7 : Int32) = (2 : Int32) := by
  have q : ∀ k : Fin 8, ((Int32.ofInt k.val <<< ((3 : Int32) &&& 31)) ||| (2 : Int32)) &&& (7 : Int32) = (2 : Int32) := by decide +kernel
  obtain ⟨k, hk⟩ := own_and7 x
  rw [hk]; exact q k
theorem own_k7_3 (x : Int32) : (((x &&& (7 : Int32)) <<< ((3 : Int32) &&& 31)) ||| (3 : Int32)) &&& (7 : Int32) = (3 : Int32) := by
  have q : ∀ k : Fin 8, ((Int32.ofInt k.val <<< ((3 : Int32) &&& 31)) ||| (3 : Int32)) &&& (7 : Int32) = (3 : Int32) := by decide +kernel
  obtain ⟨k, hk⟩ := own_and7 x
  rw [hk]; exact q k
theorem own_k7_4 (x : Int32) : (((x &&& (7 : Int32)) <<< ((3 : Int32) &&& 31)) ||| (4 : Int32)) &&& (7 : Int32) = (4 : Int32) := by
  have q : ∀ k : Fin 8, ((Int32.ofInt k.val <<< ((3 : Int32) &&& 31)) ||| (4 : Int32)) &&& (7 : Int32) = (4 : Int32) := by decide +kernel
  obtain ⟨k, hk⟩ := own_and7 x
  rw [hk]; exact q k

theorem own_kf5 (k0 k1 k2 k3 k4 : Int32) : own_kf k0 k1 k2 k3 k4 5 = 0 := by
  show (0 : Int32).toInt64 = 0
  decide
set_option maxRecDepth 65536 in
set_option maxHeartbeats 40000000 in
theorem rm_less {l : Launch} {Z : State} {a0 : Array Value} (hw : ∀ d ∈ tables_1, d.before a0 Z = true) (p_ r_ : Int32) (h0 : Heap)  :
    Con l (⟨"com/example/pedestrain/pedestrain/core/CellHeapPopPinLaw", "less", "(II)I"⟩ : MethodName) method_2_code 2 (some .int) ({ frames := 0, cells := 0, slots := 0, locals := 0 } : Room) Z #[(.int p_), (.int r_)] h0 (fun v h L => v = some (.int (own_less p_ r_)) ∧ Fr Z.heap.size L ∧ h0 = h) := by
  refine Con.of (plainFor_of_name pn_0) (Ls := #[iv p_, iv r_]) (fun m => efOf rfl) ?_
  intro p e s m below meth c T0 X0 hx hZ hby hml hown hnm hret hlk e0
  refine go (fun _ => XS.iloadN X0.here hx rfl (hb hby d0_0) rfl) ?_
  refine go (fun _ => XS.iloadN X0.here hx rfl (hb hby d0_1) rfl) ?_
  show Ends p e below _ T0 (mkF m 2 #[iv p_, iv r_] [(.int r_), (.int p_)])
  by_cases c2_1 : p_ < r_
  · refine go (fun _ => XS.icmpNo X0.here hx rfl (hb hby d0_2) rfl (XT.ii_ge_f c2_1)) ?_
    show Ends p e below _ T0 (mkF m 5 #[iv p_, iv r_] [])
    refine go (fun _ => XT.iconstV X0.here hx rfl (1 : Int32) (hb hby d0_5) (by decide)) ?_
    refine go (fun _ => XS.goto X0.here hx rfl (pc0 := 6) (pc' := 10) rfl (hb hby d0_6) (by decide) (by decide)) ?_
    show Ends p e below _ T0 (mkF m 10 #[iv p_, iv r_] [(.int (1 : Int32))])
    exact endI X0 hx hret (hb hby d0_10) (lvN X0 hlk e0 (fun h => by rw [hret] at h; cases h) ⟨by simp [own_less, c2_1], (Fr.nil _), rfl⟩ (by decide) (by decide))
  · refine go (fun _ => XS.icmpYes X0.here hx rfl (pc0 := 2) (pc' := 9) rfl (hb hby d0_2) rfl (XT.ii_ge_t c2_1) (by decide) (by decide)) ?_
    show Ends p e below _ T0 (mkF m 9 #[iv p_, iv r_] [])
    refine go (fun _ => XT.iconstV X0.here hx rfl (0 : Int32) (hb hby d0_9) (by decide)) ?_
    show Ends p e below _ T0 (mkF m 10 #[iv p_, iv r_] [(.int (0 : Int32))])
    exact endI X0 hx hret (hb hby d0_10) (lvN X0 hlk e0 (fun h => by rw [hret] at h; cases h) ⟨by simp [own_less, c2_1], (Fr.nil _), rfl⟩ (by decide) (by decide))
set_option maxRecDepth 65536 in
set_option maxHeartbeats 40000000 in
theorem rm_chi {l : Launch} {Z : State} {a0 : Array Value} (hw : ∀ d ∈ tables_1, d.before a0 Z = true) (a : Addr) (h0 : Heap) (O0 : Ext Z.heap h0) (f0 : Z.heap.size ≤ a) (E0 : Exa Z h0 a "com/example/pedestrain/pedestrain/core/CellHeap") (F1 : Fld Z h0 a "com/example/pedestrain/pedestrain/core/CellHeap" "cells" "[I" .null) (F2 : Fld Z h0 a "com/example/pedestrain/pedestrain/core/CellHeap" "keys" "[D" .null) (F3 : Fld Z h0 a "com/example/pedestrain/pedestrain/core/CellHeap" "size" "I" (.int (0 : Int32))) :
    Con l (⟨"com/example/pedestrain/pedestrain/core/CellHeap", "<init>", "()V"⟩ : MethodName) prog_4_method_1_code 1 none ({ frames := 1, cells := 2, slots := 2048, locals := 12 } : Room) Z #[(.ref a)] h0 (fun v h L => ∃ (b1 b2 : Addr) (k1 k2 : ClassId), v = none ∧ Fr Z.heap.size L ∧ Keep h0 h [a] ∧ h0.size ≤ b1 ∧ h0.size ≤ b2 ∧ b1 ≠ b2 ∧ Fld Z h a "com/example/pedestrain/pedestrain/core/CellHeap" "cells" "[I" (.ref b1) ∧ Fld Z h a "com/example/pedestrain/pedestrain/core/CellHeap" "keys" "[D" (.ref b2) ∧ Fld Z h a "com/example/pedestrain/pedestrain/core/CellHeap" "size" "I" (.int (0 : Int32)) ∧ Arv Z h b1 k1 .int (1024 : Int32) [(.int (0 : Int32)), (.int (0 : Int32)), (.int (0 : Int32)), (.int (0 : Int32)), (.int (0 : Int32))] (.int 0) ∧ Arv Z h b2 k2 .double (1024 : Int32) [(.double (FP.l2d 0)), (.double (FP.l2d 0)), (.double (FP.l2d 0)), (.double (FP.l2d 0)), (.double (FP.l2d 0))] (.double (FP.l2d 0))) := by
  refine Con.of (plainFor_of_name pn_1) (Ls := #[rv a]) (fun m => efOf rfl) ?_
  intro p e s m below meth c T0 X0 hx hZ hby hml hown hnm hret hlk e0
  refine go (fun _ => XS.aloadN X0.here hx rfl (hb hby d1_0) rfl rfl) ?_
  show Ends p e below _ T0 (mkF m 1 #[rv a] [(.ref a)])
  obtain ⟨T2, X2, e2, s2⟩ := initO X0 hx hZ hown (hwi hw 11 rfl) (hwi hw 12 rfl) (hwi hw 13 rfl) e0 (g := (mkF m 1 #[rv a] [(.ref a)])) rfl (by rw [hml]; rfl) rfl (hb hby d1_1) (by decide) (W := 0) (by show 2 * 0 + _ ≤ _; exact Nat.le_of_eq rfl) (by decide)
  refine go s2 ?_
  show Ends p e below _ T2 (mkF m 4 #[rv a] [])
  refine go (fun _ => XS.aloadN X2.here hx rfl (hb hby d1_4) rfl rfl) ?_
  refine go (fun _ => XT.sipushV X2.here hx rfl (1024 : Int32) (hb hby d1_5) (by decide)) ?_
  show Ends p e below _ T2 (mkF m 8 #[rv a] [(.int (1024 : Int32)), (.ref a)])
  obtain ⟨T3, h3, k3, X3, e3, E3, A3, s3⟩ := newP X2 hx hZ (hwi hw 4 rfl) e2 (g := (mkF m 8 #[rv a] [(.int (1024 : Int32)), (.ref a)])) rfl (hb hby d1_8) rfl (by decide) (cap := 1024) (by decide) (by decide) (by decide) (by decide)
  obtain ⟨a3, g3⟩ : ∃ z : Addr, z = h0.size := ⟨_, rfl⟩
  have n4 : a ≠ a3 := fun q => absurd (E0.lt) (by rw [q, g3]; exact Nat.lt_irrefl _)
  have f3 : Z.heap.size ≤ a3 := by rw [g3]; exact (O0).1
  have K5 : Keep h0 h0 [a] := (Keep.refl _ _)
  have b3 : h0.size ≤ a3 := by rw [g3]; exact (K5).1
  rw [← g3] at A3 s3
  have O6 : Ext Z.heap h3 := xx O0 E3
  have V3 : Arv Z h3 a3 k3 .int (1024 : Int32) [(.int (0 : Int32)), (.int (0 : Int32)), (.int (0 : Int32)), (.int (0 : Int32)), (.int (0 : Int32))] (.int 0) := Arv.pad (Arv.new A3 (by decide)) (pad_rep [] _ 5)
  refine go s3 ?_
  show Ends p e below _ T3 (mkF m 10 #[rv a] [(.ref a3), (.ref a)])
  have F7 := (Exa.ext E3 E0)
  have F8 := (Fld.ext E3 F1)
  obtain ⟨T9, h9, X9, e9, W9, s9⟩ := putF X3 hx hZ hown (host := "") (Or.inl (hwi hw 14 rfl)) Via.refl e3 F8 F7 (Or.inl (hwi hw 15 rfl)) (hwi hw 6 rfl) (ty := (.array .int)) (by decide) rfl rfl (g := (mkF m 10 #[rv a] [(.ref a3), (.ref a)])) rfl rfl (hb hby d1_10)
  have N9 := Fr.snoc X9 (Fr.nil _) f0
  have O10 : Ext Z.heap h9 := xw O6 W9 f0
  refine go s9 ?_
  show Ends p e below _ T9 (mkF m 13 #[rv a] [])
  refine go (fun _ => XS.aloadN X9.here hx rfl (hb hby d1_13) rfl rfl) ?_
  refine go (fun _ => XT.sipushV X9.here hx rfl (1024 : Int32) (hb hby d1_14) (by decide)) ?_
  show Ends p e below _ T9 (mkF m 17 #[rv a] [(.int (1024 : Int32)), (.ref a)])
  obtain ⟨T11, h11, k11, X11, e11, E11, A11, s11⟩ := newP X9 hx hZ (hwi hw 16 rfl) e9 (g := (mkF m 17 #[rv a] [(.int (1024 : Int32)), (.ref a)])) rfl (hb hby d1_17) rfl (by decide) (cap := 1024) (by decide) (by decide) (by decide) (by decide)
  have F12 := (Exa.wr W9 F7)
  have F13 := (Arv.other V3 W9 (Ne.symm n4))
  obtain ⟨a11, g11⟩ : ∃ z : Addr, z = h9.size := ⟨_, rfl⟩
  have n14 : a ≠ a11 := fun q => absurd (F12.lt) (by rw [q, g11]; exact Nat.lt_irrefl _)
  have n15 : a3 ≠ a11 := fun q => absurd (F13.lt) (by rw [q, g11]; exact Nat.lt_irrefl _)
  have f11 : Z.heap.size ≤ a11 := by rw [g11]; exact (O10).1
  have K16 : Keep h0 h9 [a] := (Keep.wr (Keep.ext K5 E3) W9 (Or.inl (List.mem_of_getElem? (i := 0) rfl)))
  have b11 : h0.size ≤ a11 := by rw [g11]; exact (K16).1
  rw [← g11] at A11 s11
  have O17 : Ext Z.heap h11 := xx O10 E11
  have V11 : Arv Z h11 a11 k11 .double (1024 : Int32) [(.double (FP.l2d 0)), (.double (FP.l2d 0)), (.double (FP.l2d 0)), (.double (FP.l2d 0)), (.double (FP.l2d 0))] (.double (FP.l2d 0)) := Arv.pad (Arv.newD A11 (by decide)) (pad_rep [] _ 5)
  refine go s11 ?_
  show Ends p e below _ T11 (mkF m 19 #[rv a] [(.ref a11), (.ref a)])
  have F18 := (Exa.ext E11 F12)
  have F19 := (Fld.ext E11 (Fld.other W9 (Fld.ext E3 F2) (Or.inr (slot_ne (a0 := a0) (Or.inl (hwi hw 18 rfl)) (Or.inl (hwi hw 15 rfl)) (by decide) (t := (.array .double)) (t' := (.array .int)) (by decide) (by decide)))))
  obtain ⟨T20, h20, X20, e20, W20, s20⟩ := putF X11 hx hZ hown (host := "") (Or.inl (hwi hw 17 rfl)) Via.refl e11 F19 F18 (Or.inl (hwi hw 18 rfl)) (hwi hw 6 rfl) (ty := (.array .double)) (by decide) rfl rfl (g := (mkF m 19 #[rv a] [(.ref a11), (.ref a)])) rfl rfl (hb hby d1_19)
  have N20 := Fr.snoc X20 N9 f0
  have O21 : Ext Z.heap h20 := xw O17 W20 f0
  refine go s20 ?_
  show Ends p e below _ T20 (mkF m 22 #[rv a] [])
  have K22 : Keep h0 h20 [a] := (Keep.wr (Keep.ext K16 E11) W20 (Or.inl (List.mem_of_getElem? (i := 0) rfl)))
  have F23 := (Fld.other W20 (Fld.ext E11 (Fld.same W9 F8)) (Or.inr (slot_ne (a0 := a0) (Or.inl (hwi hw 15 rfl)) (Or.inl (hwi hw 18 rfl)) (by decide) (t := (.array .int)) (t' := (.array .double)) (by decide) (by decide))))
  have F24 := (Fld.same W20 F19)
  have F25 := (Fld.other W20 (Fld.ext E11 (Fld.other W9 (Fld.ext E3 F3) (Or.inr (slot_ne (a0 := a0) (Or.inl (hwi hw 25 rfl)) (Or.inl (hwi hw 15 rfl)) (by decide) (t := .int) (t' := (.array .int)) (by decide) (by decide))))) (Or.inr (slot_ne (a0 := a0) (Or.inl (hwi hw 25 rfl)) (Or.inl (hwi hw 18 rfl)) (by decide) (t := .int) (t' := (.array .double)) (by decide) (by decide))))
  have F26 := (Arv.other (Arv.ext F13 E11) W20 (Ne.symm n4))
  have F27 := (Arv.other V11 W20 (Ne.symm n14))
  exact endV X20 hx hret (hb hby d1_22) (lvN X20 hlk e20 (fun _ => rfl) ⟨a3, a11, _, _, rfl, N20, K22, b3, b11, n15, F23, F24, F25, F26, F27⟩ (by decide) (by decide))
set_option maxRecDepth 65536 in
set_option maxHeartbeats 40000000 in
theorem rm_push0 {l : Launch} {Z : State} {a0 : Array Value} (hw : ∀ d ∈ tables_1, d.before a0 Z = true) (a ac ak : Addr) (kc kk : ClassId) (cf : Nat → Int32) (kf : Nat → Int64) (lt : Nat → Nat → Bool) (q qn : L5) (t : Nat) (h0 : Heap) (O0 : Ext Z.heap h0) (f0 : Z.heap.size ≤ a) (fc : Z.heap.size ≤ ac) (fk : Z.heap.size ≤ ak) (n1 : a ≠ ac) (n2 : a ≠ ak) (n3 : ac ≠ ak) (E0 : Exa Z h0 a "com/example/pedestrain/pedestrain/core/CellHeap") (F1 : Fld Z h0 a "com/example/pedestrain/pedestrain/core/CellHeap" "cells" "[I" (.ref ac)) (F2 : Fld Z h0 a "com/example/pedestrain/pedestrain/core/CellHeap" "keys" "[D" (.ref ak)) (F3 : Fld Z h0 a "com/example/pedestrain/pedestrain/core/CellHeap" "size" "I" (.int (0 : Int32))) (Vc : Arv Z h0 ac kc .int (1024 : Int32) [(.int (cf q.a)), (.int (cf q.b)), (.int (cf q.c)), (.int (cf q.d)), (.int (cf q.e))] (.int 0)) (Vk : Arv Z h0 ak kk .double (1024 : Int32) [(.double (FP.l2d (kf q.a))), (.double (FP.l2d (kf q.b))), (.double (FP.l2d (kf q.c))), (.double (FP.l2d (kf q.d))), (.double (FP.l2d (kf q.e)))] (.double (FP.l2d 0))) (hB : ∀ i, B53 (kf i)) (hlt : ∀ i j, i < 5 → j < 5 → (lt i j = true ↔ kf i < kf j))  (ht : t < 5) (hqn : hpush0 lt q t = qn) :
    Con l (⟨"com/example/pedestrain/pedestrain/core/CellHeap", "push", "(ID)V"⟩ : MethodName) prog_4_method_5_code 6 none ({ frames := 0, cells := 0, slots := 0, locals := 0 } : Room) Z #[(.ref a), (.int (cf t)), (.double (FP.l2d (kf t)))] h0 (fun v h L => v = none ∧ Fr Z.heap.size L ∧ Keep h0 h [a, ac, ak] ∧ Fld Z h a "com/example/pedestrain/pedestrain/core/CellHeap" "cells" "[I" (.ref ac) ∧ Fld Z h a "com/example/pedestrain/pedestrain/core/CellHeap" "keys" "[D" (.ref ak) ∧ Fld Z h a "com/example/pedestrain/pedestrain/core/CellHeap" "size" "I" (.int (1 : Int32)) ∧ Arv Z h ac kc .int (1024 : Int32) [(.int (cf qn.a)), (.int (cf qn.b)), (.int (cf qn.c)), (.int (cf qn.d)), (.int (cf qn.e))] (.int 0) ∧ Arv Z h ak kk .double (1024 : Int32) [(.double (FP.l2d (kf qn.a))), (.double (FP.l2d (kf qn.b))), (.double (FP.l2d (kf qn.c))), (.double (FP.l2d (kf qn.d))), (.double (FP.l2d (kf qn.e)))] (.double (FP.l2d 0))) := by
  refine Con.of (plainFor_of_name pn_1) (Ls := #[rv a, iv (cf t), .val (.double (FP.l2d (kf t))), .second, .unset, .unset]) (fun m => efOf rfl) ?_
  intro p e s m below meth c T0 X0 hx hZ hby hml hown hnm hret hlk e0
  refine go (fun _ => XS.aloadN X0.here hx rfl (hb hby d2_0) rfl rfl) ?_
  show Ends p e below _ T0 (mkF m 1 #[rv a, iv (cf t), .val (.double (FP.l2d (kf t))), .second, .unset, .unset] [(.ref a)])
  obtain ⟨T28, X28, e28, s28⟩ := getF X0 hx hZ hown (host := "") (Or.inl (hwi hw 24 rfl)) Via.refl e0 F3 (g := (mkF m 1 #[rv a, iv (cf t), .val (.double (FP.l2d (kf t))), .second, .unset, .unset] [(.ref a)])) rfl rfl (hb hby d2_1)
  refine go s28 ?_
  show Ends p e below _ T28 (mkF m 4 #[rv a, iv (cf t), .val (.double (FP.l2d (kf t))), .second, .unset, .unset] [(.int (0 : Int32))])
  refine go (fun _ => XS.aloadN X28.here hx rfl (hb hby d2_4) rfl rfl) ?_
  show Ends p e below _ T28 (mkF m 5 #[rv a, iv (cf t), .val (.double (FP.l2d (kf t))), .second, .unset, .unset] [(.ref a), (.int (0 : Int32))])
  obtain ⟨T29, X29, e29, s29⟩ := getF X28 hx hZ hown (host := "") (Or.inl (hwi hw 14 rfl)) Via.refl e28 F1 (g := (mkF m 5 #[rv a, iv (cf t), .val (.double (FP.l2d (kf t))), .second, .unset, .unset] [(.ref a), (.int (0 : Int32))])) rfl rfl (hb hby d2_5)
  refine go s29 ?_
  show Ends p e below _ T29 (mkF m 8 #[rv a, iv (cf t), .val (.double (FP.l2d (kf t))), .second, .unset, .unset] [(.ref ac), (.int (0 : Int32))])
  obtain ⟨cl30, A30, -, S30, M30, -⟩ := id Vc
  refine go (fun _ => X29.arraylength hx (cell := cl30) (by rw [e29]; exact A30.1) (State.isArrayOf_alike hZ.alike A30.2.1) (g := (mkF m 8 #[rv a, iv (cf t), .val (.double (FP.l2d (kf t))), .second, .unset, .unset] [(.ref ac), (.int (0 : Int32))])) rfl rfl (hb hby d2_8) _) ?_
  rw [len_of S30 M30]
  show Ends p e below _ T29 (mkF m 9 #[rv a, iv (cf t), .val (.double (FP.l2d (kf t))), .second, .unset, .unset] [(.int (1024 : Int32)), (.int (0 : Int32))])
  refine go (fun _ => XS.icmpYes X29.here hx rfl (pc0 := 9) (pc' := 46) rfl (hb hby d2_9) rfl (XT.ii_ne_t ((by decide) : ¬ ((0 : Int32) = (1024 : Int32)))) (by decide) (by decide)) ?_
  show Ends p e below _ T29 (mkF m 46 #[rv a, iv (cf t), .val (.double (FP.l2d (kf t))), .second, .unset, .unset] [])
  refine go (fun _ => XS.aloadN X29.here hx rfl (hb hby d2_46) rfl rfl) ?_
  refine go (fun _ => XS.dup X29.here hx rfl (hb hby d2_47) rfl rfl) ?_
  show Ends p e below _ T29 (mkF m 48 #[rv a, iv (cf t), .val (.double (FP.l2d (kf t))), .second, .unset, .unset] [(.ref a), (.ref a)])
  obtain ⟨T31, X31, e31, s31⟩ := getF X29 hx hZ hown (host := "") (Or.inl (hwi hw 24 rfl)) Via.refl e29 F3 (g := (mkF m 48 #[rv a, iv (cf t), .val (.double (FP.l2d (kf t))), .second, .unset, .unset] [(.ref a), (.ref a)])) rfl rfl (hb hby d2_48)
  refine go s31 ?_
  show Ends p e below _ T31 (mkF m 51 #[rv a, iv (cf t), .val (.double (FP.l2d (kf t))), .second, .unset, .unset] [(.int (0 : Int32)), (.ref a)])
  refine go (fun _ => XT.dupX1 X31.here hx rfl (hb hby d2_51) rfl rfl rfl) ?_
  show Ends p e below _ T31 (mkF m 52 #[rv a, iv (cf t), .val (.double (FP.l2d (kf t))), .second, .unset, .unset] [(.int (0 : Int32)), (.ref a), (.int (0 : Int32))])
  refine go (fun _ => XT.iconstV X31.here hx rfl (1 : Int32) (hb hby d2_52) (by decide)) ?_
  refine go (fun _ => XS.iadd X31.here hx rfl (hb hby d2_53) rfl) ?_
  show Ends p e below _ T31 (mkF m 54 #[rv a, iv (cf t), .val (.double (FP.l2d (kf t))), .second, .unset, .unset] [(.int (1 : Int32)), (.ref a), (.int (0 : Int32))])
  obtain ⟨T32, h32, X32, e32, W32, s32⟩ := putF X31 hx hZ hown (host := "") (Or.inl (hwi hw 24 rfl)) Via.refl e31 F3 E0 (Or.inl (hwi hw 25 rfl)) (hwi hw 6 rfl) (ty := .int) (by decide) rfl rfl (g := (mkF m 54 #[rv a, iv (cf t), .val (.double (FP.l2d (kf t))), .second, .unset, .unset] [(.int (1 : Int32)), (.ref a), (.int (0 : Int32))])) rfl rfl (hb hby d2_54)
  have N32 := Fr.snoc X32 (Fr.nil _) f0
  have O33 : Ext Z.heap h32 := xw O0 W32 f0
  refine go s32 ?_
  show Ends p e below _ T32 (mkF m 57 #[rv a, iv (cf t), .val (.double (FP.l2d (kf t))), .second, .unset, .unset] [(.int (0 : Int32))])
  refine go (fun _ => XS.istore X32.here hx rfl (hb hby d2_57) rfl (l' := #[rv a, iv (cf t), .val (.double (FP.l2d (kf t))), .second, iv (0 : Int32), .unset]) rfl) ?_
  refine go (fun _ => XS.iload X32.here hx rfl (hb hby d2_59) rfl) ?_
  show Ends p e below _ T32 (mkF m 61 #[rv a, iv (cf t), .val (.double (FP.l2d (kf t))), .second, iv (0 : Int32), .unset] [(.int (0 : Int32))])
  refine go (fun _ => XS.ifYes X32.here hx rfl (pc0 := 61) (pc' := 122) rfl (hb hby d2_61) rfl (XT.i0_le_t ((by decide) : ¬ ((0 : Int32) < (0 : Int32)))) (by decide) (by decide)) ?_
  show Ends p e below _ T32 (mkF m 122 #[rv a, iv (cf t), .val (.double (FP.l2d (kf t))), .second, iv (0 : Int32), .unset] [])
  refine go (fun _ => XS.aloadN X32.here hx rfl (hb hby d2_122) rfl rfl) ?_
  show Ends p e below _ T32 (mkF m 123 #[rv a, iv (cf t), .val (.double (FP.l2d (kf t))), .second, iv (0 : Int32), .unset] [(.ref a)])
  have F34 := (Fld.other W32 F1 (Or.inr (slot_ne (a0 := a0) (Or.inl (hwi hw 15 rfl)) (Or.inl (hwi hw 25 rfl)) (by decide) (t := (.array .int)) (t' := .int) (by decide) (by decide))))
  obtain ⟨T35, X35, e35, s35⟩ := getF X32 hx hZ hown (host := "") (Or.inl (hwi hw 14 rfl)) Via.refl e32 F34 (g := (mkF m 123 #[rv a, iv (cf t), .val (.double (FP.l2d (kf t))), .second, iv (0 : Int32), .unset] [(.ref a)])) rfl rfl (hb hby d2_123)
  refine go s35 ?_
  show Ends p e below _ T35 (mkF m 126 #[rv a, iv (cf t), .val (.double (FP.l2d (kf t))), .second, iv (0 : Int32), .unset] [(.ref ac)])
  refine go (fun _ => XS.iload X35.here hx rfl (hb hby d2_126) rfl) ?_
  refine go (fun _ => XS.iloadN X35.here hx rfl (hb hby d2_128) rfl) ?_
  show Ends p e below _ T35 (mkF m 129 #[rv a, iv (cf t), .val (.double (FP.l2d (kf t))), .second, iv (0 : Int32), .unset] [(.int (cf t)), (.int (0 : Int32)), (.ref ac)])
  have F36 := (Arv.other Vc W32 (Ne.symm n1))
  obtain ⟨cl37, A37, q37, S37, M37, H37, G37⟩ := id F36
  obtain ⟨T37, h37, X37, e37, W37, s37⟩ := stI X35 hx hZ e35 A37 (j := (0 : Int32)) (inb_of S37 (by decide)) (g := (mkF m 129 #[rv a, iv (cf t), .val (.double (FP.l2d (kf t))), .second, iv (0 : Int32), .unset] [(.int (cf t)), (.int (0 : Int32)), (.ref ac)])) rfl rfl (hb hby d2_129)
  have N37 := Fr.snoc X37 N32 fc
  have O38 : Ext Z.heap h37 := xw O33 W37 fc
  have V37 : Arv Z h37 ac kc .int (1024 : Int32) [(.int (cf t)), (.int (cf q.b)), (.int (cf q.c)), (.int (cf q.d)), (.int (cf q.e))] (.int 0) := Arv.set A37 q37 S37 M37 H37 G37 rfl W37 0 (by decide) (Nat.le_of_ble_eq_true rfl)
  refine go s37 ?_
  show Ends p e below _ T37 (mkF m 130 #[rv a, iv (cf t), .val (.double (FP.l2d (kf t))), .second, iv (0 : Int32), .unset] [])
  refine go (fun _ => XS.aloadN X37.here hx rfl (hb hby d2_130) rfl rfl) ?_
  show Ends p e below _ T37 (mkF m 131 #[rv a, iv (cf t), .val (.double (FP.l2d (kf t))), .second, iv (0 : Int32), .unset] [(.ref a)])
  have F39 := (Fld.other W37 (Fld.other W32 F2 (Or.inr (slot_ne (a0 := a0) (Or.inl (hwi hw 18 rfl)) (Or.inl (hwi hw 25 rfl)) (by decide) (t := (.array .double)) (t' := .int) (by decide) (by decide)))) (Or.inl n1))
  obtain ⟨T40, X40, e40, s40⟩ := getF X37 hx hZ hown (host := "") (Or.inl (hwi hw 17 rfl)) Via.refl e37 F39 (g := (mkF m 131 #[rv a, iv (cf t), .val (.double (FP.l2d (kf t))), .second, iv (0 : Int32), .unset] [(.ref a)])) rfl rfl (hb hby d2_131)
  refine go s40 ?_
  show Ends p e below _ T40 (mkF m 134 #[rv a, iv (cf t), .val (.double (FP.l2d (kf t))), .second, iv (0 : Int32), .unset] [(.ref ak)])
  refine go (fun _ => XS.iload X40.here hx rfl (hb hby d2_134) rfl) ?_
  show Ends p e below _ T40 (mkF m 136 #[rv a, iv (cf t), .val (.double (FP.l2d (kf t))), .second, iv (0 : Int32), .unset] [(.int (0 : Int32)), (.ref ak)])
  refine go (fun _ => XS.dloadN X40.here hx rfl (hb hby d2_136) rfl) ?_
  show Ends p e below _ T40 (mkF m 137 #[rv a, iv (cf t), .val (.double (FP.l2d (kf t))), .second, iv (0 : Int32), .unset] [(.double (FP.l2d (kf t))), (.int (0 : Int32)), (.ref ak)])
  have F41 := (Arv.other (Arv.other Vk W32 (Ne.symm n2)) W37 (Ne.symm n3))
  obtain ⟨cl42, A42, q42, S42, M42, H42, G42⟩ := id F41
  obtain ⟨T42, h42, X42, e42, W42, s42⟩ := stD X40 hx hZ e40 A42 (j := (0 : Int32)) (inb_of S42 (by decide)) (g := (mkF m 137 #[rv a, iv (cf t), .val (.double (FP.l2d (kf t))), .second, iv (0 : Int32), .unset] [(.double (FP.l2d (kf t))), (.int (0 : Int32)), (.ref ak)])) rfl rfl (hb hby d2_137)
  have N42 := Fr.snoc X42 N37 fk
  have O43 : Ext Z.heap h42 := xw O38 W42 fk
  have V42 : Arv Z h42 ak kk .double (1024 : Int32) [(.double (FP.l2d (kf t))), (.double (FP.l2d (kf q.b))), (.double (FP.l2d (kf q.c))), (.double (FP.l2d (kf q.d))), (.double (FP.l2d (kf q.e)))] (.double (FP.l2d 0)) := Arv.set A42 q42 S42 M42 H42 G42 rfl W42 0 (by decide) (Nat.le_of_ble_eq_true rfl)
  refine go s42 ?_
  show Ends p e below _ T42 (mkF m 138 #[rv a, iv (cf t), .val (.double (FP.l2d (kf t))), .second, iv (0 : Int32), .unset] [])
  have z44 : qn = (⟨t, q.b, q.c, q.d, q.e⟩ : L5) := hqn.symm.trans (by simp only [hpush0, if_true, if_false, Bool.false_eq_true])
  have F45 := (Arv.other V37 W42 n3)
  have K46 : Keep h0 h42 [a, ac, ak] := (Keep.wr (Keep.wr (Keep.wr (Keep.refl _ _) W32 (Or.inl (List.mem_of_getElem? (i := 0) rfl))) W37 (Or.inl (List.mem_of_getElem? (i := 1) rfl))) W42 (Or.inl (List.mem_of_getElem? (i := 2) rfl)))
  have F47 := (Fld.other W42 (Fld.other W37 F34 (Or.inl n1)) (Or.inl n2))
  have F48 := (Fld.other W42 F39 (Or.inl n2))
  have F49 := (Fld.other W42 (Fld.other W37 (Fld.same W32 F3) (Or.inl n1)) (Or.inl n2))
  exact endV X42 hx hret (hb hby d2_138) (lvN X42 hlk e42 (fun _ => rfl) ⟨rfl, N42, K46, F47, F48, F49, by rw [z44]; exact F45, by rw [z44]; exact V42⟩ (by decide) (by decide))
set_option maxRecDepth 65536 in
set_option maxHeartbeats 40000000 in
theorem rm_push1 {l : Launch} {Z : State} {a0 : Array Value} (hw : ∀ d ∈ tables_1, d.before a0 Z = true) (a ac ak : Addr) (kc kk : ClassId) (cf : Nat → Int32) (kf : Nat → Int64) (lt : Nat → Nat → Bool) (q qn : L5) (t : Nat) (h0 : Heap) (O0 : Ext Z.heap h0) (f0 : Z.heap.size ≤ a) (fc : Z.heap.size ≤ ac) (fk : Z.heap.size ≤ ak) (n1 : a ≠ ac) (n2 : a ≠ ak) (n3 : ac ≠ ak) (E0 : Exa Z h0 a "com/example/pedestrain/pedestrain/core/CellHeap") (F1 : Fld Z h0 a "com/example/pedestrain/pedestrain/core/CellHeap" "cells" "[I" (.ref ac)) (F2 : Fld Z h0 a "com/example/pedestrain/pedestrain/core/CellHeap" "keys" "[D" (.ref ak)) (F3 : Fld Z h0 a "com/example/pedestrain/pedestrain/core/CellHeap" "size" "I" (.int (1 : Int32))) (Vc : Arv Z h0 ac kc .int (1024 : Int32) [(.int (cf q.a)), (.int (cf q.b)), (.int (cf q.c)), (.int (cf q.d)), (.int (cf q.e))] (.int 0)) (Vk : Arv Z h0 ak kk .double (1024 : Int32) [(.double (FP.l2d (kf q.a))), (.double (FP.l2d (kf q.b))), (.double (FP.l2d (kf q.c))), (.double (FP.l2d (kf q.d))), (.double (FP.l2d (kf q.e)))] (.double (FP.l2d 0))) (hB : ∀ i, B53 (kf i)) (hlt : ∀ i j, i < 5 → j < 5 → (lt i j = true ↔ kf i < kf j)) (hqa : q.a < 5) (ht : t < 5) (hqn : hpush1 lt q t = qn) :
    Con l (⟨"com/example/pedestrain/pedestrain/core/CellHeap", "push", "(ID)V"⟩ : MethodName) prog_4_method_5_code 6 none ({ frames := 0, cells := 0, slots := 0, locals := 0 } : Room) Z #[(.ref a), (.int (cf t)), (.double (FP.l2d (kf t)))] h0 (fun v h L => v = none ∧ Fr Z.heap.size L ∧ Keep h0 h [a, ac, ak] ∧ Fld Z h a "com/example/pedestrain/pedestrain/core/CellHeap" "cells" "[I" (.ref ac) ∧ Fld Z h a "com/example/pedestrain/pedestrain/core/CellHeap" "keys" "[D" (.ref ak) ∧ Fld Z h a "com/example/pedestrain/pedestrain/core/CellHeap" "size" "I" (.int (2 : Int32)) ∧ Arv Z h ac kc .int (1024 : Int32) [(.int (cf qn.a)), (.int (cf qn.b)), (.int (cf qn.c)), (.int (cf qn.d)), (.int (cf qn.e))] (.int 0) ∧ Arv Z h ak kk .double (1024 : Int32) [(.double (FP.l2d (kf qn.a))), (.double (FP.l2d (kf qn.b))), (.double (FP.l2d (kf qn.c))), (.double (FP.l2d (kf qn.d))), (.double (FP.l2d (kf qn.e)))] (.double (FP.l2d 0))) := by
  refine Con.of (plainFor_of_name pn_1) (Ls := #[rv a, iv (cf t), .val (.double (FP.l2d (kf t))), .second, .unset, .unset]) (fun m => efOf rfl) ?_
  intro p e s m below meth c T0 X0 hx hZ hby hml hown hnm hret hlk e0
  refine go (fun _ => XS.aloadN X0.here hx rfl (hb hby d2_0) rfl rfl) ?_
  show Ends p e below _ T0 (mkF m 1 #[rv a, iv (cf t), .val (.double (FP.l2d (kf t))), .second, .unset, .unset] [(.ref a)])
  obtain ⟨T50, X50, e50, s50⟩ := getF X0 hx hZ hown (host := "") (Or.inl (hwi hw 24 rfl)) Via.refl e0 F3 (g := (mkF m 1 #[rv a, iv (cf t), .val (.double (FP.l2d (kf t))), .second, .unset, .unset] [(.ref a)])) rfl rfl (hb hby d2_1)
  refine go s50 ?_
  show Ends p e below _ T50 (mkF m 4 #[rv a, iv (cf t), .val (.double (FP.l2d (kf t))), .second, .unset, .unset] [(.int (1 : Int32))])
  refine go (fun _ => XS.aloadN X50.here hx rfl (hb hby d2_4) rfl rfl) ?_
  show Ends p e below _ T50 (mkF m 5 #[rv a, iv (cf t), .val (.double (FP.l2d (kf t))), .second, .unset, .unset] [(.ref a), (.int (1 : Int32))])
  obtain ⟨T51, X51, e51, s51⟩ := getF X50 hx hZ hown (host := "") (Or.inl (hwi hw 14 rfl)) Via.refl e50 F1 (g := (mkF m 5 #[rv a, iv (cf t), .val (.double (FP.l2d (kf t))), .second, .unset, .unset] [(.ref a), (.int (1 : Int32))])) rfl rfl (hb hby d2_5)
  refine go s51 ?_
  show Ends p e below _ T51 (mkF m 8 #[rv a, iv (cf t), .val (.double (FP.l2d (kf t))), .second, .unset, .unset] [(.ref ac), (.int (1 : Int32))])
  obtain ⟨cl52, A52, -, S52, M52, -⟩ := id Vc
  refine go (fun _ => X51.arraylength hx (cell := cl52) (by rw [e51]; exact A52.1) (State.isArrayOf_alike hZ.alike A52.2.1) (g := (mkF m 8 #[rv a, iv (cf t), .val (.double (FP.l2d (kf t))), .second, .unset, .unset] [(.ref ac), (.int (1 : Int32))])) rfl rfl (hb hby d2_8) _) ?_
  rw [len_of S52 M52]
  show Ends p e below _ T51 (mkF m 9 #[rv a, iv (cf t), .val (.double (FP.l2d (kf t))), .second, .unset, .unset] [(.int (1024 : Int32)), (.int (1 : Int32))])
  refine go (fun _ => XS.icmpYes X51.here hx rfl (pc0 := 9) (pc' := 46) rfl (hb hby d2_9) rfl (XT.ii_ne_t ((by decide) : ¬ ((1 : Int32) = (1024 : Int32)))) (by decide) (by decide)) ?_
  show Ends p e below _ T51 (mkF m 46 #[rv a, iv (cf t), .val (.double (FP.l2d (kf t))), .second, .unset, .unset] [])
  refine go (fun _ => XS.aloadN X51.here hx rfl (hb hby d2_46) rfl rfl) ?_
  refine go (fun _ => XS.dup X51.here hx rfl (hb hby d2_47) rfl rfl) ?_
  show Ends p e below _ T51 (mkF m 48 #[rv a, iv (cf t), .val (.double (FP.l2d (kf t))), .second, .unset, .unset] [(.ref a), (.ref a)])
  obtain ⟨T53, X53, e53, s53⟩ := getF X51 hx hZ hown (host := "") (Or.inl (hwi hw 24 rfl)) Via.refl e51 F3 (g := (mkF m 48 #[rv a, iv (cf t), .val (.double (FP.l2d (kf t))), .second, .unset, .unset] [(.ref a), (.ref a)])) rfl rfl (hb hby d2_48)
  refine go s53 ?_
  show Ends p e below _ T53 (mkF m 51 #[rv a, iv (cf t), .val (.double (FP.l2d (kf t))), .second, .unset, .unset] [(.int (1 : Int32)), (.ref a)])
  refine go (fun _ => XT.dupX1 X53.here hx rfl (hb hby d2_51) rfl rfl rfl) ?_
  show Ends p e below _ T53 (mkF m 52 #[rv a, iv (cf t), .val (.double (FP.l2d (kf t))), .second, .unset, .unset] [(.int (1 : Int32)), (.ref a), (.int (1 : Int32))])
  refine go (fun _ => XT.iconstV X53.here hx rfl (1 : Int32) (hb hby d2_52) (by decide)) ?_
  refine go (fun _ => XS.iadd X53.here hx rfl (hb hby d2_53) rfl) ?_
  show Ends p e below _ T53 (mkF m 54 #[rv a, iv (cf t), .val (.double (FP.l2d (kf t))), .second, .unset, .unset] [(.int (2 : Int32)), (.ref a), (.int (1 : Int32))])
  obtain ⟨T54, h54, X54, e54, W54, s54⟩ := putF X53 hx hZ hown (host := "") (Or.inl (hwi hw 24 rfl)) Via.refl e53 F3 E0 (Or.inl (hwi hw 25 rfl)) (hwi hw 6 rfl) (ty := .int) (by decide) rfl rfl (g := (mkF m 54 #[rv a, iv (cf t), .val (.double (FP.l2d (kf t))), .second, .unset, .unset] [(.int (2 : Int32)), (.ref a), (.int (1 : Int32))])) rfl rfl (hb hby d2_54)
  have N54 := Fr.snoc X54 (Fr.nil _) f0
  have O55 : Ext Z.heap h54 := xw O0 W54 f0
  refine go s54 ?_
  show Ends p e below _ T54 (mkF m 57 #[rv a, iv (cf t), .val (.double (FP.l2d (kf t))), .second, .unset, .unset] [(.int (1 : Int32))])
  refine go (fun _ => XS.istore X54.here hx rfl (hb hby d2_57) rfl (l' := #[rv a, iv (cf t), .val (.double (FP.l2d (kf t))), .second, iv (1 : Int32), .unset]) rfl) ?_
  refine go (fun _ => XS.iload X54.here hx rfl (hb hby d2_59) rfl) ?_
  show Ends p e below _ T54 (mkF m 61 #[rv a, iv (cf t), .val (.double (FP.l2d (kf t))), .second, iv (1 : Int32), .unset] [(.int (1 : Int32))])
  refine go (fun _ => XS.ifNo X54.here hx rfl (hb hby d2_61) rfl (XT.i0_le_f ((by decide) : (0 : Int32) < (1 : Int32)))) ?_
  show Ends p e below _ T54 (mkF m 64 #[rv a, iv (cf t), .val (.double (FP.l2d (kf t))), .second, iv (1 : Int32), .unset] [])
  refine go (fun _ => XS.iload X54.here hx rfl (hb hby d2_64) rfl) ?_
  refine go (fun _ => XT.iconstV X54.here hx rfl (1 : Int32) (hb hby d2_66) (by decide)) ?_
  refine go (fun _ => XS.isub X54.here hx rfl (hb hby d2_67) rfl) ?_
  refine go (fun _ => XT.iconstV X54.here hx rfl (2 : Int32) (hb hby d2_68) (by decide)) ?_
  show Ends p e below _ T54 (mkF m 69 #[rv a, iv (cf t), .val (.double (FP.l2d (kf t))), .second, iv (1 : Int32), .unset] [(.int (2 : Int32)), (.int (0 : Int32))])
  refine go (fun _ => XS.idiv X54.here hx rfl (hb hby d2_69) rfl (by decide)) ?_
  show Ends p e below _ T54 (mkF m 70 #[rv a, iv (cf t), .val (.double (FP.l2d (kf t))), .second, iv (1 : Int32), .unset] [(.int (0 : Int32))])
  refine go (fun _ => XS.istore X54.here hx rfl (hb hby d2_70) rfl (l' := #[rv a, iv (cf t), .val (.double (FP.l2d (kf t))), .second, iv (1 : Int32), iv (0 : Int32)]) rfl) ?_
  refine go (fun _ => XS.aloadN X54.here hx rfl (hb hby d2_72) rfl rfl) ?_
  show Ends p e below _ T54 (mkF m 73 #[rv a, iv (cf t), .val (.double (FP.l2d (kf t))), .second, iv (1 : Int32), iv (0 : Int32)] [(.ref a)])
  have F56 := (Fld.other W54 F2 (Or.inr (slot_ne (a0 := a0) (Or.inl (hwi hw 18 rfl)) (Or.inl (hwi hw 25 rfl)) (by decide) (t := (.array .double)) (t' := .int) (by decide) (by decide))))
  obtain ⟨T57, X57, e57, s57⟩ := getF X54 hx hZ hown (host := "") (Or.inl (hwi hw 17 rfl)) Via.refl e54 F56 (g := (mkF m 73 #[rv a, iv (cf t), .val (.double (FP.l2d (kf t))), .second, iv (1 : Int32), iv (0 : Int32)] [(.ref a)])) rfl rfl (hb hby d2_73)
  refine go s57 ?_
  show Ends p e below _ T57 (mkF m 76 #[rv a, iv (cf t), .val (.double (FP.l2d (kf t))), .second, iv (1 : Int32), iv (0 : Int32)] [(.ref ak)])
  refine go (fun _ => XS.iload X57.here hx rfl (hb hby d2_76) rfl) ?_
  show Ends p e below _ T57 (mkF m 78 #[rv a, iv (cf t), .val (.double (FP.l2d (kf t))), .second, iv (1 : Int32), iv (0 : Int32)] [(.int (0 : Int32)), (.ref ak)])
  have F58 := (Arv.other Vk W54 (Ne.symm n2))
  obtain ⟨cl59, A59, -, S59, M59, H59, -⟩ := id F58
  have B59 := inb_of S59 (j := (0 : Int32)) (by decide)
  refine go (fun _ => X57.daload hx (j := (0 : Int32)) (v := (.double (FP.l2d (kf q.a)))) (by rw [e57]; exact A59.1) (State.isArrayOf_alike hZ.alike A59.2.1) A59.2.2 B59 (H59.at B59 rfl) (g := (mkF m 78 #[rv a, iv (cf t), .val (.double (FP.l2d (kf t))), .second, iv (1 : Int32), iv (0 : Int32)] [(.int (0 : Int32)), (.ref ak)])) rfl rfl (hb hby d2_78) _) ?_
  show Ends p e below _ T57 (mkF m 79 #[rv a, iv (cf t), .val (.double (FP.l2d (kf t))), .second, iv (1 : Int32), iv (0 : Int32)] [(.double (FP.l2d (kf q.a)))])
  refine go (fun _ => XS.dloadN X57.here hx rfl (hb hby d2_79) rfl) ?_
  show Ends p e below _ T57 (mkF m 80 #[rv a, iv (cf t), .val (.double (FP.l2d (kf t))), .second, iv (1 : Int32), iv (0 : Int32)] [(.double (FP.l2d (kf t))), (.double (FP.l2d (kf q.a)))])
  refine go (fun _ => XS.dcmpS X57.here hx rfl (hb hby d2_80) rfl ((dcmpV_w (hB _) (hB _) _).trans (own_lw _ _))) ?_
  show Ends p e below _ T57 (mkF m 81 #[rv a, iv (cf t), .val (.double (FP.l2d (kf t))), .second, iv (1 : Int32), iv (0 : Int32)] [(.int (XT.cmpL (kf q.a) (kf t)))])
  by_cases c81_60 : (kf t) < (kf q.a)
  · refine go (fun _ => XS.ifYes X57.here hx rfl (pc0 := 81) (pc' := 87) rfl (hb hby d2_81) rfl (XT.ll_gt_t c81_60) (by decide) (by decide)) ?_
    show Ends p e below _ T57 (mkF m 87 #[rv a, iv (cf t), .val (.double (FP.l2d (kf t))), .second, iv (1 : Int32), iv (0 : Int32)] [])
    refine go (fun _ => XS.aloadN X57.here hx rfl (hb hby d2_87) rfl rfl) ?_
    show Ends p e below _ T57 (mkF m 88 #[rv a, iv (cf t), .val (.double (FP.l2d (kf t))), .second, iv (1 : Int32), iv (0 : Int32)] [(.ref a)])
    have F61 := (Fld.other W54 F1 (Or.inr (slot_ne (a0 := a0) (Or.inl (hwi hw 15 rfl)) (Or.inl (hwi hw 25 rfl)) (by decide) (t := (.array .int)) (t' := .int) (by decide) (by decide))))
    obtain ⟨T62, X62, e62, s62⟩ := getF X57 hx hZ hown (host := "") (Or.inl (hwi hw 14 rfl)) Via.refl e57 F61 (g := (mkF m 88 #[rv a, iv (cf t), .val (.double (FP.l2d (kf t))), .second, iv (1 : Int32), iv (0 : Int32)] [(.ref a)])) rfl rfl (hb hby d2_88)
    refine go s62 ?_
    show Ends p e below _ T62 (mkF m 91 #[rv a, iv (cf t), .val (.double (FP.l2d (kf t))), .second, iv (1 : Int32), iv (0 : Int32)] [(.ref ac)])
    refine go (fun _ => XS.iload X62.here hx rfl (hb hby d2_91) rfl) ?_
    refine go (fun _ => XS.aloadN X62.here hx rfl (hb hby d2_93) rfl rfl) ?_
    show Ends p e below _ T62 (mkF m 94 #[rv a, iv (cf t), .val (.double (FP.l2d (kf t))), .second, iv (1 : Int32), iv (0 : Int32)] [(.ref a), (.int (1 : Int32)), (.ref ac)])
    obtain ⟨T63, X63, e63, s63⟩ := getF X62 hx hZ hown (host := "") (Or.inl (hwi hw 14 rfl)) Via.refl e62 F61 (g := (mkF m 94 #[rv a, iv (cf t), .val (.double (FP.l2d (kf t))), .second, iv (1 : Int32), iv (0 : Int32)] [(.ref a), (.int (1 : Int32)), (.ref ac)])) rfl rfl (hb hby d2_94)
    refine go s63 ?_
    show Ends p e below _ T63 (mkF m 97 #[rv a, iv (cf t), .val (.double (FP.l2d (kf t))), .second, iv (1 : Int32), iv (0 : Int32)] [(.ref ac), (.int (1 : Int32)), (.ref ac)])
    refine go (fun _ => XS.iload X63.here hx rfl (hb hby d2_97) rfl) ?_
    show Ends p e below _ T63 (mkF m 99 #[rv a, iv (cf t), .val (.double (FP.l2d (kf t))), .second, iv (1 : Int32), iv (0 : Int32)] [(.int (0 : Int32)), (.ref ac), (.int (1 : Int32)), (.ref ac)])
    have F64 := (Arv.other Vc W54 (Ne.symm n1))
    obtain ⟨cl65, A65, -, S65, M65, H65, -⟩ := id F64
    have B65 := inb_of S65 (j := (0 : Int32)) (by decide)
    refine go (fun _ => X63.iaload hx (j := (0 : Int32)) (v := (.int (cf q.a))) (by rw [e63]; exact A65.1) (State.isArrayOf_alike hZ.alike A65.2.1) A65.2.2 B65 (H65.at B65 rfl) (g := (mkF m 99 #[rv a, iv (cf t), .val (.double (FP.l2d (kf t))), .second, iv (1 : Int32), iv (0 : Int32)] [(.int (0 : Int32)), (.ref ac), (.int (1 : Int32)), (.ref ac)])) rfl rfl (hb hby d2_99) _) ?_
    show Ends p e below _ T63 (mkF m 100 #[rv a, iv (cf t), .val (.double (FP.l2d (kf t))), .second, iv (1 : Int32), iv (0 : Int32)] [(.int (cf q.a)), (.int (1 : Int32)), (.ref ac)])
    obtain ⟨cl66, A66, q66, S66, M66, H66, G66⟩ := id F64
    obtain ⟨T66, h66, X66, e66, W66, s66⟩ := stI X63 hx hZ e63 A66 (j := (1 : Int32)) (inb_of S66 (by decide)) (g := (mkF m 100 #[rv a, iv (cf t), .val (.double (FP.l2d (kf t))), .second, iv (1 : Int32), iv (0 : Int32)] [(.int (cf q.a)), (.int (1 : Int32)), (.ref ac)])) rfl rfl (hb hby d2_100)
    have N66 := Fr.snoc X66 N54 fc
    have O67 : Ext Z.heap h66 := xw O55 W66 fc
    have V66 : Arv Z h66 ac kc .int (1024 : Int32) [(.int (cf q.a)), (.int (cf q.a)), (.int (cf q.c)), (.int (cf q.d)), (.int (cf q.e))] (.int 0) := Arv.set A66 q66 S66 M66 H66 G66 rfl W66 1 (by decide) (Nat.le_of_ble_eq_true rfl)
    refine go s66 ?_
    show Ends p e below _ T66 (mkF m 101 #[rv a, iv (cf t), .val (.double (FP.l2d (kf t))), .second, iv (1 : Int32), iv (0 : Int32)] [])
    refine go (fun _ => XS.aloadN X66.here hx rfl (hb hby d2_101) rfl rfl) ?_
    show Ends p e below _ T66 (mkF m 102 #[rv a, iv (cf t), .val (.double (FP.l2d (kf t))), .second, iv (1 : Int32), iv (0 : Int32)] [(.ref a)])
    have F68 := (Fld.other W66 F56 (Or.inl n1))
    obtain ⟨T69, X69, e69, s69⟩ := getF X66 hx hZ hown (host := "") (Or.inl (hwi hw 17 rfl)) Via.refl e66 F68 (g := (mkF m 102 #[rv a, iv (cf t), .val (.double (FP.l2d (kf t))), .second, iv (1 : Int32), iv (0 : Int32)] [(.ref a)])) rfl rfl (hb hby d2_102)
    refine go s69 ?_
    show Ends p e below _ T69 (mkF m 105 #[rv a, iv (cf t), .val (.double (FP.l2d (kf t))), .second, iv (1 : Int32), iv (0 : Int32)] [(.ref ak)])
    refine go (fun _ => XS.iload X69.here hx rfl (hb hby d2_105) rfl) ?_
    refine go (fun _ => XS.aloadN X69.here hx rfl (hb hby d2_107) rfl rfl) ?_
    show Ends p e below _ T69 (mkF m 108 #[rv a, iv (cf t), .val (.double (FP.l2d (kf t))), .second, iv (1 : Int32), iv (0 : Int32)] [(.ref a), (.int (1 : Int32)), (.ref ak)])
    obtain ⟨T70, X70, e70, s70⟩ := getF X69 hx hZ hown (host := "") (Or.inl (hwi hw 17 rfl)) Via.refl e69 F68 (g := (mkF m 108 #[rv a, iv (cf t), .val (.double (FP.l2d (kf t))), .second, iv (1 : Int32), iv (0 : Int32)] [(.ref a), (.int (1 : Int32)), (.ref ak)])) rfl rfl (hb hby d2_108)
    refine go s70 ?_
    show Ends p e below _ T70 (mkF m 111 #[rv a, iv (cf t), .val (.double (FP.l2d (kf t))), .second, iv (1 : Int32), iv (0 : Int32)] [(.ref ak), (.int (1 : Int32)), (.ref ak)])
    refine go (fun _ => XS.iload X70.here hx rfl (hb hby d2_111) rfl) ?_
    show Ends p e below _ T70 (mkF m 113 #[rv a, iv (cf t), .val (.double (FP.l2d (kf t))), .second, iv (1 : Int32), iv (0 : Int32)] [(.int (0 : Int32)), (.ref ak), (.int (1 : Int32)), (.ref ak)])
    have F71 := (Arv.other F58 W66 (Ne.symm n3))
    obtain ⟨cl72, A72, -, S72, M72, H72, -⟩ := id F71
    have B72 := inb_of S72 (j := (0 : Int32)) (by decide)
    refine go (fun _ => X70.daload hx (j := (0 : Int32)) (v := (.double (FP.l2d (kf q.a)))) (by rw [e70]; exact A72.1) (State.isArrayOf_alike hZ.alike A72.2.1) A72.2.2 B72 (H72.at B72 rfl) (g := (mkF m 113 #[rv a, iv (cf t), .val (.double (FP.l2d (kf t))), .second, iv (1 : Int32), iv (0 : Int32)] [(.int (0 : Int32)), (.ref ak), (.int (1 : Int32)), (.ref ak)])) rfl rfl (hb hby d2_113) _) ?_
    show Ends p e below _ T70 (mkF m 114 #[rv a, iv (cf t), .val (.double (FP.l2d (kf t))), .second, iv (1 : Int32), iv (0 : Int32)] [(.double (FP.l2d (kf q.a))), (.int (1 : Int32)), (.ref ak)])
    obtain ⟨cl73, A73, q73, S73, M73, H73, G73⟩ := id F71
    obtain ⟨T73, h73, X73, e73, W73, s73⟩ := stD X70 hx hZ e70 A73 (j := (1 : Int32)) (inb_of S73 (by decide)) (g := (mkF m 114 #[rv a, iv (cf t), .val (.double (FP.l2d (kf t))), .second, iv (1 : Int32), iv (0 : Int32)] [(.double (FP.l2d (kf q.a))), (.int (1 : Int32)), (.ref ak)])) rfl rfl (hb hby d2_114)
    have N73 := Fr.snoc X73 N66 fk
    have O74 : Ext Z.heap h73 := xw O67 W73 fk
    have V73 : Arv Z h73 ak kk .double (1024 : Int32) [(.double (FP.l2d (kf q.a))), (.double (FP.l2d (kf q.a))), (.double (FP.l2d (kf q.c))), (.double (FP.l2d (kf q.d))), (.double (FP.l2d (kf q.e)))] (.double (FP.l2d 0)) := Arv.set A73 q73 S73 M73 H73 G73 rfl W73 1 (by decide) (Nat.le_of_ble_eq_true rfl)
    refine go s73 ?_
    show Ends p e below _ T73 (mkF m 115 #[rv a, iv (cf t), .val (.double (FP.l2d (kf t))), .second, iv (1 : Int32), iv (0 : Int32)] [])
    refine go (fun _ => XS.iload X73.here hx rfl (hb hby d2_115) rfl) ?_
    refine go (fun _ => XS.istore X73.here hx rfl (hb hby d2_117) rfl (l' := #[rv a, iv (cf t), .val (.double (FP.l2d (kf t))), .second, iv (0 : Int32), iv (0 : Int32)]) rfl) ?_
    refine go (fun _ => XS.goto X73.here hx rfl (pc0 := 119) (pc' := 59) rfl (hb hby d2_119) (by decide) (by decide)) ?_
    refine go (fun _ => XS.iload X73.here hx rfl (hb hby d2_59) rfl) ?_
    show Ends p e below _ T73 (mkF m 61 #[rv a, iv (cf t), .val (.double (FP.l2d (kf t))), .second, iv (0 : Int32), iv (0 : Int32)] [(.int (0 : Int32))])
    refine go (fun _ => XS.ifYes X73.here hx rfl (pc0 := 61) (pc' := 122) rfl (hb hby d2_61) rfl (XT.i0_le_t ((by decide) : ¬ ((0 : Int32) < (0 : Int32)))) (by decide) (by decide)) ?_
    show Ends p e below _ T73 (mkF m 122 #[rv a, iv (cf t), .val (.double (FP.l2d (kf t))), .second, iv (0 : Int32), iv (0 : Int32)] [])
    refine go (fun _ => XS.aloadN X73.here hx rfl (hb hby d2_122) rfl rfl) ?_
    show Ends p e below _ T73 (mkF m 123 #[rv a, iv (cf t), .val (.double (FP.l2d (kf t))), .second, iv (0 : Int32), iv (0 : Int32)] [(.ref a)])
    have F75 := (Fld.other W73 (Fld.other W66 F61 (Or.inl n1)) (Or.inl n2))
    obtain ⟨T76, X76, e76, s76⟩ := getF X73 hx hZ hown (host := "") (Or.inl (hwi hw 14 rfl)) Via.refl e73 F75 (g := (mkF m 123 #[rv a, iv (cf t), .val (.double (FP.l2d (kf t))), .second, iv (0 : Int32), iv (0 : Int32)] [(.ref a)])) rfl rfl (hb hby d2_123)
    refine go s76 ?_
    show Ends p e below _ T76 (mkF m 126 #[rv a, iv (cf t), .val (.double (FP.l2d (kf t))), .second, iv (0 : Int32), iv (0 : Int32)] [(.ref ac)])
    refine go (fun _ => XS.iload X76.here hx rfl (hb hby d2_126) rfl) ?_
    refine go (fun _ => XS.iloadN X76.here hx rfl (hb hby d2_128) rfl) ?_
    show Ends p e below _ T76 (mkF m 129 #[rv a, iv (cf t), .val (.double (FP.l2d (kf t))), .second, iv (0 : Int32), iv (0 : Int32)] [(.int (cf t)), (.int (0 : Int32)), (.ref ac)])
    have F77 := (Arv.other V66 W73 n3)
    obtain ⟨cl78, A78, q78, S78, M78, H78, G78⟩ := id F77
    obtain ⟨T78, h78, X78, e78, W78, s78⟩ := stI X76 hx hZ e76 A78 (j := (0 : Int32)) (inb_of S78 (by decide)) (g := (mkF m 129 #[rv a, iv (cf t), .val (.double (FP.l2d (kf t))), .second, iv (0 : Int32), iv (0 : Int32)] [(.int (cf t)), (.int (0 : Int32)), (.ref ac)])) rfl rfl (hb hby d2_129)
    have N78 := Fr.snoc X78 N73 fc
    have O79 : Ext Z.heap h78 := xw O74 W78 fc
    have V78 : Arv Z h78 ac kc .int (1024 : Int32) [(.int (cf t)), (.int (cf q.a)), (.int (cf q.c)), (.int (cf q.d)), (.int (cf q.e))] (.int 0) := Arv.set A78 q78 S78 M78 H78 G78 rfl W78 0 (by decide) (Nat.le_of_ble_eq_true rfl)
    refine go s78 ?_
    show Ends p e below _ T78 (mkF m 130 #[rv a, iv (cf t), .val (.double (FP.l2d (kf t))), .second, iv (0 : Int32), iv (0 : Int32)] [])
    refine go (fun _ => XS.aloadN X78.here hx rfl (hb hby d2_130) rfl rfl) ?_
    show Ends p e below _ T78 (mkF m 131 #[rv a, iv (cf t), .val (.double (FP.l2d (kf t))), .second, iv (0 : Int32), iv (0 : Int32)] [(.ref a)])
    have F80 := (Fld.other W78 (Fld.other W73 F68 (Or.inl n2)) (Or.inl n1))
    obtain ⟨T81, X81, e81, s81⟩ := getF X78 hx hZ hown (host := "") (Or.inl (hwi hw 17 rfl)) Via.refl e78 F80 (g := (mkF m 131 #[rv a, iv (cf t), .val (.double (FP.l2d (kf t))), .second, iv (0 : Int32), iv (0 : Int32)] [(.ref a)])) rfl rfl (hb hby d2_131)
    refine go s81 ?_
    show Ends p e below _ T81 (mkF m 134 #[rv a, iv (cf t), .val (.double (FP.l2d (kf t))), .second, iv (0 : Int32), iv (0 : Int32)] [(.ref ak)])
    refine go (fun _ => XS.iload X81.here hx rfl (hb hby d2_134) rfl) ?_
    show Ends p e below _ T81 (mkF m 136 #[rv a, iv (cf t), .val (.double (FP.l2d (kf t))), .second, iv (0 : Int32), iv (0 : Int32)] [(.int (0 : Int32)), (.ref ak)])
    refine go (fun _ => XS.dloadN X81.here hx rfl (hb hby d2_136) rfl) ?_
    show Ends p e below _ T81 (mkF m 137 #[rv a, iv (cf t), .val (.double (FP.l2d (kf t))), .second, iv (0 : Int32), iv (0 : Int32)] [(.double (FP.l2d (kf t))), (.int (0 : Int32)), (.ref ak)])
    have F82 := (Arv.other V73 W78 (Ne.symm n3))
    obtain ⟨cl83, A83, q83, S83, M83, H83, G83⟩ := id F82
    obtain ⟨T83, h83, X83, e83, W83, s83⟩ := stD X81 hx hZ e81 A83 (j := (0 : Int32)) (inb_of S83 (by decide)) (g := (mkF m 137 #[rv a, iv (cf t), .val (.double (FP.l2d (kf t))), .second, iv (0 : Int32), iv (0 : Int32)] [(.double (FP.l2d (kf t))), (.int (0 : Int32)), (.ref ak)])) rfl rfl (hb hby d2_137)
    have N83 := Fr.snoc X83 N78 fk
    have O84 : Ext Z.heap h83 := xw O79 W83 fk
    have V83 : Arv Z h83 ak kk .double (1024 : Int32) [(.double (FP.l2d (kf t))), (.double (FP.l2d (kf q.a))), (.double (FP.l2d (kf q.c))), (.double (FP.l2d (kf q.d))), (.double (FP.l2d (kf q.e)))] (.double (FP.l2d 0)) := Arv.set A83 q83 S83 M83 H83 G83 rfl W83 0 (by decide) (Nat.le_of_ble_eq_true rfl)
    refine go s83 ?_
    show Ends p e below _ T83 (mkF m 138 #[rv a, iv (cf t), .val (.double (FP.l2d (kf t))), .second, iv (0 : Int32), iv (0 : Int32)] [])
    have u85 : lt t q.a = true := (hlt _ _ ht hqa).mpr c81_60
    have z86 : qn = (⟨t, q.a, q.c, q.d, q.e⟩ : L5) := hqn.symm.trans (by simp only [hpush1, u85, if_true, if_false, Bool.false_eq_true])
    have F87 := (Arv.other V78 W83 n3)
    have K88 : Keep h0 h83 [a, ac, ak] := (Keep.wr (Keep.wr (Keep.wr (Keep.wr (Keep.wr (Keep.refl _ _) W54 (Or.inl (List.mem_of_getElem? (i := 0) rfl))) W66 (Or.inl (List.mem_of_getElem? (i := 1) rfl))) W73 (Or.inl (List.mem_of_getElem? (i := 2) rfl))) W78 (Or.inl (List.mem_of_getElem? (i := 1) rfl))) W83 (Or.inl (List.mem_of_getElem? (i := 2) rfl)))
    have F89 := (Fld.other W83 (Fld.other W78 F75 (Or.inl n1)) (Or.inl n2))
    have F90 := (Fld.other W83 F80 (Or.inl n2))
    have F91 := (Fld.other W83 (Fld.other W78 (Fld.other W73 (Fld.other W66 (Fld.same W54 F3) (Or.inl n1)) (Or.inl n2)) (Or.inl n1)) (Or.inl n2))
    exact endV X83 hx hret (hb hby d2_138) (lvN X83 hlk e83 (fun _ => rfl) ⟨rfl, N83, K88, F89, F90, F91, by rw [z86]; exact F87, by rw [z86]; exact V83⟩ (by decide) (by decide))
  · refine go (fun _ => XS.ifNo X57.here hx rfl (hb hby d2_81) rfl (XT.ll_gt_f c81_60)) ?_
    show Ends p e below _ T57 (mkF m 84 #[rv a, iv (cf t), .val (.double (FP.l2d (kf t))), .second, iv (1 : Int32), iv (0 : Int32)] [])
    refine go (fun _ => XS.goto X57.here hx rfl (pc0 := 84) (pc' := 122) rfl (hb hby d2_84) (by decide) (by decide)) ?_
    refine go (fun _ => XS.aloadN X57.here hx rfl (hb hby d2_122) rfl rfl) ?_
    show Ends p e below _ T57 (mkF m 123 #[rv a, iv (cf t), .val (.double (FP.l2d (kf t))), .second, iv (1 : Int32), iv (0 : Int32)] [(.ref a)])
    have F92 := (Fld.other W54 F1 (Or.inr (slot_ne (a0 := a0) (Or.inl (hwi hw 15 rfl)) (Or.inl (hwi hw 25 rfl)) (by decide) (t := (.array .int)) (t' := .int) (by decide) (by decide))))
    obtain ⟨T93, X93, e93, s93⟩ := getF X57 hx hZ hown (host := "") (Or.inl (hwi hw 14 rfl)) Via.refl e57 F92 (g := (mkF m 123 #[rv a, iv (cf t), .val (.double (FP.l2d (kf t))), .second, iv (1 : Int32), iv (0 : Int32)] [(.ref a)])) rfl rfl (hb hby d2_123)
    refine go s93 ?_
    show Ends p e below _ T93 (mkF m 126 #[rv a, iv (cf t), .val (.double (FP.l2d (kf t))), .second, iv (1 : Int32), iv (0 : Int32)] [(.ref ac)])
    refine go (fun _ => XS.iload X93.here hx rfl (hb hby d2_126) rfl) ?_
    refine go (fun _ => XS.iloadN X93.here hx rfl (hb hby d2_128) rfl) ?_
    show Ends p e below _ T93 (mkF m 129 #[rv a, iv (cf t), .val (.double (FP.l2d (kf t))), .second, iv (1 : Int32), iv (0 : Int32)] [(.int (cf t)), (.int (1 : Int32)), (.ref ac)])
    have F94 := (Arv.other Vc W54 (Ne.symm n1))
    obtain ⟨cl95, A95, q95, S95, M95, H95, G95⟩ := id F94
    obtain ⟨T95, h95, X95, e95, W95, s95⟩ := stI X93 hx hZ e93 A95 (j := (1 : Int32)) (inb_of S95 (by decide)) (g := (mkF m 129 #[rv a, iv (cf t), .val (.double (FP.l2d (kf t))), .second, iv (1 : Int32), iv (0 : Int32)] [(.int (cf t)), (.int (1 : Int32)), (.ref ac)])) rfl rfl (hb hby d2_129)
    have N95 := Fr.snoc X95 N54 fc
    have O96 : Ext Z.heap h95 := xw O55 W95 fc
    have V95 : Arv Z h95 ac kc .int (1024 : Int32) [(.int (cf q.a)), (.int (cf t)), (.int (cf q.c)), (.int (cf q.d)), (.int (cf q.e))] (.int 0) := Arv.set A95 q95 S95 M95 H95 G95 rfl W95 1 (by decide) (Nat.le_of_ble_eq_true rfl)
    refine go s95 ?_
    show Ends p e below _ T95 (mkF m 130 #[rv a, iv (cf t), .val (.double (FP.l2d (kf t))), .second, iv (1 : Int32), iv (0 : Int32)] [])
    refine go (fun _ => XS.aloadN X95.here hx rfl (hb hby d2_130) rfl rfl) ?_
    show Ends p e below _ T95 (mkF m 131 #[rv a, iv (cf t), .val (.double (FP.l2d (kf t))), .second, iv (1 : Int32), iv (0 : Int32)] [(.ref a)])
    have F97 := (Fld.other W95 F56 (Or.inl n1))
    obtain ⟨T98, X98, e98, s98⟩ := getF X95 hx hZ hown (host := "") (Or.inl (hwi hw 17 rfl)) Via.refl e95 F97 (g := (mkF m 131 #[rv a, iv (cf t), .val (.double (FP.l2d (kf t))), .second, iv (1 : Int32), iv (0 : Int32)] [(.ref a)])) rfl rfl (hb hby d2_131)
    refine go s98 ?_
    show Ends p e below _ T98 (mkF m 134 #[rv a, iv (cf t), .val (.double (FP.l2d (kf t))), .second, iv (1 : Int32), iv (0 : Int32)] [(.ref ak)])
    refine go (fun _ => XS.iload X98.here hx rfl (hb hby d2_134) rfl) ?_
    show Ends p e below _ T98 (mkF m 136 #[rv a, iv (cf t), .val (.double (FP.l2d (kf t))), .second, iv (1 : Int32), iv (0 : Int32)] [(.int (1 : Int32)), (.ref ak)])
    refine go (fun _ => XS.dloadN X98.here hx rfl (hb hby d2_136) rfl) ?_
    show Ends p e below _ T98 (mkF m 137 #[rv a, iv (cf t), .val (.double (FP.l2d (kf t))), .second, iv (1 : Int32), iv (0 : Int32)] [(.double (FP.l2d (kf t))), (.int (1 : Int32)), (.ref ak)])
    have F99 := (Arv.other F58 W95 (Ne.symm n3))
    obtain ⟨cl100, A100, q100, S100, M100, H100, G100⟩ := id F99
    obtain ⟨T100, h100, X100, e100, W100, s100⟩ := stD X98 hx hZ e98 A100 (j := (1 : Int32)) (inb_of S100 (by decide)) (g := (mkF m 137 #[rv a, iv (cf t), .val (.double (FP.l2d (kf t))), .second, iv (1 : Int32), iv (0 : Int32)] [(.double (FP.l2d (kf t))), (.int (1 : Int32)), (.ref ak)])) rfl rfl (hb hby d2_137)
    have N100 := Fr.snoc X100 N95 fk
    have O101 : Ext Z.heap h100 := xw O96 W100 fk
    have V100 : Arv Z h100 ak kk .double (1024 : Int32) [(.double (FP.l2d (kf q.a))), (.double (FP.l2d (kf t))), (.double (FP.l2d (kf q.c))), (.double (FP.l2d (kf q.d))), (.double (FP.l2d (kf q.e)))] (.double (FP.l2d 0)) := Arv.set A100 q100 S100 M100 H100 G100 rfl W100 1 (by decide) (Nat.le_of_ble_eq_true rfl)
    refine go s100 ?_
    show Ends p e below _ T100 (mkF m 138 #[rv a, iv (cf t), .val (.double (FP.l2d (kf t))), .second, iv (1 : Int32), iv (0 : Int32)] [])
    have u102 : ¬ lt t q.a = true := fun z => c81_60 ((hlt _ _ ht hqa).mp z)
    have z103 : qn = (⟨q.a, t, q.c, q.d, q.e⟩ : L5) := hqn.symm.trans (by simp only [hpush1, u102, if_true, if_false, Bool.false_eq_true])
    have F104 := (Arv.other V95 W100 n3)
    have K105 : Keep h0 h100 [a, ac, ak] := (Keep.wr (Keep.wr (Keep.wr (Keep.refl _ _) W54 (Or.inl (List.mem_of_getElem? (i := 0) rfl))) W95 (Or.inl (List.mem_of_getElem? (i := 1) rfl))) W100 (Or.inl (List.mem_of_getElem? (i := 2) rfl)))
    have F106 := (Fld.other W100 (Fld.other W95 F92 (Or.inl n1)) (Or.inl n2))
    have F107 := (Fld.other W100 F97 (Or.inl n2))
    have F108 := (Fld.other W100 (Fld.other W95 (Fld.same W54 F3) (Or.inl n1)) (Or.inl n2))
    exact endV X100 hx hret (hb hby d2_138) (lvN X100 hlk e100 (fun _ => rfl) ⟨rfl, N100, K105, F106, F107, F108, by rw [z103]; exact F104, by rw [z103]; exact V100⟩ (by decide) (by decide))
set_option maxRecDepth 65536 in
set_option maxHeartbeats 40000000 in
theorem rm_push2 {l : Launch} {Z : State} {a0 : Array Value} (hw : ∀ d ∈ tables_1, d.before a0 Z = true) (a ac ak : Addr) (kc kk : ClassId) (cf : Nat → Int32) (kf : Nat → Int64) (lt : Nat → Nat → Bool) (q qn : L5) (t : Nat) (h0 : Heap) (O0 : Ext Z.heap h0) (f0 : Z.heap.size ≤ a) (fc : Z.heap.size ≤ ac) (fk : Z.heap.size ≤ ak) (n1 : a ≠ ac) (n2 : a ≠ ak) (n3 : ac ≠ ak) (E0 : Exa Z h0 a "com/example/pedestrain/pedestrain/core/CellHeap") (F1 : Fld Z h0 a "com/example/pedestrain/pedestrain/core/CellHeap" "cells" "[I" (.ref ac)) (F2 : Fld Z h0 a "com/example/pedestrain/pedestrain/core/CellHeap" "keys" "[D" (.ref ak)) (F3 : Fld Z h0 a "com/example/pedestrain/pedestrain/core/CellHeap" "size" "I" (.int (2 : Int32))) (Vc : Arv Z h0 ac kc .int (1024 : Int32) [(.int (cf q.a)), (.int (cf q.b)), (.int (cf q.c)), (.int (cf q.d)), (.int (cf q.e))] (.int 0)) (Vk : Arv Z h0 ak kk .double (1024 : Int32) [(.double (FP.l2d (kf q.a))), (.double (FP.l2d (kf q.b))), (.double (FP.l2d (kf q.c))), (.double (FP.l2d (kf q.d))), (.double (FP.l2d (kf q.e)))] (.double (FP.l2d 0))) (hB : ∀ i, B53 (kf i)) (hlt : ∀ i j, i < 5 → j < 5 → (lt i j = true ↔ kf i < kf j)) (hqa : q.a < 5) (hqb : q.b < 5) (ht : t < 5) (hqn : hpush2 lt q t = qn) :
    Con l (⟨"com/example/pedestrain/pedestrain/core/CellHeap", "push", "(ID)V"⟩ : MethodName) prog_4_method_5_code 6 none ({ frames := 0, cells := 0, slots := 0, locals := 0 } : Room) Z #[(.ref a), (.int (cf t)), (.double (FP.l2d (kf t)))] h0 (fun v h L => v = none ∧ Fr Z.heap.size L ∧ Keep h0 h [a, ac, ak] ∧ Fld Z h a "com/example/pedestrain/pedestrain/core/CellHeap" "cells" "[I" (.ref ac) ∧ Fld Z h a "com/example/pedestrain/pedestrain/core/CellHeap" "keys" "[D" (.ref ak) ∧ Fld Z h a "com/example/pedestrain/pedestrain/core/CellHeap" "size" "I" (.int (3 : Int32)) ∧ Arv Z h ac kc .int (1024 : Int32) [(.int (cf qn.a)), (.int (cf qn.b)), (.int (cf qn.c)), (.int (cf qn.d)), (.int (cf qn.e))] (.int 0) ∧ Arv Z h ak kk .double (1024 : Int32) [(.double (FP.l2d (kf qn.a))), (.double (FP.l2d (kf qn.b))), (.double (FP.l2d (kf qn.c))), (.double (FP.l2d (kf qn.d))), (.double (FP.l2d (kf qn.e)))] (.double (FP.l2d 0))) := by
  refine Con.of (plainFor_of_name pn_1) (Ls := #[rv a, iv (cf t), .val (.double (FP.l2d (kf t))), .second, .unset, .unset]) (fun m => efOf rfl) ?_
  intro p e s m below meth c T0 X0 hx hZ hby hml hown hnm hret hlk e0
  refine go (fun _ => XS.aloadN X0.here hx rfl (hb hby d2_0) rfl rfl) ?_
  show Ends p e below _ T0 (mkF m 1 #[rv a, iv (cf t), .val (.double (FP.l2d (kf t))), .second, .unset, .unset] [(.ref a)])
  obtain ⟨T109, X109, e109, s109⟩ := getF X0 hx hZ hown (host := "") (Or.inl (hwi hw 24 rfl)) Via.refl e0 F3 (g := (mkF m 1 #[rv a, iv (cf t), .val (.double (FP.l2d (kf t))), .second, .unset, .unset] [(.ref a)])) rfl rfl (hb hby d2_1)
  refine go s109 ?_
  show Ends p e below _ T109 (mkF m 4 #[rv a, iv (cf t), .val (.double (FP.l2d (kf t))), .second, .unset, .unset] [(.int (2 : Int32))])
  refine go (fun _ => XS.aloadN X109.here hx rfl (hb hby d2_4) rfl rfl) ?_
  show Ends p e below _ T109 (mkF m 5 #[rv a, iv (cf t), .val (.double (FP.l2d (kf t))), .second, .unset, .unset] [(.ref a), (.int (2 : Int32))])
  obtain ⟨T110, X110, e110, s110⟩ := getF X109 hx hZ hown (host := "") (Or.inl (hwi hw 14 rfl)) Via.refl e109 F1 (g := (mkF m 5 #[rv a, iv (cf t), .val (.double (FP.l2d (kf t))), .second, .unset, .unset] [(.ref a), (.int (2 : Int32))])) rfl rfl (hb hby d2_5)
  refine go s110 ?_
  show Ends p e below _ T110 (mkF m 8 #[rv a, iv (cf t), .val (.double (FP.l2d (kf t))), .second, .unset, .unset] [(.ref ac), (.int (2 : Int32))])
  obtain ⟨cl111, A111, -, S111, M111, -⟩ := id Vc
  refine go (fun _ => X110.arraylength hx (cell := cl111) (by rw [e110]; exact A111.1) (State.isArrayOf_alike hZ.alike A111.2.1) (g := (mkF m 8 #[rv a, iv (cf t), .val (.double (FP.l2d (kf t))), .second, .unset, .unset] [(.ref ac), (.int (2 : Int32))])) rfl rfl (hb hby d2_8) _) ?_
  rw [len_of S111 M111]
  show Ends p e below _ T110 (mkF m 9 #[rv a, iv (cf t), .val (.double (FP.l2d (kf t))), .second, .unset, .unset] [(.int (1024 : Int32)), (.int (2 : Int32))])
  refine go (fun _ => XS.icmpYes X110.here hx rfl (pc0 := 9) (pc' := 46) rfl (hb hby d2_9) rfl (XT.ii_ne_t ((by decide) : ¬ ((2 : Int32) = (1024 : Int32)))) (by decide) (by decide)) ?_
  show Ends p e below _ T110 (mkF m 46 #[rv a, iv (cf t), .val (.double (FP.l2d (kf t))), .second, .unset, .unset] [])
  refine go (fun _ => XS.aloadN X110.here hx rfl (hb hby d2_46) rfl rfl) ?_
  refine go (fun _ => XS.dup X110.here hx rfl (hb hby d2_47) rfl rfl) ?_
  show Ends p e below _ T110 (mkF m 48 #[rv a, iv (cf t), .val (.double (FP.l2d (kf t))), .second, .unset, .unset] [(.ref a), (.ref a)])
  obtain ⟨T112, X112, e112, s112⟩ := getF X110 hx hZ hown (host := "") (Or.inl (hwi hw 24 rfl)) Via.refl e110 F3 (g := (mkF m 48 #[rv a, iv (cf t), .val (.double (FP.l2d (kf t))), .second, .unset, .unset] [(.ref a), (.ref a)])) rfl rfl (hb hby d2_48)
  refine go s112 ?_
  show Ends p e below _ T112 (mkF m 51 #[rv a, iv (cf t), .val (.double (FP.l2d (kf t))), .second, .unset, .unset] [(.int (2 : Int32)), (.ref a)])
  refine go (fun _ => XT.dupX1 X112.here hx rfl (hb hby d2_51) rfl rfl rfl) ?_
  show Ends p e below _ T112 (mkF m 52 #[rv a, iv (cf t), .val (.double (FP.l2d (kf t))), .second, .unset, .unset] [(.int (2 : Int32)), (.ref a), (.int (2 : Int32))])
  refine go (fun _ => XT.iconstV X112.here hx rfl (1 : Int32) (hb hby d2_52) (by decide)) ?_
  refine go (fun _ => XS.iadd X112.here hx rfl (hb hby d2_53) rfl) ?_
  show Ends p e below _ T112 (mkF m 54 #[rv a, iv (cf t), .val (.double (FP.l2d (kf t))), .second, .unset, .unset] [(.int (3 : Int32)), (.ref a), (.int (2 : Int32))])
  obtain ⟨T113, h113, X113, e113, W113, s113⟩ := putF X112 hx hZ hown (host := "") (Or.inl (hwi hw 24 rfl)) Via.refl e112 F3 E0 (Or.inl (hwi hw 25 rfl)) (hwi hw 6 rfl) (ty := .int) (by decide) rfl rfl (g := (mkF m 54 #[rv a, iv (cf t), .val (.double (FP.l2d (kf t))), .second, .unset, .unset] [(.int (3 : Int32)), (.ref a), (.int (2 : Int32))])) rfl rfl (hb hby d2_54)
  have N113 := Fr.snoc X113 (Fr.nil _) f0
  have O114 : Ext Z.heap h113 := xw O0 W113 f0
  refine go s113 ?_
  show Ends p e below _ T113 (mkF m 57 #[rv a, iv (cf t), .val (.double (FP.l2d (kf t))), .second, .unset, .unset] [(.int (2 : Int32))])
  refine go (fun _ => XS.istore X113.here hx rfl (hb hby d2_57) rfl (l' := #[rv a, iv (cf t), .val (.double (FP.l2d (kf t))), .second, iv (2 : Int32), .unset]) rfl) ?_
  refine go (fun _ => XS.iload X113.here hx rfl (hb hby d2_59) rfl) ?_
  show Ends p e below _ T113 (mkF m 61 #[rv a, iv (cf t), .val (.double (FP.l2d (kf t))), .second, iv (2 : Int32), .unset] [(.int (2 : Int32))])
  refine go (fun _ => XS.ifNo X113.here hx rfl (hb hby d2_61) rfl (XT.i0_le_f ((by decide) : (0 : Int32) < (2 : Int32)))) ?_
  show Ends p e below _ T113 (mkF m 64 #[rv a, iv (cf t), .val (.double (FP.l2d (kf t))), .second, iv (2 : Int32), .unset] [])
  refine go (fun _ => XS.iload X113.here hx rfl (hb hby d2_64) rfl) ?_
  refine go (fun _ => XT.iconstV X113.here hx rfl (1 : Int32) (hb hby d2_66) (by decide)) ?_
  refine go (fun _ => XS.isub X113.here hx rfl (hb hby d2_67) rfl) ?_
  refine go (fun _ => XT.iconstV X113.here hx rfl (2 : Int32) (hb hby d2_68) (by decide)) ?_
  show Ends p e below _ T113 (mkF m 69 #[rv a, iv (cf t), .val (.double (FP.l2d (kf t))), .second, iv (2 : Int32), .unset] [(.int (2 : Int32)), (.int (1 : Int32))])
  refine go (fun _ => XS.idiv X113.here hx rfl (hb hby d2_69) rfl (by decide)) ?_
  show Ends p e below _ T113 (mkF m 70 #[rv a, iv (cf t), .val (.double (FP.l2d (kf t))), .second, iv (2 : Int32), .unset] [(.int (0 : Int32))])
  refine go (fun _ => XS.istore X113.here hx rfl (hb hby d2_70) rfl (l' := #[rv a, iv (cf t), .val (.double (FP.l2d (kf t))), .second, iv (2 : Int32), iv (0 : Int32)]) rfl) ?_
  refine go (fun _ => XS.aloadN X113.here hx rfl (hb hby d2_72) rfl rfl) ?_
  show Ends p e below _ T113 (mkF m 73 #[rv a, iv (cf t), .val (.double (FP.l2d (kf t))), .second, iv (2 : Int32), iv (0 : Int32)] [(.ref a)])
  have F115 := (Fld.other W113 F2 (Or.inr (slot_ne (a0 := a0) (Or.inl (hwi hw 18 rfl)) (Or.inl (hwi hw 25 rfl)) (by decide) (t := (.array .double)) (t' := .int) (by decide) (by decide))))
  obtain ⟨T116, X116, e116, s116⟩ := getF X113 hx hZ hown (host := "") (Or.inl (hwi hw 17 rfl)) Via.refl e113 F115 (g := (mkF m 73 #[rv a, iv (cf t), .val (.double (FP.l2d (kf t))), .second, iv (2 : Int32), iv (0 : Int32)] [(.ref a)])) rfl rfl (hb hby d2_73)
  refine go s116 ?_
  show Ends p e below _ T116 (mkF m 76 #[rv a, iv (cf t), .val (.double (FP.l2d (kf t))), .second, iv (2 : Int32), iv (0 : Int32)] [(.ref ak)])
  refine go (fun _ => XS.iload X116.here hx rfl (hb hby d2_76) rfl) ?_
  show Ends p e below _ T116 (mkF m 78 #[rv a, iv (cf t), .val (.double (FP.l2d (kf t))), .second, iv (2 : Int32), iv (0 : Int32)] [(.int (0 : Int32)), (.ref ak)])
  have F117 := (Arv.other Vk W113 (Ne.symm n2))
  obtain ⟨cl118, A118, -, S118, M118, H118, -⟩ := id F117
  have B118 := inb_of S118 (j := (0 : Int32)) (by decide)
  refine go (fun _ => X116.daload hx (j := (0 : Int32)) (v := (.double (FP.l2d (kf q.a)))) (by rw [e116]; exact A118.1) (State.isArrayOf_alike hZ.alike A118.2.1) A118.2.2 B118 (H118.at B118 rfl) (g := (mkF m 78 #[rv a, iv (cf t), .val (.double (FP.l2d (kf t))), .second, iv (2 : Int32), iv (0 : Int32)] [(.int (0 : Int32)), (.ref ak)])) rfl rfl (hb hby d2_78) _) ?_
  show Ends p e below _ T116 (mkF m 79 #[rv a, iv (cf t), .val (.double (FP.l2d (kf t))), .second, iv (2 : Int32), iv (0 : Int32)] [(.double (FP.l2d (kf q.a)))])
  refine go (fun _ => XS.dloadN X116.here hx rfl (hb hby d2_79) rfl) ?_
  show Ends p e below _ T116 (mkF m 80 #[rv a, iv (cf t), .val (.double (FP.l2d (kf t))), .second, iv (2 : Int32), iv (0 : Int32)] [(.double (FP.l2d (kf t))), (.double (FP.l2d (kf q.a)))])
  refine go (fun _ => XS.dcmpS X116.here hx rfl (hb hby d2_80) rfl ((dcmpV_w (hB _) (hB _) _).trans (own_lw _ _))) ?_
  show Ends p e below _ T116 (mkF m 81 #[rv a, iv (cf t), .val (.double (FP.l2d (kf t))), .second, iv (2 : Int32), iv (0 : Int32)] [(.int (XT.cmpL (kf q.a) (kf t)))])
  by_cases c81_119 : (kf t) < (kf q.a)
  · refine go (fun _ => XS.ifYes X116.here hx rfl (pc0 := 81) (pc' := 87) rfl (hb hby d2_81) rfl (XT.ll_gt_t c81_119) (by decide) (by decide)) ?_
    show Ends p e below _ T116 (mkF m 87 #[rv a, iv (cf t), .val (.double (FP.l2d (kf t))), .second, iv (2 : Int32), iv (0 : Int32)] [])
    refine go (fun _ => XS.aloadN X116.here hx rfl (hb hby d2_87) rfl rfl) ?_
    show Ends p e below _ T116 (mkF m 88 #[rv a, iv (cf t), .val (.double (FP.l2d (kf t))), .second, iv (2 : Int32), iv (0 : Int32)] [(.ref a)])
    have F120 := (Fld.other W113 F1 (Or.inr (slot_ne (a0 := a0) (Or.inl (hwi hw 15 rfl)) (Or.inl (hwi hw 25 rfl)) (by decide) (t := (.array .int)) (t' := .int) (by decide) (by decide))))
    obtain ⟨T121, X121, e121, s121⟩ := getF X116 hx hZ hown (host := "") (Or.inl (hwi hw 14 rfl)) Via.refl e116 F120 (g := (mkF m 88 #[rv a, iv (cf t), .val (.double (FP.l2d (kf t))), .second, iv (2 : Int32), iv (0 : Int32)] [(.ref a)])) rfl rfl (hb hby d2_88)
    refine go s121 ?_
    show Ends p e below _ T121 (mkF m 91 #[rv a, iv (cf t), .val (.double (FP.l2d (kf t))), .second, iv (2 : Int32), iv (0 : Int32)] [(.ref ac)])
    refine go (fun _ => XS.iload X121.here hx rfl (hb hby d2_91) rfl) ?_
    refine go (fun _ => XS.aloadN X121.here hx rfl (hb hby d2_93) rfl rfl) ?_
    show Ends p e below _ T121 (mkF m 94 #[rv a, iv (cf t), .val (.double (FP.l2d (kf t))), .second, iv (2 : Int32), iv (0 : Int32)] [(.ref a), (.int (2 : Int32)), (.ref ac)])
    obtain ⟨T122, X122, e122, s122⟩ := getF X121 hx hZ hown (host := "") (Or.inl (hwi hw 14 rfl)) Via.refl e121 F120 (g := (mkF m 94 #[rv a, iv (cf t), .val (.double (FP.l2d (kf t))), .second, iv (2 : Int32), iv (0 : Int32)] [(.ref a), (.int (2 : Int32)), (.ref ac)])) rfl rfl (hb hby d2_94)
    refine go s122 ?_
    show Ends p e below _ T122 (mkF m 97 #[rv a, iv (cf t), .val (.double (FP.l2d (kf t))), .second, iv (2 : Int32), iv (0 : Int32)] [(.ref ac), (.int (2 : Int32)), (.ref ac)])
    refine go (fun _ => XS.iload X122.here hx rfl (hb hby d2_97) rfl) ?_
    show Ends p e below _ T122 (mkF m 99 #[rv a, iv (cf t), .val (.double (FP.l2d (kf t))), .second, iv (2 : Int32), iv (0 : Int32)] [(.int (0 : Int32)), (.ref ac), (.int (2 : Int32)), (.ref ac)])
    have F123 := (Arv.other Vc W113 (Ne.symm n1))
    obtain ⟨cl124, A124, -, S124, M124, H124, -⟩ := id F123
    have B124 := inb_of S124 (j := (0 : Int32)) (by decide)
    refine go (fun _ => X122.iaload hx (j := (0 : Int32)) (v := (.int (cf q.a))) (by rw [e122]; exact A124.1) (State.isArrayOf_alike hZ.alike A124.2.1) A124.2.2 B124 (H124.at B124 rfl) (g := (mkF m 99 #[rv a, iv (cf t), .val (.double (FP.l2d (kf t))), .second, iv (2 : Int32), iv (0 : Int32)] [(.int (0 : Int32)), (.ref ac), (.int (2 : Int32)), (.ref ac)])) rfl rfl (hb hby d2_99) _) ?_
    show Ends p e below _ T122 (mkF m 100 #[rv a, iv (cf t), .val (.double (FP.l2d (kf t))), .second, iv (2 : Int32), iv (0 : Int32)] [(.int (cf q.a)), (.int (2 : Int32)), (.ref ac)])
    obtain ⟨cl125, A125, q125, S125, M125, H125, G125⟩ := id F123
    obtain ⟨T125, h125, X125, e125, W125, s125⟩ := stI X122 hx hZ e122 A125 (j := (2 : Int32)) (inb_of S125 (by decide)) (g := (mkF m 100 #[rv a, iv (cf t), .val (.double (FP.l2d (kf t))), .second, iv (2 : Int32), iv (0 : Int32)] [(.int (cf q.a)), (.int (2 : Int32)), (.ref ac)])) rfl rfl (hb hby d2_100)
    have N125 := Fr.snoc X125 N113 fc
    have O126 : Ext Z.heap h125 := xw O114 W125 fc
    have V125 : Arv Z h125 ac kc .int (1024 : Int32) [(.int (cf q.a)), (.int (cf q.b)), (.int (cf q.a)), (.int (cf q.d)), (.int (cf q.e))] (.int 0) := Arv.set A125 q125 S125 M125 H125 G125 rfl W125 2 (by decide) (Nat.le_of_ble_eq_true rfl)
    refine go s125 ?_
    show Ends p e below _ T125 (mkF m 101 #[rv a, iv (cf t), .val (.double (FP.l2d (kf t))), .second, iv (2 : Int32), iv (0 : Int32)] [])
    refine go (fun _ => XS.aloadN X125.here hx rfl (hb hby d2_101) rfl rfl) ?_
    show Ends p e below _ T125 (mkF m 102 #[rv a, iv (cf t), .val (.double (FP.l2d (kf t))), .second, iv (2 : Int32), iv (0 : Int32)] [(.ref a)])
    have F127 := (Fld.other W125 F115 (Or.inl n1))
    obtain ⟨T128, X128, e128, s128⟩ := getF X125 hx hZ hown (host := "") (Or.inl (hwi hw 17 rfl)) Via.refl e125 F127 (g := (mkF m 102 #[rv a, iv (cf t), .val (.double (FP.l2d (kf t))), .second, iv (2 : Int32), iv (0 : Int32)] [(.ref a)])) rfl rfl (hb hby d2_102)
    refine go s128 ?_
    show Ends p e below _ T128 (mkF m 105 #[rv a, iv (cf t), .val (.double (FP.l2d (kf t))), .second, iv (2 : Int32), iv (0 : Int32)] [(.ref ak)])
    refine go (fun _ => XS.iload X128.here hx rfl (hb hby d2_105) rfl) ?_
    refine go (fun _ => XS.aloadN X128.here hx rfl (hb hby d2_107) rfl rfl) ?_
    show Ends p e below _ T128 (mkF m 108 #[rv a, iv (cf t), .val (.double (FP.l2d (kf t))), .second, iv (2 : Int32), iv (0 : Int32)] [(.ref a), (.int (2 : Int32)), (.ref ak)])
    obtain ⟨T129, X129, e129, s129⟩ := getF X128 hx hZ hown (host := "") (Or.inl (hwi hw 17 rfl)) Via.refl e128 F127 (g := (mkF m 108 #[rv a, iv (cf t), .val (.double (FP.l2d (kf t))), .second, iv (2 : Int32), iv (0 : Int32)] [(.ref a), (.int (2 : Int32)), (.ref ak)])) rfl rfl (hb hby d2_108)
    refine go s129 ?_
    show Ends p e below _ T129 (mkF m 111 #[rv a, iv (cf t), .val (.double (FP.l2d (kf t))), .second, iv (2 : Int32), iv (0 : Int32)] [(.ref ak), (.int (2 : Int32)), (.ref ak)])
    refine go (fun _ => XS.iload X129.here hx rfl (hb hby d2_111) rfl) ?_
    show Ends p e below _ T129 (mkF m 113 #[rv a, iv (cf t), .val (.double (FP.l2d (kf t))), .second, iv (2 : Int32), iv (0 : Int32)] [(.int (0 : Int32)), (.ref ak), (.int (2 : Int32)), (.ref ak)])
    have F130 := (Arv.other F117 W125 (Ne.symm n3))
    obtain ⟨cl131, A131, -, S131, M131, H131, -⟩ := id F130
    have B131 := inb_of S131 (j := (0 : Int32)) (by decide)
    refine go (fun _ => X129.daload hx (j := (0 : Int32)) (v := (.double (FP.l2d (kf q.a)))) (by rw [e129]; exact A131.1) (State.isArrayOf_alike hZ.alike A131.2.1) A131.2.2 B131 (H131.at B131 rfl) (g := (mkF m 113 #[rv a, iv (cf t), .val (.double (FP.l2d (kf t))), .second, iv (2 : Int32), iv (0 : Int32)] [(.int (0 : Int32)), (.ref ak), (.int (2 : Int32)), (.ref ak)])) rfl rfl (hb hby d2_113) _) ?_
    show Ends p e below _ T129 (mkF m 114 #[rv a, iv (cf t), .val (.double (FP.l2d (kf t))), .second, iv (2 : Int32), iv (0 : Int32)] [(.double (FP.l2d (kf q.a))), (.int (2 : Int32)), (.ref ak)])
    obtain ⟨cl132, A132, q132, S132, M132, H132, G132⟩ := id F130
    obtain ⟨T132, h132, X132, e132, W132, s132⟩ := stD X129 hx hZ e129 A132 (j := (2 : Int32)) (inb_of S132 (by decide)) (g := (mkF m 114 #[rv a, iv (cf t), .val (.double (FP.l2d (kf t))), .second, iv (2 : Int32), iv (0 : Int32)] [(.double (FP.l2d (kf q.a))), (.int (2 : Int32)), (.ref ak)])) rfl rfl (hb hby d2_114)
    have N132 := Fr.snoc X132 N125 fk
    have O133 : Ext Z.heap h132 := xw O126 W132 fk
    have V132 : Arv Z h132 ak kk .double (1024 : Int32) [(.double (FP.l2d (kf q.a))), (.double (FP.l2d (kf q.b))), (.double (FP.l2d (kf q.a))), (.double (FP.l2d (kf q.d))), (.double (FP.l2d (kf q.e)))] (.double (FP.l2d 0)) := Arv.set A132 q132 S132 M132 H132 G132 rfl W132 2 (by decide) (Nat.le_of_ble_eq_true rfl)
    refine go s132 ?_
    show Ends p e below _ T132 (mkF m 115 #[rv a, iv (cf t), .val (.double (FP.l2d (kf t))), .second, iv (2 : Int32), iv (0 : Int32)] [])
    refine go (fun _ => XS.iload X132.here hx rfl (hb hby d2_115) rfl) ?_
    refine go (fun _ => XS.istore X132.here hx rfl (hb hby d2_117) rfl (l' := #[rv a, iv (cf t), .val (.double (FP.l2d (kf t))), .second, iv (0 : Int32), iv (0 : Int32)]) rfl) ?_
    refine go (fun _ => XS.goto X132.here hx rfl (pc0 := 119) (pc' := 59) rfl (hb hby d2_119) (by decide) (by decide)) ?_
    refine go (fun _ => XS.iload X132.here hx rfl (hb hby d2_59) rfl) ?_
    show Ends p e below _ T132 (mkF m 61 #[rv a, iv (cf t), .val (.double (FP.l2d (kf t))), .second, iv (0 : Int32), iv (0 : Int32)] [(.int (0 : Int32))])
    refine go (fun _ => XS.ifYes X132.here hx rfl (pc0 := 61) (pc' := 122) rfl (hb hby d2_61) rfl (XT.i0_le_t ((by decide) : ¬ ((0 : Int32) < (0 : Int32)))) (by decide) (by decide)) ?_
    show Ends p e below _ T132 (mkF m 122 #[rv a, iv (cf t), .val (.double (FP.l2d (kf t))), .second, iv (0 : Int32), iv (0 : Int32)] [])
    refine go (fun _ => XS.aloadN X132.here hx rfl (hb hby d2_122) rfl rfl) ?_
    show Ends p e below _ T132 (mkF m 123 #[rv a, iv (cf t), .val (.double (FP.l2d (kf t))), .second, iv (0 : Int32), iv (0 : Int32)] [(.ref a)])
    have F134 := (Fld.other W132 (Fld.other W125 F120 (Or.inl n1)) (Or.inl n2))
    obtain ⟨T135, X135, e135, s135⟩ := getF X132 hx hZ hown (host := "") (Or.inl (hwi hw 14 rfl)) Via.refl e132 F134 (g := (mkF m 123 #[rv a, iv (cf t), .val (.double (FP.l2d (kf t))), .second, iv (0 : Int32), iv (0 : Int32)] [(.ref a)])) rfl rfl (hb hby d2_123)
    refine go s135 ?_
    show Ends p e below _ T135 (mkF m 126 #[rv a, iv (cf t), .val (.double (FP.l2d (kf t))), .second, iv (0 : Int32), iv (0 : Int32)] [(.ref ac)])
    refine go (fun _ => XS.iload X135.here hx rfl (hb hby d2_126) rfl) ?_
    refine go (fun _ => XS.iloadN X135.here hx rfl (hb hby d2_128) rfl) ?_
    show Ends p e below _ T135 (mkF m 129 #[rv a, iv (cf t), .val (.double (FP.l2d (kf t))), .second, iv (0 : Int32), iv (0 : Int32)] [(.int (cf t)), (.int (0 : Int32)), (.ref ac)])
    have F136 := (Arv.other V125 W132 n3)
    obtain ⟨cl137, A137, q137, S137, M137, H137, G137⟩ := id F136
    obtain ⟨T137, h137, X137, e137, W137, s137⟩ := stI X135 hx hZ e135 A137 (j := (0 : Int32)) (inb_of S137 (by decide)) (g := (mkF m 129 #[rv a, iv (cf t), .val (.double (FP.l2d (kf t))), .second, iv (0 : Int32), iv (0 : Int32)] [(.int (cf t)), (.int (0 : Int32)), (.ref ac)])) rfl rfl (hb hby d2_129)
    have N137 := Fr.snoc X137 N132 fc
    have O138 : Ext Z.heap h137 := xw O133 W137 fc
    have V137 : Arv Z h137 ac kc .int (1024 : Int32) [(.int (cf t)), (.int (cf q.b)), (.int (cf q.a)), (.int (cf q.d)), (.int (cf q.e))] (.int 0) := Arv.set A137 q137 S137 M137 H137 G137 rfl W137 0 (by decide) (Nat.le_of_ble_eq_true rfl)
    refine go s137 ?_
    show Ends p e below _ T137 (mkF m 130 #[rv a, iv (cf t), .val (.double (FP.l2d (kf t))), .second, iv (0 : Int32), iv (0 : Int32)] [])
    refine go (fun _ => XS.aloadN X137.here hx rfl (hb hby d2_130) rfl rfl) ?_
    show Ends p e below _ T137 (mkF m 131 #[rv a, iv (cf t), .val (.double (FP.l2d (kf t))), .second, iv (0 : Int32), iv (0 : Int32)] [(.ref a)])
    have F139 := (Fld.other W137 (Fld.other W132 F127 (Or.inl n2)) (Or.inl n1))
    obtain ⟨T140, X140, e140, s140⟩ := getF X137 hx hZ hown (host := "") (Or.inl (hwi hw 17 rfl)) Via.refl e137 F139 (g := (mkF m 131 #[rv a, iv (cf t), .val (.double (FP.l2d (kf t))), .second, iv (0 : Int32), iv (0 : Int32)] [(.ref a)])) rfl rfl (hb hby d2_131)
    refine go s140 ?_
    show Ends p e below _ T140 (mkF m 134 #[rv a, iv (cf t), .val (.double (FP.l2d (kf t))), .second, iv (0 : Int32), iv (0 : Int32)] [(.ref ak)])
    refine go (fun _ => XS.iload X140.here hx rfl (hb hby d2_134) rfl) ?_
    show Ends p e below _ T140 (mkF m 136 #[rv a, iv (cf t), .val (.double (FP.l2d (kf t))), .second, iv (0 : Int32), iv (0 : Int32)] [(.int (0 : Int32)), (.ref ak)])
    refine go (fun _ => XS.dloadN X140.here hx rfl (hb hby d2_136) rfl) ?_
    show Ends p e below _ T140 (mkF m 137 #[rv a, iv (cf t), .val (.double (FP.l2d (kf t))), .second, iv (0 : Int32), iv (0 : Int32)] [(.double (FP.l2d (kf t))), (.int (0 : Int32)), (.ref ak)])
    have F141 := (Arv.other V132 W137 (Ne.symm n3))
    obtain ⟨cl142, A142, q142, S142, M142, H142, G142⟩ := id F141
    obtain ⟨T142, h142, X142, e142, W142, s142⟩ := stD X140 hx hZ e140 A142 (j := (0 : Int32)) (inb_of S142 (by decide)) (g := (mkF m 137 #[rv a, iv (cf t), .val (.double (FP.l2d (kf t))), .second, iv (0 : Int32), iv (0 : Int32)] [(.double (FP.l2d (kf t))), (.int (0 : Int32)), (.ref ak)])) rfl rfl (hb hby d2_137)
    have N142 := Fr.snoc X142 N137 fk
    have O143 : Ext Z.heap h142 := xw O138 W142 fk
    have V142 : Arv Z h142 ak kk .double (1024 : Int32) [(.double (FP.l2d (kf t))), (.double (FP.l2d (kf q.b))), (.double (FP.l2d (kf q.a))), (.double (FP.l2d (kf q.d))), (.double (FP.l2d (kf q.e)))] (.double (FP.l2d 0)) := Arv.set A142 q142 S142 M142 H142 G142 rfl W142 0 (by decide) (Nat.le_of_ble_eq_true rfl)
    refine go s142 ?_
    show Ends p e below _ T142 (mkF m 138 #[rv a, iv (cf t), .val (.double (FP.l2d (kf t))), .second, iv (0 : Int32), iv (0 : Int32)] [])
    have u144 : lt t q.a = true := (hlt _ _ ht hqa).mpr c81_119
    have z145 : qn = (⟨t, q.b, q.a, q.d, q.e⟩ : L5) := hqn.symm.trans (by simp only [hpush2, u144, if_true, if_false, Bool.false_eq_true])
    have F146 := (Arv.other V137 W142 n3)
    have K147 : Keep h0 h142 [a, ac, ak] := (Keep.wr (Keep.wr (Keep.wr (Keep.wr (Keep.wr (Keep.refl _ _) W113 (Or.inl (List.mem_of_getElem? (i := 0) rfl))) W125 (Or.inl (List.mem_of_getElem? (i := 1) rfl))) W132 (Or.inl (List.mem_of_getElem? (i := 2) rfl))) W137 (Or.inl (List.mem_of_getElem? (i := 1) rfl))) W142 (Or.inl (List.mem_of_getElem? (i := 2) rfl)))
    have F148 := (Fld.other W142 (Fld.other W137 F134 (Or.inl n1)) (Or.inl n2))
    have F149 := (Fld.other W142 F139 (Or.inl n2))
    have F150 := (Fld.other W142 (Fld.other W137 (Fld.other W132 (Fld.other W125 (Fld.same W113 F3) (Or.inl n1)) (Or.inl n2)) (Or.inl n1)) (Or.inl n2))
    exact endV X142 hx hret (hb hby d2_138) (lvN X142 hlk e142 (fun _ => rfl) ⟨rfl, N142, K147, F148, F149, F150, by rw [z145]; exact F146, by rw [z145]; exact V142⟩ (by decide) (by decide))
  · refine go (fun _ => XS.ifNo X116.here hx rfl (hb hby d2_81) rfl (XT.ll_gt_f c81_119)) ?_
    show Ends p e below _ T116 (mkF m 84 #[rv a, iv (cf t), .val (.double (FP.l2d (kf t))), .second, iv (2 : Int32), iv (0 : Int32)] [])
    refine go (fun _ => XS.goto X116.here hx rfl (pc0 := 84) (pc' := 122) rfl (hb hby d2_84) (by decide) (by decide)) ?_
    refine go (fun _ => XS.aloadN X116.here hx rfl (hb hby d2_122) rfl rfl) ?_
    show Ends p e below _ T116 (mkF m 123 #[rv a, iv (cf t), .val (.double (FP.l2d (kf t))), .second, iv (2 : Int32), iv (0 : Int32)] [(.ref a)])
    have F151 := (Fld.other W113 F1 (Or.inr (slot_ne (a0 := a0) (Or.inl (hwi hw 15 rfl)) (Or.inl (hwi hw 25 rfl)) (by decide) (t := (.array .int)) (t' := .int) (by decide) (by decide))))
    obtain ⟨T152, X152, e152, s152⟩ := getF X116 hx hZ hown (host := "") (Or.inl (hwi hw 14 rfl)) Via.refl e116 F151 (g := (mkF m 123 #[rv a, iv (cf t), .val (.double (FP.l2d (kf t))), .second, iv (2 : Int32), iv (0 : Int32)] [(.ref a)])) rfl rfl (hb hby d2_123)
    refine go s152 ?_
    show Ends p e below _ T152 (mkF m 126 #[rv a, iv (cf t), .val (.double (FP.l2d (kf t))), .second, iv (2 : Int32), iv (0 : Int32)] [(.ref ac)])
    refine go (fun _ => XS.iload X152.here hx rfl (hb hby d2_126) rfl) ?_
    refine go (fun _ => XS.iloadN X152.here hx rfl (hb hby d2_128) rfl) ?_
    show Ends p e below _ T152 (mkF m 129 #[rv a, iv (cf t), .val (.double (FP.l2d (kf t))), .second, iv (2 : Int32), iv (0 : Int32)] [(.int (cf t)), (.int (2 : Int32)), (.ref ac)])
    have F153 := (Arv.other Vc W113 (Ne.symm n1))
    obtain ⟨cl154, A154, q154, S154, M154, H154, G154⟩ := id F153
    obtain ⟨T154, h154, X154, e154, W154, s154⟩ := stI X152 hx hZ e152 A154 (j := (2 : Int32)) (inb_of S154 (by decide)) (g := (mkF m 129 #[rv a, iv (cf t), .val (.double (FP.l2d (kf t))), .second, iv (2 : Int32), iv (0 : Int32)] [(.int (cf t)), (.int (2 : Int32)), (.ref ac)])) rfl rfl (hb hby d2_129)
    have N154 := Fr.snoc X154 N113 fc
    have O155 : Ext Z.heap h154 := xw O114 W154 fc
    have V154 : Arv Z h154 ac kc .int (1024 : Int32) [(.int (cf q.a)), (.int (cf q.b)), (.int (cf t)), (.int (cf q.d)), (.int (cf q.e))] (.int 0) := Arv.set A154 q154 S154 M154 H154 G154 rfl W154 2 (by decide) (Nat.le_of_ble_eq_true rfl)
    refine go s154 ?_
    show Ends p e below _ T154 (mkF m 130 #[rv a, iv (cf t), .val (.double (FP.l2d (kf t))), .second, iv (2 : Int32), iv (0 : Int32)] [])
    refine go (fun _ => XS.aloadN X154.here hx rfl (hb hby d2_130) rfl rfl) ?_
    show Ends p e below _ T154 (mkF m 131 #[rv a, iv (cf t), .val (.double (FP.l2d (kf t))), .second, iv (2 : Int32), iv (0 : Int32)] [(.ref a)])
    have F156 := (Fld.other W154 F115 (Or.inl n1))
    obtain ⟨T157, X157, e157, s157⟩ := getF X154 hx hZ hown (host := "") (Or.inl (hwi hw 17 rfl)) Via.refl e154 F156 (g := (mkF m 131 #[rv a, iv (cf t), .val (.double (FP.l2d (kf t))), .second, iv (2 : Int32), iv (0 : Int32)] [(.ref a)])) rfl rfl (hb hby d2_131)
    refine go s157 ?_
    show Ends p e below _ T157 (mkF m 134 #[rv a, iv (cf t), .val (.double (FP.l2d (kf t))), .second, iv (2 : Int32), iv (0 : Int32)] [(.ref ak)])
    refine go (fun _ => XS.iload X157.here hx rfl (hb hby d2_134) rfl) ?_
    show Ends p e below _ T157 (mkF m 136 #[rv a, iv (cf t), .val (.double (FP.l2d (kf t))), .second, iv (2 : Int32), iv (0 : Int32)] [(.int (2 : Int32)), (.ref ak)])
    refine go (fun _ => XS.dloadN X157.here hx rfl (hb hby d2_136) rfl) ?_
    show Ends p e below _ T157 (mkF m 137 #[rv a, iv (cf t), .val (.double (FP.l2d (kf t))), .second, iv (2 : Int32), iv (0 : Int32)] [(.double (FP.l2d (kf t))), (.int (2 : Int32)), (.ref ak)])
    have F158 := (Arv.other F117 W154 (Ne.symm n3))
    obtain ⟨cl159, A159, q159, S159, M159, H159, G159⟩ := id F158
    obtain ⟨T159, h159, X159, e159, W159, s159⟩ := stD X157 hx hZ e157 A159 (j := (2 : Int32)) (inb_of S159 (by decide)) (g := (mkF m 137 #[rv a, iv (cf t), .val (.double (FP.l2d (kf t))), .second, iv (2 : Int32), iv (0 : Int32)] [(.double (FP.l2d (kf t))), (.int (2 : Int32)), (.ref ak)])) rfl rfl (hb hby d2_137)
    have N159 := Fr.snoc X159 N154 fk
    have O160 : Ext Z.heap h159 := xw O155 W159 fk
    have V159 : Arv Z h159 ak kk .double (1024 : Int32) [(.double (FP.l2d (kf q.a))), (.double (FP.l2d (kf q.b))), (.double (FP.l2d (kf t))), (.double (FP.l2d (kf q.d))), (.double (FP.l2d (kf q.e)))] (.double (FP.l2d 0)) := Arv.set A159 q159 S159 M159 H159 G159 rfl W159 2 (by decide) (Nat.le_of_ble_eq_true rfl)
    refine go s159 ?_
    show Ends p e below _ T159 (mkF m 138 #[rv a, iv (cf t), .val (.double (FP.l2d (kf t))), .second, iv (2 : Int32), iv (0 : Int32)] [])
    have u161 : ¬ lt t q.a = true := fun z => c81_119 ((hlt _ _ ht hqa).mp z)
    have z162 : qn = (⟨q.a, q.b, t, q.d, q.e⟩ : L5) := hqn.symm.trans (by simp only [hpush2, u161, if_true, if_false, Bool.false_eq_true])
    have F163 := (Arv.other V154 W159 n3)
    have K164 : Keep h0 h159 [a, ac, ak] := (Keep.wr (Keep.wr (Keep.wr (Keep.refl _ _) W113 (Or.inl (List.mem_of_getElem? (i := 0) rfl))) W154 (Or.inl (List.mem_of_getElem? (i := 1) rfl))) W159 (Or.inl (List.mem_of_getElem? (i := 2) rfl)))
    have F165 := (Fld.other W159 (Fld.other W154 F151 (Or.inl n1)) (Or.inl n2))
    have F166 := (Fld.other W159 F156 (Or.inl n2))
    have F167 := (Fld.other W159 (Fld.other W154 (Fld.same W113 F3) (Or.inl n1)) (Or.inl n2))
    exact endV X159 hx hret (hb hby d2_138) (lvN X159 hlk e159 (fun _ => rfl) ⟨rfl, N159, K164, F165, F166, F167, by rw [z162]; exact F163, by rw [z162]; exact V159⟩ (by decide) (by decide))
set_option maxRecDepth 65536 in
set_option maxHeartbeats 40000000 in
theorem rm_push3 {l : Launch} {Z : State} {a0 : Array Value} (hw : ∀ d ∈ tables_1, d.before a0 Z = true) (a ac ak : Addr) (kc kk : ClassId) (cf : Nat → Int32) (kf : Nat → Int64) (lt : Nat → Nat → Bool) (q qn : L5) (t : Nat) (h0 : Heap) (O0 : Ext Z.heap h0) (f0 : Z.heap.size ≤ a) (fc : Z.heap.size ≤ ac) (fk : Z.heap.size ≤ ak) (n1 : a ≠ ac) (n2 : a ≠ ak) (n3 : ac ≠ ak) (E0 : Exa Z h0 a "com/example/pedestrain/pedestrain/core/CellHeap") (F1 : Fld Z h0 a "com/example/pedestrain/pedestrain/core/CellHeap" "cells" "[I" (.ref ac)) (F2 : Fld Z h0 a "com/example/pedestrain/pedestrain/core/CellHeap" "keys" "[D" (.ref ak)) (F3 : Fld Z h0 a "com/example/pedestrain/pedestrain/core/CellHeap" "size" "I" (.int (3 : Int32))) (Vc : Arv Z h0 ac kc .int (1024 : Int32) [(.int (cf q.a)), (.int (cf q.b)), (.int (cf q.c)), (.int (cf q.d)), (.int (cf q.e))] (.int 0)) (Vk : Arv Z h0 ak kk .double (1024 : Int32) [(.double (FP.l2d (kf q.a))), (.double (FP.l2d (kf q.b))), (.double (FP.l2d (kf q.c))), (.double (FP.l2d (kf q.d))), (.double (FP.l2d (kf q.e)))] (.double (FP.l2d 0))) (hB : ∀ i, B53 (kf i)) (hlt : ∀ i j, i < 5 → j < 5 → (lt i j = true ↔ kf i < kf j)) (hqa : q.a < 5) (hqb : q.b < 5) (hqc : q.c < 5) (ht : t < 5) (hqn : hpush3 lt q t = qn) :
    Con l (⟨"com/example/pedestrain/pedestrain/core/CellHeap", "push", "(ID)V"⟩ : MethodName) prog_4_method_5_code 6 none ({ frames := 0, cells := 0, slots := 0, locals := 0 } : Room) Z #[(.ref a), (.int (cf t)), (.double (FP.l2d (kf t)))] h0 (fun v h L => v = none ∧ Fr Z.heap.size L ∧ Keep h0 h [a, ac, ak] ∧ Fld Z h a "com/example/pedestrain/pedestrain/core/CellHeap" "cells" "[I" (.ref ac) ∧ Fld Z h a "com/example/pedestrain/pedestrain/core/CellHeap" "keys" "[D" (.ref ak) ∧ Fld Z h a "com/example/pedestrain/pedestrain/core/CellHeap" "size" "I" (.int (4 : Int32)) ∧ Arv Z h ac kc .int (1024 : Int32) [(.int (cf qn.a)), (.int (cf qn.b)), (.int (cf qn.c)), (.int (cf qn.d)), (.int (cf qn.e))] (.int 0) ∧ Arv Z h ak kk .double (1024 : Int32) [(.double (FP.l2d (kf qn.a))), (.double (FP.l2d (kf qn.b))), (.double (FP.l2d (kf qn.c))), (.double (FP.l2d (kf qn.d))), (.double (FP.l2d (kf qn.e)))] (.double (FP.l2d 0))) := by
  refine Con.of (plainFor_of_name pn_1) (Ls := #[rv a, iv (cf t), .val (.double (FP.l2d (kf t))), .second, .unset, .unset]) (fun m => efOf rfl) ?_
  intro p e s m below meth c T0 X0 hx hZ hby hml hown hnm hret hlk e0
  refine go (fun _ => XS.aloadN X0.here hx rfl (hb hby d2_0) rfl rfl) ?_
  show Ends p e below _ T0 (mkF m 1 #[rv a, iv (cf t), .val (.double (FP.l2d (kf t))), .second, .unset, .unset] [(.ref a)])
  obtain ⟨T168, X168, e168, s168⟩ := getF X0 hx hZ hown (host := "") (Or.inl (hwi hw 24 rfl)) Via.refl e0 F3 (g := (mkF m 1 #[rv a, iv (cf t), .val (.double (FP.l2d (kf t))), .second, .unset, .unset] [(.ref a)])) rfl rfl (hb hby d2_1)
  refine go s168 ?_
  show Ends p e below _ T168 (mkF m 4 #[rv a, iv (cf t), .val (.double (FP.l2d (kf t))), .second, .unset, .unset] [(.int (3 : Int32))])
  refine go (fun _ => XS.aloadN X168.here hx rfl (hb hby d2_4) rfl rfl) ?_
  show Ends p e below _ T168 (mkF m 5 #[rv a, iv (cf t), .val (.double (FP.l2d (kf t))), .second, .unset, .unset] [(.ref a), (.int (3 : Int32))])
  obtain ⟨T169, X169, e169, s169⟩ := getF X168 hx hZ hown (host := "") (Or.inl (hwi hw 14 rfl)) Via.refl e168 F1 (g := (mkF m 5 #[rv a, iv (cf t), .val (.double (FP.l2d (kf t))), .second, .unset, .unset] [(.ref a), (.int (3 : Int32))])) rfl rfl (hb hby d2_5)
  refine go s169 ?_
  show Ends p e below _ T169 (mkF m 8 #[rv a, iv (cf t), .val (.double (FP.l2d (kf t))), .second, .unset, .unset] [(.ref ac), (.int (3 : Int32))])
  obtain ⟨cl170, A170, -, S170, M170, -⟩ := id Vc
  refine go (fun _ => X169.arraylength hx (cell := cl170) (by rw [e169]; exact A170.1) (State.isArrayOf_alike hZ.alike A170.2.1) (g := (mkF m 8 #[rv a, iv (cf t), .val (.double (FP.l2d (kf t))), .second, .unset, .unset] [(.ref ac), (.int (3 : Int32))])) rfl rfl (hb hby d2_8) _) ?_
  rw [len_of S170 M170]
  show Ends p e below _ T169 (mkF m 9 #[rv a, iv (cf t), .val (.double (FP.l2d (kf t))), .second, .unset, .unset] [(.int (1024 : Int32)), (.int (3 : Int32))])
  refine go (fun _ => XS.icmpYes X169.here hx rfl (pc0 := 9) (pc' := 46) rfl (hb hby d2_9) rfl (XT.ii_ne_t ((by decide) : ¬ ((3 : Int32) = (1024 : Int32)))) (by decide) (by decide)) ?_
  show Ends p e below _ T169 (mkF m 46 #[rv a, iv (cf t), .val (.double (FP.l2d (kf t))), .second, .unset, .unset] [])
  refine go (fun _ => XS.aloadN X169.here hx rfl (hb hby d2_46) rfl rfl) ?_
  refine go (fun _ => XS.dup X169.here hx rfl (hb hby d2_47) rfl rfl) ?_
  show Ends p e below _ T169 (mkF m 48 #[rv a, iv (cf t), .val (.double (FP.l2d (kf t))), .second, .unset, .unset] [(.ref a), (.ref a)])
  obtain ⟨T171, X171, e171, s171⟩ := getF X169 hx hZ hown (host := "") (Or.inl (hwi hw 24 rfl)) Via.refl e169 F3 (g := (mkF m 48 #[rv a, iv (cf t), .val (.double (FP.l2d (kf t))), .second, .unset, .unset] [(.ref a), (.ref a)])) rfl rfl (hb hby d2_48)
  refine go s171 ?_
  show Ends p e below _ T171 (mkF m 51 #[rv a, iv (cf t), .val (.double (FP.l2d (kf t))), .second, .unset, .unset] [(.int (3 : Int32)), (.ref a)])
  refine go (fun _ => XT.dupX1 X171.here hx rfl (hb hby d2_51) rfl rfl rfl) ?_
  show Ends p e below _ T171 (mkF m 52 #[rv a, iv (cf t), .val (.double (FP.l2d (kf t))), .second, .unset, .unset] [(.int (3 : Int32)), (.ref a), (.int (3 : Int32))])
  refine go (fun _ => XT.iconstV X171.here hx rfl (1 : Int32) (hb hby d2_52) (by decide)) ?_
  refine go (fun _ => XS.iadd X171.here hx rfl (hb hby d2_53) rfl) ?_
  show Ends p e below _ T171 (mkF m 54 #[rv a, iv (cf t), .val (.double (FP.l2d (kf t))), .second, .unset, .unset] [(.int (4 : Int32)), (.ref a), (.int (3 : Int32))])
  obtain ⟨T172, h172, X172, e172, W172, s172⟩ := putF X171 hx hZ hown (host := "") (Or.inl (hwi hw 24 rfl)) Via.refl e171 F3 E0 (Or.inl (hwi hw 25 rfl)) (hwi hw 6 rfl) (ty := .int) (by decide) rfl rfl (g := (mkF m 54 #[rv a, iv (cf t), .val (.double (FP.l2d (kf t))), .second, .unset, .unset] [(.int (4 : Int32)), (.ref a), (.int (3 : Int32))])) rfl rfl (hb hby d2_54)
  have N172 := Fr.snoc X172 (Fr.nil _) f0
  have O173 : Ext Z.heap h172 := xw O0 W172 f0
  refine go s172 ?_
  show Ends p e below _ T172 (mkF m 57 #[rv a, iv (cf t), .val (.double (FP.l2d (kf t))), .second, .unset, .unset] [(.int (3 : Int32))])
  refine go (fun _ => XS.istore X172.here hx rfl (hb hby d2_57) rfl (l' := #[rv a, iv (cf t), .val (.double (FP.l2d (kf t))), .second, iv (3 : Int32), .unset]) rfl) ?_
  refine go (fun _ => XS.iload X172.here hx rfl (hb hby d2_59) rfl) ?_
  show Ends p e below _ T172 (mkF m 61 #[rv a, iv (cf t), .val (.double (FP.l2d (kf t))), .second, iv (3 : Int32), .unset] [(.int (3 : Int32))])
  refine go (fun _ => XS.ifNo X172.here hx rfl (hb hby d2_61) rfl (XT.i0_le_f ((by decide) : (0 : Int32) < (3 : Int32)))) ?_
  show Ends p e below _ T172 (mkF m 64 #[rv a, iv (cf t), .val (.double (FP.l2d (kf t))), .second, iv (3 : Int32), .unset] [])
  refine go (fun _ => XS.iload X172.here hx rfl (hb hby d2_64) rfl) ?_
  refine go (fun _ => XT.iconstV X172.here hx rfl (1 : Int32) (hb hby d2_66) (by decide)) ?_
  refine go (fun _ => XS.isub X172.here hx rfl (hb hby d2_67) rfl) ?_
  refine go (fun _ => XT.iconstV X172.here hx rfl (2 : Int32) (hb hby d2_68) (by decide)) ?_
  show Ends p e below _ T172 (mkF m 69 #[rv a, iv (cf t), .val (.double (FP.l2d (kf t))), .second, iv (3 : Int32), .unset] [(.int (2 : Int32)), (.int (2 : Int32))])
  refine go (fun _ => XS.idiv X172.here hx rfl (hb hby d2_69) rfl (by decide)) ?_
  show Ends p e below _ T172 (mkF m 70 #[rv a, iv (cf t), .val (.double (FP.l2d (kf t))), .second, iv (3 : Int32), .unset] [(.int (1 : Int32))])
  refine go (fun _ => XS.istore X172.here hx rfl (hb hby d2_70) rfl (l' := #[rv a, iv (cf t), .val (.double (FP.l2d (kf t))), .second, iv (3 : Int32), iv (1 : Int32)]) rfl) ?_
  refine go (fun _ => XS.aloadN X172.here hx rfl (hb hby d2_72) rfl rfl) ?_
  show Ends p e below _ T172 (mkF m 73 #[rv a, iv (cf t), .val (.double (FP.l2d (kf t))), .second, iv (3 : Int32), iv (1 : Int32)] [(.ref a)])
  have F174 := (Fld.other W172 F2 (Or.inr (slot_ne (a0 := a0) (Or.inl (hwi hw 18 rfl)) (Or.inl (hwi hw 25 rfl)) (by decide) (t := (.array .double)) (t' := .int) (by decide) (by decide))))
  obtain ⟨T175, X175, e175, s175⟩ := getF X172 hx hZ hown (host := "") (Or.inl (hwi hw 17 rfl)) Via.refl e172 F174 (g := (mkF m 73 #[rv a, iv (cf t), .val (.double (FP.l2d (kf t))), .second, iv (3 : Int32), iv (1 : Int32)] [(.ref a)])) rfl rfl (hb hby d2_73)
  refine go s175 ?_
  show Ends p e below _ T175 (mkF m 76 #[rv a, iv (cf t), .val (.double (FP.l2d (kf t))), .second, iv (3 : Int32), iv (1 : Int32)] [(.ref ak)])
  refine go (fun _ => XS.iload X175.here hx rfl (hb hby d2_76) rfl) ?_
  show Ends p e below _ T175 (mkF m 78 #[rv a, iv (cf t), .val (.double (FP.l2d (kf t))), .second, iv (3 : Int32), iv (1 : Int32)] [(.int (1 : Int32)), (.ref ak)])
  have F176 := (Arv.other Vk W172 (Ne.symm n2))
  obtain ⟨cl177, A177, -, S177, M177, H177, -⟩ := id F176
  have B177 := inb_of S177 (j := (1 : Int32)) (by decide)
  refine go (fun _ => X175.daload hx (j := (1 : Int32)) (v := (.double (FP.l2d (kf q.b)))) (by rw [e175]; exact A177.1) (State.isArrayOf_alike hZ.alike A177.2.1) A177.2.2 B177 (H177.at B177 rfl) (g := (mkF m 78 #[rv a, iv (cf t), .val (.double (FP.l2d (kf t))), .second, iv (3 : Int32), iv (1 : Int32)] [(.int (1 : Int32)), (.ref ak)])) rfl rfl (hb hby d2_78) _) ?_
  show Ends p e below _ T175 (mkF m 79 #[rv a, iv (cf t), .val (.double (FP.l2d (kf t))), .second, iv (3 : Int32), iv (1 : Int32)] [(.double (FP.l2d (kf q.b)))])
  refine go (fun _ => XS.dloadN X175.here hx rfl (hb hby d2_79) rfl) ?_
  show Ends p e below _ T175 (mkF m 80 #[rv a, iv (cf t), .val (.double (FP.l2d (kf t))), .second, iv (3 : Int32), iv (1 : Int32)] [(.double (FP.l2d (kf t))), (.double (FP.l2d (kf q.b)))])
  refine go (fun _ => XS.dcmpS X175.here hx rfl (hb hby d2_80) rfl ((dcmpV_w (hB _) (hB _) _).trans (own_lw _ _))) ?_
  show Ends p e below _ T175 (mkF m 81 #[rv a, iv (cf t), .val (.double (FP.l2d (kf t))), .second, iv (3 : Int32), iv (1 : Int32)] [(.int (XT.cmpL (kf q.b) (kf t)))])
  by_cases c81_178 : (kf t) < (kf q.b)
  · refine go (fun _ => XS.ifYes X175.here hx rfl (pc0 := 81) (pc' := 87) rfl (hb hby d2_81) rfl (XT.ll_gt_t c81_178) (by decide) (by decide)) ?_
    show Ends p e below _ T175 (mkF m 87 #[rv a, iv (cf t), .val (.double (FP.l2d (kf t))), .second, iv (3 : Int32), iv (1 : Int32)] [])
    refine go (fun _ => XS.aloadN X175.here hx rfl (hb hby d2_87) rfl rfl) ?_
    show Ends p e below _ T175 (mkF m 88 #[rv a, iv (cf t), .val (.double (FP.l2d (kf t))), .second, iv (3 : Int32), iv (1 : Int32)] [(.ref a)])
    have F179 := (Fld.other W172 F1 (Or.inr (slot_ne (a0 := a0) (Or.inl (hwi hw 15 rfl)) (Or.inl (hwi hw 25 rfl)) (by decide) (t := (.array .int)) (t' := .int) (by decide) (by decide))))
    obtain ⟨T180, X180, e180, s180⟩ := getF X175 hx hZ hown (host := "") (Or.inl (hwi hw 14 rfl)) Via.refl e175 F179 (g := (mkF m 88 #[rv a, iv (cf t), .val (.double (FP.l2d (kf t))), .second, iv (3 : Int32), iv (1 : Int32)] [(.ref a)])) rfl rfl (hb hby d2_88)
    refine go s180 ?_
    show Ends p e below _ T180 (mkF m 91 #[rv a, iv (cf t), .val (.double (FP.l2d (kf t))), .second, iv (3 : Int32), iv (1 : Int32)] [(.ref ac)])
    refine go (fun _ => XS.iload X180.here hx rfl (hb hby d2_91) rfl) ?_
    refine go (fun _ => XS.aloadN X180.here hx rfl (hb hby d2_93) rfl rfl) ?_
    show Ends p e below _ T180 (mkF m 94 #[rv a, iv (cf t), .val (.double (FP.l2d (kf t))), .second, iv (3 : Int32), iv (1 : Int32)] [(.ref a), (.int (3 : Int32)), (.ref ac)])
    obtain ⟨T181, X181, e181, s181⟩ := getF X180 hx hZ hown (host := "") (Or.inl (hwi hw 14 rfl)) Via.refl e180 F179 (g := (mkF m 94 #[rv a, iv (cf t), .val (.double (FP.l2d (kf t))), .second, iv (3 : Int32), iv (1 : Int32)] [(.ref a), (.int (3 : Int32)), (.ref ac)])) rfl rfl (hb hby d2_94)
    refine go s181 ?_
    show Ends p e below _ T181 (mkF m 97 #[rv a, iv (cf t), .val (.double (FP.l2d (kf t))), .second, iv (3 : Int32), iv (1 : Int32)] [(.ref ac), (.int (3 : Int32)), (.ref ac)])
    refine go (fun _ => XS.iload X181.here hx rfl (hb hby d2_97) rfl) ?_
    show Ends p e below _ T181 (mkF m 99 #[rv a, iv (cf t), .val (.double (FP.l2d (kf t))), .second, iv (3 : Int32), iv (1 : Int32)] [(.int (1 : Int32)), (.ref ac), (.int (3 : Int32)), (.ref ac)])
    have F182 := (Arv.other Vc W172 (Ne.symm n1))
    obtain ⟨cl183, A183, -, S183, M183, H183, -⟩ := id F182
    have B183 := inb_of S183 (j := (1 : Int32)) (by decide)
    refine go (fun _ => X181.iaload hx (j := (1 : Int32)) (v := (.int (cf q.b))) (by rw [e181]; exact A183.1) (State.isArrayOf_alike hZ.alike A183.2.1) A183.2.2 B183 (H183.at B183 rfl) (g := (mkF m 99 #[rv a, iv (cf t), .val (.double (FP.l2d (kf t))), .second, iv (3 : Int32), iv (1 : Int32)] [(.int (1 : Int32)), (.ref ac), (.int (3 : Int32)), (.ref ac)])) rfl rfl (hb hby d2_99) _) ?_
    show Ends p e below _ T181 (mkF m 100 #[rv a, iv (cf t), .val (.double (FP.l2d (kf t))), .second, iv (3 : Int32), iv (1 : Int32)] [(.int (cf q.b)), (.int (3 : Int32)), (.ref ac)])
    obtain ⟨cl184, A184, q184, S184, M184, H184, G184⟩ := id F182
    obtain ⟨T184, h184, X184, e184, W184, s184⟩ := stI X181 hx hZ e181 A184 (j := (3 : Int32)) (inb_of S184 (by decide)) (g := (mkF m 100 #[rv a, iv (cf t), .val (.double (FP.l2d (kf t))), .second, iv (3 : Int32), iv (1 : Int32)] [(.int (cf q.b)), (.int (3 : Int32)), (.ref ac)])) rfl rfl (hb hby d2_100)
    have N184 := Fr.snoc X184 N172 fc
    have O185 : Ext Z.heap h184 := xw O173 W184 fc
    have V184 : Arv Z h184 ac kc .int (1024 : Int32) [(.int (cf q.a)), (.int (cf q.b)), (.int (cf q.c)), (.int (cf q.b)), (.int (cf q.e))] (.int 0) := Arv.set A184 q184 S184 M184 H184 G184 rfl W184 3 (by decide) (Nat.le_of_ble_eq_true rfl)
    refine go s184 ?_
    show Ends p e below _ T184 (mkF m 101 #[rv a, iv (cf t), .val (.double (FP.l2d (kf t))), .second, iv (3 : Int32), iv (1 : Int32)] [])
    refine go (fun _ => XS.aloadN X184.here hx rfl (hb hby d2_101) rfl rfl) ?_
    show Ends p e below _ T184 (mkF m 102 #[rv a, iv (cf t), .val (.double (FP.l2d (kf t))), .second, iv (3 : Int32), iv (1 : Int32)] [(.ref a)])
    have F186 := (Fld.other W184 F174 (Or.inl n1))
    obtain ⟨T187, X187, e187, s187⟩ := getF X184 hx hZ hown (host := "") (Or.inl (hwi hw 17 rfl)) Via.refl e184 F186 (g := (mkF m 102 #[rv a, iv (cf t), .val (.double (FP.l2d (kf t))), .second, iv (3 : Int32), iv (1 : Int32)] [(.ref a)])) rfl rfl (hb hby d2_102)
    refine go s187 ?_
    show Ends p e below _ T187 (mkF m 105 #[rv a, iv (cf t), .val (.double (FP.l2d (kf t))), .second, iv (3 : Int32), iv (1 : Int32)] [(.ref ak)])
    refine go (fun _ => XS.iload X187.here hx rfl (hb hby d2_105) rfl) ?_
    refine go (fun _ => XS.aloadN X187.here hx rfl (hb hby d2_107) rfl rfl) ?_
    show Ends p e below _ T187 (mkF m 108 #[rv a, iv (cf t), .val (.double (FP.l2d (kf t))), .second, iv (3 : Int32), iv (1 : Int32)] [(.ref a), (.int (3 : Int32)), (.ref ak)])
    obtain ⟨T188, X188, e188, s188⟩ := getF X187 hx hZ hown (host := "") (Or.inl (hwi hw 17 rfl)) Via.refl e187 F186 (g := (mkF m 108 #[rv a, iv (cf t), .val (.double (FP.l2d (kf t))), .second, iv (3 : Int32), iv (1 : Int32)] [(.ref a), (.int (3 : Int32)), (.ref ak)])) rfl rfl (hb hby d2_108)
    refine go s188 ?_
    show Ends p e below _ T188 (mkF m 111 #[rv a, iv (cf t), .val (.double (FP.l2d (kf t))), .second, iv (3 : Int32), iv (1 : Int32)] [(.ref ak), (.int (3 : Int32)), (.ref ak)])
    refine go (fun _ => XS.iload X188.here hx rfl (hb hby d2_111) rfl) ?_
    show Ends p e below _ T188 (mkF m 113 #[rv a, iv (cf t), .val (.double (FP.l2d (kf t))), .second, iv (3 : Int32), iv (1 : Int32)] [(.int (1 : Int32)), (.ref ak), (.int (3 : Int32)), (.ref ak)])
    have F189 := (Arv.other F176 W184 (Ne.symm n3))
    obtain ⟨cl190, A190, -, S190, M190, H190, -⟩ := id F189
    have B190 := inb_of S190 (j := (1 : Int32)) (by decide)
    refine go (fun _ => X188.daload hx (j := (1 : Int32)) (v := (.double (FP.l2d (kf q.b)))) (by rw [e188]; exact A190.1) (State.isArrayOf_alike hZ.alike A190.2.1) A190.2.2 B190 (H190.at B190 rfl) (g := (mkF m 113 #[rv a, iv (cf t), .val (.double (FP.l2d (kf t))), .second, iv (3 : Int32), iv (1 : Int32)] [(.int (1 : Int32)), (.ref ak), (.int (3 : Int32)), (.ref ak)])) rfl rfl (hb hby d2_113) _) ?_
    show Ends p e below _ T188 (mkF m 114 #[rv a, iv (cf t), .val (.double (FP.l2d (kf t))), .second, iv (3 : Int32), iv (1 : Int32)] [(.double (FP.l2d (kf q.b))), (.int (3 : Int32)), (.ref ak)])
    obtain ⟨cl191, A191, q191, S191, M191, H191, G191⟩ := id F189
    obtain ⟨T191, h191, X191, e191, W191, s191⟩ := stD X188 hx hZ e188 A191 (j := (3 : Int32)) (inb_of S191 (by decide)) (g := (mkF m 114 #[rv a, iv (cf t), .val (.double (FP.l2d (kf t))), .second, iv (3 : Int32), iv (1 : Int32)] [(.double (FP.l2d (kf q.b))), (.int (3 : Int32)), (.ref ak)])) rfl rfl (hb hby d2_114)
    have N191 := Fr.snoc X191 N184 fk
    have O192 : Ext Z.heap h191 := xw O185 W191 fk
    have V191 : Arv Z h191 ak kk .double (1024 : Int32) [(.double (FP.l2d (kf q.a))), (.double (FP.l2d (kf q.b))), (.double (FP.l2d (kf q.c))), (.double (FP.l2d (kf q.b))), (.double (FP.l2d (kf q.e)))] (.double (FP.l2d 0)) := Arv.set A191 q191 S191 M191 H191 G191 rfl W191 3 (by decide) (Nat.le_of_ble_eq_true rfl)
    refine go s191 ?_
    show Ends p e below _ T191 (mkF m 115 #[rv a, iv (cf t), .val (.double (FP.l2d (kf t))), .second, iv (3 : Int32), iv (1 : Int32)] [])
    refine go (fun _ => XS.iload X191.here hx rfl (hb hby d2_115) rfl) ?_
    refine go (fun _ => XS.istore X191.here hx rfl (hb hby d2_117) rfl (l' := #[rv a, iv (cf t), .val (.double (FP.l2d (kf t))), .second, iv (1 : Int32), iv (1 : Int32)]) rfl) ?_
    refine go (fun _ => XS.goto X191.here hx rfl (pc0 := 119) (pc' := 59) rfl (hb hby d2_119) (by decide) (by decide)) ?_
    refine go (fun _ => XS.iload X191.here hx rfl (hb hby d2_59) rfl) ?_
    show Ends p e below _ T191 (mkF m 61 #[rv a, iv (cf t), .val (.double (FP.l2d (kf t))), .second, iv (1 : Int32), iv (1 : Int32)] [(.int (1 : Int32))])
    refine go (fun _ => XS.ifNo X191.here hx rfl (hb hby d2_61) rfl (XT.i0_le_f ((by decide) : (0 : Int32) < (1 : Int32)))) ?_
    show Ends p e below _ T191 (mkF m 64 #[rv a, iv (cf t), .val (.double (FP.l2d (kf t))), .second, iv (1 : Int32), iv (1 : Int32)] [])
    refine go (fun _ => XS.iload X191.here hx rfl (hb hby d2_64) rfl) ?_
    refine go (fun _ => XT.iconstV X191.here hx rfl (1 : Int32) (hb hby d2_66) (by decide)) ?_
    refine go (fun _ => XS.isub X191.here hx rfl (hb hby d2_67) rfl) ?_
    refine go (fun _ => XT.iconstV X191.here hx rfl (2 : Int32) (hb hby d2_68) (by decide)) ?_
    show Ends p e below _ T191 (mkF m 69 #[rv a, iv (cf t), .val (.double (FP.l2d (kf t))), .second, iv (1 : Int32), iv (1 : Int32)] [(.int (2 : Int32)), (.int (0 : Int32))])
    refine go (fun _ => XS.idiv X191.here hx rfl (hb hby d2_69) rfl (by decide)) ?_
    show Ends p e below _ T191 (mkF m 70 #[rv a, iv (cf t), .val (.double (FP.l2d (kf t))), .second, iv (1 : Int32), iv (1 : Int32)] [(.int (0 : Int32))])
    refine go (fun _ => XS.istore X191.here hx rfl (hb hby d2_70) rfl (l' := #[rv a, iv (cf t), .val (.double (FP.l2d (kf t))), .second, iv (1 : Int32), iv (0 : Int32)]) rfl) ?_
    refine go (fun _ => XS.aloadN X191.here hx rfl (hb hby d2_72) rfl rfl) ?_
    show Ends p e below _ T191 (mkF m 73 #[rv a, iv (cf t), .val (.double (FP.l2d (kf t))), .second, iv (1 : Int32), iv (0 : Int32)] [(.ref a)])
    have F193 := (Fld.other W191 F186 (Or.inl n2))
    obtain ⟨T194, X194, e194, s194⟩ := getF X191 hx hZ hown (host := "") (Or.inl (hwi hw 17 rfl)) Via.refl e191 F193 (g := (mkF m 73 #[rv a, iv (cf t), .val (.double (FP.l2d (kf t))), .second, iv (1 : Int32), iv (0 : Int32)] [(.ref a)])) rfl rfl (hb hby d2_73)
    refine go s194 ?_
    show Ends p e below _ T194 (mkF m 76 #[rv a, iv (cf t), .val (.double (FP.l2d (kf t))), .second, iv (1 : Int32), iv (0 : Int32)] [(.ref ak)])
    refine go (fun _ => XS.iload X194.here hx rfl (hb hby d2_76) rfl) ?_
    show Ends p e below _ T194 (mkF m 78 #[rv a, iv (cf t), .val (.double (FP.l2d (kf t))), .second, iv (1 : Int32), iv (0 : Int32)] [(.int (0 : Int32)), (.ref ak)])
    obtain ⟨cl195, A195, -, S195, M195, H195, -⟩ := id V191
    have B195 := inb_of S195 (j := (0 : Int32)) (by decide)
    refine go (fun _ => X194.daload hx (j := (0 : Int32)) (v := (.double (FP.l2d (kf q.a)))) (by rw [e194]; exact A195.1) (State.isArrayOf_alike hZ.alike A195.2.1) A195.2.2 B195 (H195.at B195 rfl) (g := (mkF m 78 #[rv a, iv (cf t), .val (.double (FP.l2d (kf t))), .second, iv (1 : Int32), iv (0 : Int32)] [(.int (0 : Int32)), (.ref ak)])) rfl rfl (hb hby d2_78) _) ?_
    show Ends p e below _ T194 (mkF m 79 #[rv a, iv (cf t), .val (.double (FP.l2d (kf t))), .second, iv (1 : Int32), iv (0 : Int32)] [(.double (FP.l2d (kf q.a)))])
    refine go (fun _ => XS.dloadN X194.here hx rfl (hb hby d2_79) rfl) ?_
    show Ends p e below _ T194 (mkF m 80 #[rv a, iv (cf t), .val (.double (FP.l2d (kf t))), .second, iv (1 : Int32), iv (0 : Int32)] [(.double (FP.l2d (kf t))), (.double (FP.l2d (kf q.a)))])
    refine go (fun _ => XS.dcmpS X194.here hx rfl (hb hby d2_80) rfl ((dcmpV_w (hB _) (hB _) _).trans (own_lw _ _))) ?_
    show Ends p e below _ T194 (mkF m 81 #[rv a, iv (cf t), .val (.double (FP.l2d (kf t))), .second, iv (1 : Int32), iv (0 : Int32)] [(.int (XT.cmpL (kf q.a) (kf t)))])
    by_cases c81_196 : (kf t) < (kf q.a)
    · refine go (fun _ => XS.ifYes X194.here hx rfl (pc0 := 81) (pc' := 87) rfl (hb hby d2_81) rfl (XT.ll_gt_t c81_196) (by decide) (by decide)) ?_
      show Ends p e below _ T194 (mkF m 87 #[rv a, iv (cf t), .val (.double (FP.l2d (kf t))), .second, iv (1 : Int32), iv (0 : Int32)] [])
      refine go (fun _ => XS.aloadN X194.here hx rfl (hb hby d2_87) rfl rfl) ?_
      show Ends p e below _ T194 (mkF m 88 #[rv a, iv (cf t), .val (.double (FP.l2d (kf t))), .second, iv (1 : Int32), iv (0 : Int32)] [(.ref a)])
      have F197 := (Fld.other W191 (Fld.other W184 F179 (Or.inl n1)) (Or.inl n2))
      obtain ⟨T198, X198, e198, s198⟩ := getF X194 hx hZ hown (host := "") (Or.inl (hwi hw 14 rfl)) Via.refl e194 F197 (g := (mkF m 88 #[rv a, iv (cf t), .val (.double (FP.l2d (kf t))), .second, iv (1 : Int32), iv (0 : Int32)] [(.ref a)])) rfl rfl (hb hby d2_88)
      refine go s198 ?_
      show Ends p e below _ T198 (mkF m 91 #[rv a, iv (cf t), .val (.double (FP.l2d (kf t))), .second, iv (1 : Int32), iv (0 : Int32)] [(.ref ac)])
      refine go (fun _ => XS.iload X198.here hx rfl (hb hby d2_91) rfl) ?_
      refine go (fun _ => XS.aloadN X198.here hx rfl (hb hby d2_93) rfl rfl) ?_
      show Ends p e below _ T198 (mkF m 94 #[rv a, iv (cf t), .val (.double (FP.l2d (kf t))), .second, iv (1 : Int32), iv (0 : Int32)] [(.ref a), (.int (1 : Int32)), (.ref ac)])
      obtain ⟨T199, X199, e199, s199⟩ := getF X198 hx hZ hown (host := "") (Or.inl (hwi hw 14 rfl)) Via.refl e198 F197 (g := (mkF m 94 #[rv a, iv (cf t), .val (.double (FP.l2d (kf t))), .second, iv (1 : Int32), iv (0 : Int32)] [(.ref a), (.int (1 : Int32)), (.ref ac)])) rfl rfl (hb hby d2_94)
      refine go s199 ?_
      show Ends p e below _ T199 (mkF m 97 #[rv a, iv (cf t), .val (.double (FP.l2d (kf t))), .second, iv (1 : Int32), iv (0 : Int32)] [(.ref ac), (.int (1 : Int32)), (.ref ac)])
      refine go (fun _ => XS.iload X199.here hx rfl (hb hby d2_97) rfl) ?_
      show Ends p e below _ T199 (mkF m 99 #[rv a, iv (cf t), .val (.double (FP.l2d (kf t))), .second, iv (1 : Int32), iv (0 : Int32)] [(.int (0 : Int32)), (.ref ac), (.int (1 : Int32)), (.ref ac)])
      have F200 := (Arv.other V184 W191 n3)
      obtain ⟨cl201, A201, -, S201, M201, H201, -⟩ := id F200
      have B201 := inb_of S201 (j := (0 : Int32)) (by decide)
      refine go (fun _ => X199.iaload hx (j := (0 : Int32)) (v := (.int (cf q.a))) (by rw [e199]; exact A201.1) (State.isArrayOf_alike hZ.alike A201.2.1) A201.2.2 B201 (H201.at B201 rfl) (g := (mkF m 99 #[rv a, iv (cf t), .val (.double (FP.l2d (kf t))), .second, iv (1 : Int32), iv (0 : Int32)] [(.int (0 : Int32)), (.ref ac), (.int (1 : Int32)), (.ref ac)])) rfl rfl (hb hby d2_99) _) ?_
      show Ends p e below _ T199 (mkF m 100 #[rv a, iv (cf t), .val (.double (FP.l2d (kf t))), .second, iv (1 : Int32), iv (0 : Int32)] [(.int (cf q.a)), (.int (1 : Int32)), (.ref ac)])
      obtain ⟨cl202, A202, q202, S202, M202, H202, G202⟩ := id F200
      obtain ⟨T202, h202, X202, e202, W202, s202⟩ := stI X199 hx hZ e199 A202 (j := (1 : Int32)) (inb_of S202 (by decide)) (g := (mkF m 100 #[rv a, iv (cf t), .val (.double (FP.l2d (kf t))), .second, iv (1 : Int32), iv (0 : Int32)] [(.int (cf q.a)), (.int (1 : Int32)), (.ref ac)])) rfl rfl (hb hby d2_100)
      have N202 := Fr.snoc X202 N191 fc
      have O203 : Ext Z.heap h202 := xw O192 W202 fc
      have V202 : Arv Z h202 ac kc .int (1024 : Int32) [(.int (cf q.a)), (.int (cf q.a)), (.int (cf q.c)), (.int (cf q.b)), (.int (cf q.e))] (.int 0) := Arv.set A202 q202 S202 M202 H202 G202 rfl W202 1 (by decide) (Nat.le_of_ble_eq_true rfl)
      refine go s202 ?_
      show Ends p e below _ T202 (mkF m 101 #[rv a, iv (cf t), .val (.double (FP.l2d (kf t))), .second, iv (1 : Int32), iv (0 : Int32)] [])
      refine go (fun _ => XS.aloadN X202.here hx rfl (hb hby d2_101) rfl rfl) ?_
      show Ends p e below _ T202 (mkF m 102 #[rv a, iv (cf t), .val (.double (FP.l2d (kf t))), .second, iv (1 : Int32), iv (0 : Int32)] [(.ref a)])
      have F204 := (Fld.other W202 F193 (Or.inl n1))
      obtain ⟨T205, X205, e205, s205⟩ := getF X202 hx hZ hown (host := "") (Or.inl (hwi hw 17 rfl)) Via.refl e202 F204 (g := (mkF m 102 #[rv a, iv (cf t), .val (.double (FP.l2d (kf t))), .second, iv (1 : Int32), iv (0 : Int32)] [(.ref a)])) rfl rfl (hb hby d2_102)
      refine go s205 ?_
      show Ends p e below _ T205 (mkF m 105 #[rv a, iv (cf t), .val (.double (FP.l2d (kf t))), .second, iv (1 : Int32), iv (0 : Int32)] [(.ref ak)])
      refine go (fun _ => XS.iload X205.here hx rfl (hb hby d2_105) rfl) ?_
      refine go (fun _ => XS.aloadN X205.here hx rfl (hb hby d2_107) rfl rfl) ?_
      show Ends p e below _ T205 (mkF m 108 #[rv a, iv (cf t), .val (.double (FP.l2d (kf t))), .second, iv (1 : Int32), iv (0 : Int32)] [(.ref a), (.int (1 : Int32)), (.ref ak)])
      obtain ⟨T206, X206, e206, s206⟩ := getF X205 hx hZ hown (host := "") (Or.inl (hwi hw 17 rfl)) Via.refl e205 F204 (g := (mkF m 108 #[rv a, iv (cf t), .val (.double (FP.l2d (kf t))), .second, iv (1 : Int32), iv (0 : Int32)] [(.ref a), (.int (1 : Int32)), (.ref ak)])) rfl rfl (hb hby d2_108)
      refine go s206 ?_
      show Ends p e below _ T206 (mkF m 111 #[rv a, iv (cf t), .val (.double (FP.l2d (kf t))), .second, iv (1 : Int32), iv (0 : Int32)] [(.ref ak), (.int (1 : Int32)), (.ref ak)])
      refine go (fun _ => XS.iload X206.here hx rfl (hb hby d2_111) rfl) ?_
      show Ends p e below _ T206 (mkF m 113 #[rv a, iv (cf t), .val (.double (FP.l2d (kf t))), .second, iv (1 : Int32), iv (0 : Int32)] [(.int (0 : Int32)), (.ref ak), (.int (1 : Int32)), (.ref ak)])
      have F207 := (Arv.other V191 W202 (Ne.symm n3))
      obtain ⟨cl208, A208, -, S208, M208, H208, -⟩ := id F207
      have B208 := inb_of S208 (j := (0 : Int32)) (by decide)
      refine go (fun _ => X206.daload hx (j := (0 : Int32)) (v := (.double (FP.l2d (kf q.a)))) (by rw [e206]; exact A208.1) (State.isArrayOf_alike hZ.alike A208.2.1) A208.2.2 B208 (H208.at B208 rfl) (g := (mkF m 113 #[rv a, iv (cf t), .val (.double (FP.l2d (kf t))), .second, iv (1 : Int32), iv (0 : Int32)] [(.int (0 : Int32)), (.ref ak), (.int (1 : Int32)), (.ref ak)])) rfl rfl (hb hby d2_113) _) ?_
      show Ends p e below _ T206 (mkF m 114 #[rv a, iv (cf t), .val (.double (FP.l2d (kf t))), .second, iv (1 : Int32), iv (0 : Int32)] [(.double (FP.l2d (kf q.a))), (.int (1 : Int32)), (.ref ak)])
      obtain ⟨cl209, A209, q209, S209, M209, H209, G209⟩ := id F207
      obtain ⟨T209, h209, X209, e209, W209, s209⟩ := stD X206 hx hZ e206 A209 (j := (1 : Int32)) (inb_of S209 (by decide)) (g := (mkF m 114 #[rv a, iv (cf t), .val (.double (FP.l2d (kf t))), .second, iv (1 : Int32), iv (0 : Int32)] [(.double (FP.l2d (kf q.a))), (.int (1 : Int32)), (.ref ak)])) rfl rfl (hb hby d2_114)
      have N209 := Fr.snoc X209 N202 fk
      have O210 : Ext Z.heap h209 := xw O203 W209 fk
      have V209 : Arv Z h209 ak kk .double (1024 : Int32) [(.double (FP.l2d (kf q.a))), (.double (FP.l2d (kf q.a))), (.double (FP.l2d (kf q.c))), (.double (FP.l2d (kf q.b))), (.double (FP.l2d (kf q.e)))] (.double (FP.l2d 0)) := Arv.set A209 q209 S209 M209 H209 G209 rfl W209 1 (by decide) (Nat.le_of_ble_eq_true rfl)
      refine go s209 ?_
      show Ends p e below _ T209 (mkF m 115 #[rv a, iv (cf t), .val (.double (FP.l2d (kf t))), .second, iv (1 : Int32), iv (0 : Int32)] [])
      refine go (fun _ => XS.iload X209.here hx rfl (hb hby d2_115) rfl) ?_
      refine go (fun _ => XS.istore X209.here hx rfl (hb hby d2_117) rfl (l' := #[rv a, iv (cf t), .val (.double (FP.l2d (kf t))), .second, iv (0 : Int32), iv (0 : Int32)]) rfl) ?_
      refine go (fun _ => XS.goto X209.here hx rfl (pc0 := 119) (pc' := 59) rfl (hb hby d2_119) (by decide) (by decide)) ?_
      refine go (fun _ => XS.iload X209.here hx rfl (hb hby d2_59) rfl) ?_
      show Ends p e below _ T209 (mkF m 61 #[rv a, iv (cf t), .val (.double (FP.l2d (kf t))), .second, iv (0 : Int32), iv (0 : Int32)] [(.int (0 : Int32))])
      refine go (fun _ => XS.ifYes X209.here hx rfl (pc0 := 61) (pc' := 122) rfl (hb hby d2_61) rfl (XT.i0_le_t ((by decide) : ¬ ((0 : Int32) < (0 : Int32)))) (by decide) (by decide)) ?_
      show Ends p e below _ T209 (mkF m 122 #[rv a, iv (cf t), .val (.double (FP.l2d (kf t))), .second, iv (0 : Int32), iv (0 : Int32)] [])
      refine go (fun _ => XS.aloadN X209.here hx rfl (hb hby d2_122) rfl rfl) ?_
      show Ends p e below _ T209 (mkF m 123 #[rv a, iv (cf t), .val (.double (FP.l2d (kf t))), .second, iv (0 : Int32), iv (0 : Int32)] [(.ref a)])
      have F211 := (Fld.other W209 (Fld.other W202 F197 (Or.inl n1)) (Or.inl n2))
      obtain ⟨T212, X212, e212, s212⟩ := getF X209 hx hZ hown (host := "") (Or.inl (hwi hw 14 rfl)) Via.refl e209 F211 (g := (mkF m 123 #[rv a, iv (cf t), .val (.double (FP.l2d (kf t))), .second, iv (0 : Int32), iv (0 : Int32)] [(.ref a)])) rfl rfl (hb hby d2_123)
      refine go s212 ?_
      show Ends p e below _ T212 (mkF m 126 #[rv a, iv (cf t), .val (.double (FP.l2d (kf t))), .second, iv (0 : Int32), iv (0 : Int32)] [(.ref ac)])
      refine go (fun _ => XS.iload X212.here hx rfl (hb hby d2_126) rfl) ?_
      refine go (fun _ => XS.iloadN X212.here hx rfl (hb hby d2_128) rfl) ?_
      show Ends p e below _ T212 (mkF m 129 #[rv a, iv (cf t), .val (.double (FP.l2d (kf t))), .second, iv (0 : Int32), iv (0 : Int32)] [(.int (cf t)), (.int (0 : Int32)), (.ref ac)])
      have F213 := (Arv.other V202 W209 n3)
      obtain ⟨cl214, A214, q214, S214, M214, H214, G214⟩ := id F213
      obtain ⟨T214, h214, X214, e214, W214, s214⟩ := stI X212 hx hZ e212 A214 (j := (0 : Int32)) (inb_of S214 (by decide)) (g := (mkF m 129 #[rv a, iv (cf t), .val (.double (FP.l2d (kf t))), .second, iv (0 : Int32), iv (0 : Int32)] [(.int (cf t)), (.int (0 : Int32)), (.ref ac)])) rfl rfl (hb hby d2_129)
      have N214 := Fr.snoc X214 N209 fc
      have O215 : Ext Z.heap h214 := xw O210 W214 fc
      have V214 : Arv Z h214 ac kc .int (1024 : Int32) [(.int (cf t)), (.int (cf q.a)), (.int (cf q.c)), (.int (cf q.b)), (.int (cf q.e))] (.int 0) := Arv.set A214 q214 S214 M214 H214 G214 rfl W214 0 (by decide) (Nat.le_of_ble_eq_true rfl)
      refine go s214 ?_
      show Ends p e below _ T214 (mkF m 130 #[rv a, iv (cf t), .val (.double (FP.l2d (kf t))), .second, iv (0 : Int32), iv (0 : Int32)] [])
      refine go (fun _ => XS.aloadN X214.here hx rfl (hb hby d2_130) rfl rfl) ?_
      show Ends p e below _ T214 (mkF m 131 #[rv a, iv (cf t), .val (.double (FP.l2d (kf t))), .second, iv (0 : Int32), iv (0 : Int32)] [(.ref a)])
      have F216 := (Fld.other W214 (Fld.other W209 F204 (Or.inl n2)) (Or.inl n1))
      obtain ⟨T217, X217, e217, s217⟩ := getF X214 hx hZ hown (host := "") (Or.inl (hwi hw 17 rfl)) Via.refl e214 F216 (g := (mkF m 131 #[rv a, iv (cf t), .val (.double (FP.l2d (kf t))), .second, iv (0 : Int32), iv (0 : Int32)] [(.ref a)])) rfl rfl (hb hby d2_131)
      refine go s217 ?_
      show Ends p e below _ T217 (mkF m 134 #[rv a, iv (cf t), .val (.double (FP.l2d (kf t))), .second, iv (0 : Int32), iv (0 : Int32)] [(.ref ak)])
      refine go (fun _ => XS.iload X217.here hx rfl (hb hby d2_134) rfl) ?_
      show Ends p e below _ T217 (mkF m 136 #[rv a, iv (cf t), .val (.double (FP.l2d (kf t))), .second, iv (0 : Int32), iv (0 : Int32)] [(.int (0 : Int32)), (.ref ak)])
      refine go (fun _ => XS.dloadN X217.here hx rfl (hb hby d2_136) rfl) ?_
      show Ends p e below _ T217 (mkF m 137 #[rv a, iv (cf t), .val (.double (FP.l2d (kf t))), .second, iv (0 : Int32), iv (0 : Int32)] [(.double (FP.l2d (kf t))), (.int (0 : Int32)), (.ref ak)])
      have F218 := (Arv.other V209 W214 (Ne.symm n3))
      obtain ⟨cl219, A219, q219, S219, M219, H219, G219⟩ := id F218
      obtain ⟨T219, h219, X219, e219, W219, s219⟩ := stD X217 hx hZ e217 A219 (j := (0 : Int32)) (inb_of S219 (by decide)) (g := (mkF m 137 #[rv a, iv (cf t), .val (.double (FP.l2d (kf t))), .second, iv (0 : Int32), iv (0 : Int32)] [(.double (FP.l2d (kf t))), (.int (0 : Int32)), (.ref ak)])) rfl rfl (hb hby d2_137)
      have N219 := Fr.snoc X219 N214 fk
      have O220 : Ext Z.heap h219 := xw O215 W219 fk
      have V219 : Arv Z h219 ak kk .double (1024 : Int32) [(.double (FP.l2d (kf t))), (.double (FP.l2d (kf q.a))), (.double (FP.l2d (kf q.c))), (.double (FP.l2d (kf q.b))), (.double (FP.l2d (kf q.e)))] (.double (FP.l2d 0)) := Arv.set A219 q219 S219 M219 H219 G219 rfl W219 0 (by decide) (Nat.le_of_ble_eq_true rfl)
      refine go s219 ?_
      show Ends p e below _ T219 (mkF m 138 #[rv a, iv (cf t), .val (.double (FP.l2d (kf t))), .second, iv (0 : Int32), iv (0 : Int32)] [])
      have u221 : lt t q.b = true := (hlt _ _ ht hqb).mpr c81_178
      have u222 : lt t q.a = true := (hlt _ _ ht hqa).mpr c81_196
      have z223 : qn = (⟨t, q.a, q.c, q.b, q.e⟩ : L5) := hqn.symm.trans (by simp only [hpush3, u221, u222, if_true, if_false, Bool.false_eq_true])
      have F224 := (Arv.other V214 W219 n3)
      have K225 : Keep h0 h219 [a, ac, ak] := (Keep.wr (Keep.wr (Keep.wr (Keep.wr (Keep.wr (Keep.wr (Keep.wr (Keep.refl _ _) W172 (Or.inl (List.mem_of_getElem? (i := 0) rfl))) W184 (Or.inl (List.mem_of_getElem? (i := 1) rfl))) W191 (Or.inl (List.mem_of_getElem? (i := 2) rfl))) W202 (Or.inl (List.mem_of_getElem? (i := 1) rfl))) W209 (Or.inl (List.mem_of_getElem? (i := 2) rfl))) W214 (Or.inl (List.mem_of_getElem? (i := 1) rfl))) W219 (Or.inl (List.mem_of_getElem? (i := 2) rfl)))
      have F226 := (Fld.other W219 (Fld.other W214 F211 (Or.inl n1)) (Or.inl n2))
      have F227 := (Fld.other W219 F216 (Or.inl n2))
      have F228 := (Fld.other W219 (Fld.other W214 (Fld.other W209 (Fld.other W202 (Fld.other W191 (Fld.other W184 (Fld.same W172 F3) (Or.inl n1)) (Or.inl n2)) (Or.inl n1)) (Or.inl n2)) (Or.inl n1)) (Or.inl n2))
      exact endV X219 hx hret (hb hby d2_138) (lvN X219 hlk e219 (fun _ => rfl) ⟨rfl, N219, K225, F226, F227, F228, by rw [z223]; exact F224, by rw [z223]; exact V219⟩ (by decide) (by decide))
    · refine go (fun _ => XS.ifNo X194.here hx rfl (hb hby d2_81) rfl (XT.ll_gt_f c81_196)) ?_
      show Ends p e below _ T194 (mkF m 84 #[rv a, iv (cf t), .val (.double (FP.l2d (kf t))), .second, iv (1 : Int32), iv (0 : Int32)] [])
      refine go (fun _ => XS.goto X194.here hx rfl (pc0 := 84) (pc' := 122) rfl (hb hby d2_84) (by decide) (by decide)) ?_
      refine go (fun _ => XS.aloadN X194.here hx rfl (hb hby d2_122) rfl rfl) ?_
      show Ends p e below _ T194 (mkF m 123 #[rv a, iv (cf t), .val (.double (FP.l2d (kf t))), .second, iv (1 : Int32), iv (0 : Int32)] [(.ref a)])
      have F229 := (Fld.other W191 (Fld.other W184 F179 (Or.inl n1)) (Or.inl n2))
      obtain ⟨T230, X230, e230, s230⟩ := getF X194 hx hZ hown (host := "") (Or.inl (hwi hw 14 rfl)) Via.refl e194 F229 (g := (mkF m 123 #[rv a, iv (cf t), .val (.double (FP.l2d (kf t))), .second, iv (1 : Int32), iv (0 : Int32)] [(.ref a)])) rfl rfl (hb hby d2_123)
      refine go s230 ?_
      show Ends p e below _ T230 (mkF m 126 #[rv a, iv (cf t), .val (.double (FP.l2d (kf t))), .second, iv (1 : Int32), iv (0 : Int32)] [(.ref ac)])
      refine go (fun _ => XS.iload X230.here hx rfl (hb hby d2_126) rfl) ?_
      refine go (fun _ => XS.iloadN X230.here hx rfl (hb hby d2_128) rfl) ?_
      show Ends p e below _ T230 (mkF m 129 #[rv a, iv (cf t), .val (.double (FP.l2d (kf t))), .second, iv (1 : Int32), iv (0 : Int32)] [(.int (cf t)), (.int (1 : Int32)), (.ref ac)])
      have F231 := (Arv.other V184 W191 n3)
      obtain ⟨cl232, A232, q232, S232, M232, H232, G232⟩ := id F231
      obtain ⟨T232, h232, X232, e232, W232, s232⟩ := stI X230 hx hZ e230 A232 (j := (1 : Int32)) (inb_of S232 (by decide)) (g := (mkF m 129 #[rv a, iv (cf t), .val (.double (FP.l2d (kf t))), .second, iv (1 : Int32), iv (0 : Int32)] [(.int (cf t)), (.int (1 : Int32)), (.ref ac)])) rfl rfl (hb hby d2_129)
      have N232 := Fr.snoc X232 N191 fc
      have O233 : Ext Z.heap h232 := xw O192 W232 fc
      have V232 : Arv Z h232 ac kc .int (1024 : Int32) [(.int (cf q.a)), (.int (cf t)), (.int (cf q.c)), (.int (cf q.b)), (.int (cf q.e))] (.int 0) := Arv.set A232 q232 S232 M232 H232 G232 rfl W232 1 (by decide) (Nat.le_of_ble_eq_true rfl)
      refine go s232 ?_
      show Ends p e below _ T232 (mkF m 130 #[rv a, iv (cf t), .val (.double (FP.l2d (kf t))), .second, iv (1 : Int32), iv (0 : Int32)] [])
      refine go (fun _ => XS.aloadN X232.here hx rfl (hb hby d2_130) rfl rfl) ?_
      show Ends p e below _ T232 (mkF m 131 #[rv a, iv (cf t), .val (.double (FP.l2d (kf t))), .second, iv (1 : Int32), iv (0 : Int32)] [(.ref a)])
      have F234 := (Fld.other W232 F193 (Or.inl n1))
      obtain ⟨T235, X235, e235, s235⟩ := getF X232 hx hZ hown (host := "") (Or.inl (hwi hw 17 rfl)) Via.refl e232 F234 (g := (mkF m 131 #[rv a, iv (cf t), .val (.double (FP.l2d (kf t))), .second, iv (1 : Int32), iv (0 : Int32)] [(.ref a)])) rfl rfl (hb hby d2_131)
      refine go s235 ?_
      show Ends p e below _ T235 (mkF m 134 #[rv a, iv (cf t), .val (.double (FP.l2d (kf t))), .second, iv (1 : Int32), iv (0 : Int32)] [(.ref ak)])
      refine go (fun _ => XS.iload X235.here hx rfl (hb hby d2_134) rfl) ?_
      show Ends p e below _ T235 (mkF m 136 #[rv a, iv (cf t), .val (.double (FP.l2d (kf t))), .second, iv (1 : Int32), iv (0 : Int32)] [(.int (1 : Int32)), (.ref ak)])
      refine go (fun _ => XS.dloadN X235.here hx rfl (hb hby d2_136) rfl) ?_
      show Ends p e below _ T235 (mkF m 137 #[rv a, iv (cf t), .val (.double (FP.l2d (kf t))), .second, iv (1 : Int32), iv (0 : Int32)] [(.double (FP.l2d (kf t))), (.int (1 : Int32)), (.ref ak)])
      have F236 := (Arv.other V191 W232 (Ne.symm n3))
      obtain ⟨cl237, A237, q237, S237, M237, H237, G237⟩ := id F236
      obtain ⟨T237, h237, X237, e237, W237, s237⟩ := stD X235 hx hZ e235 A237 (j := (1 : Int32)) (inb_of S237 (by decide)) (g := (mkF m 137 #[rv a, iv (cf t), .val (.double (FP.l2d (kf t))), .second, iv (1 : Int32), iv (0 : Int32)] [(.double (FP.l2d (kf t))), (.int (1 : Int32)), (.ref ak)])) rfl rfl (hb hby d2_137)
      have N237 := Fr.snoc X237 N232 fk
      have O238 : Ext Z.heap h237 := xw O233 W237 fk
      have V237 : Arv Z h237 ak kk .double (1024 : Int32) [(.double (FP.l2d (kf q.a))), (.double (FP.l2d (kf t))), (.double (FP.l2d (kf q.c))), (.double (FP.l2d (kf q.b))), (.double (FP.l2d (kf q.e)))] (.double (FP.l2d 0)) := Arv.set A237 q237 S237 M237 H237 G237 rfl W237 1 (by decide) (Nat.le_of_ble_eq_true rfl)
      refine go s237 ?_
      show Ends p e below _ T237 (mkF m 138 #[rv a, iv (cf t), .val (.double (FP.l2d (kf t))), .second, iv (1 : Int32), iv (0 : Int32)] [])
      have u239 : lt t q.b = true := (hlt _ _ ht hqb).mpr c81_178
      have u240 : ¬ lt t q.a = true := fun z => c81_196 ((hlt _ _ ht hqa).mp z)
      have z241 : qn = (⟨q.a, t, q.c, q.b, q.e⟩ : L5) := hqn.symm.trans (by simp only [hpush3, u239, u240, if_true, if_false, Bool.false_eq_true])
      have F242 := (Arv.other V232 W237 n3)
      have K243 : Keep h0 h237 [a, ac, ak] := (Keep.wr (Keep.wr (Keep.wr (Keep.wr (Keep.wr (Keep.refl _ _) W172 (Or.inl (List.mem_of_getElem? (i := 0) rfl))) W184 (Or.inl (List.mem_of_getElem? (i := 1) rfl))) W191 (Or.inl (List.mem_of_getElem? (i := 2) rfl))) W232 (Or.inl (List.mem_of_getElem? (i := 1) rfl))) W237 (Or.inl (List.mem_of_getElem? (i := 2) rfl)))
      have F244 := (Fld.other W237 (Fld.other W232 F229 (Or.inl n1)) (Or.inl n2))
      have F245 := (Fld.other W237 F234 (Or.inl n2))
      have F246 := (Fld.other W237 (Fld.other W232 (Fld.other W191 (Fld.other W184 (Fld.same W172 F3) (Or.inl n1)) (Or.inl n2)) (Or.inl n1)) (Or.inl n2))
      exact endV X237 hx hret (hb hby d2_138) (lvN X237 hlk e237 (fun _ => rfl) ⟨rfl, N237, K243, F244, F245, F246, by rw [z241]; exact F242, by rw [z241]; exact V237⟩ (by decide) (by decide))
  · refine go (fun _ => XS.ifNo X175.here hx rfl (hb hby d2_81) rfl (XT.ll_gt_f c81_178)) ?_
    show Ends p e below _ T175 (mkF m 84 #[rv a, iv (cf t), .val (.double (FP.l2d (kf t))), .second, iv (3 : Int32), iv (1 : Int32)] [])
    refine go (fun _ => XS.goto X175.here hx rfl (pc0 := 84) (pc' := 122) rfl (hb hby d2_84) (by decide) (by decide)) ?_
    refine go (fun _ => XS.aloadN X175.here hx rfl (hb hby d2_122) rfl rfl) ?_
    show Ends p e below _ T175 (mkF m 123 #[rv a, iv (cf t), .val (.double (FP.l2d (kf t))), .second, iv (3 : Int32), iv (1 : Int32)] [(.ref a)])
    have F247 := (Fld.other W172 F1 (Or.inr (slot_ne (a0 := a0) (Or.inl (hwi hw 15 rfl)) (Or.inl (hwi hw 25 rfl)) (by decide) (t := (.array .int)) (t' := .int) (by decide) (by decide))))
    obtain ⟨T248, X248, e248, s248⟩ := getF X175 hx hZ hown (host := "") (Or.inl (hwi hw 14 rfl)) Via.refl e175 F247 (g := (mkF m 123 #[rv a, iv (cf t), .val (.double (FP.l2d (kf t))), .second, iv (3 : Int32), iv (1 : Int32)] [(.ref a)])) rfl rfl (hb hby d2_123)
    refine go s248 ?_
    show Ends p e below _ T248 (mkF m 126 #[rv a, iv (cf t), .val (.double (FP.l2d (kf t))), .second, iv (3 : Int32), iv (1 : Int32)] [(.ref ac)])
    refine go (fun _ => XS.iload X248.here hx rfl (hb hby d2_126) rfl) ?_
    refine go (fun _ => XS.iloadN X248.here hx rfl (hb hby d2_128) rfl) ?_
    show Ends p e below _ T248 (mkF m 129 #[rv a, iv (cf t), .val (.double (FP.l2d (kf t))), .second, iv (3 : Int32), iv (1 : Int32)] [(.int (cf t)), (.int (3 : Int32)), (.ref ac)])
    have F249 := (Arv.other Vc W172 (Ne.symm n1))
    obtain ⟨cl250, A250, q250, S250, M250, H250, G250⟩ := id F249
    obtain ⟨T250, h250, X250, e250, W250, s250⟩ := stI X248 hx hZ e248 A250 (j := (3 : Int32)) (inb_of S250 (by decide)) (g := (mkF m 129 #[rv a, iv (cf t), .val (.double (FP.l2d (kf t))), .second, iv (3 : Int32), iv (1 : Int32)] [(.int (cf t)), (.int (3 : Int32)), (.ref ac)])) rfl rfl (hb hby d2_129)
    have N250 := Fr.snoc X250 N172 fc
    have O251 : Ext Z.heap h250 := xw O173 W250 fc
    have V250 : Arv Z h250 ac kc .int (1024 : Int32) [(.int (cf q.a)), (.int (cf q.b)), (.int (cf q.c)), (.int (cf t)), (.int (cf q.e))] (.int 0) := Arv.set A250 q250 S250 M250 H250 G250 rfl W250 3 (by decide) (Nat.le_of_ble_eq_true rfl)
    refine go s250 ?_
    show Ends p e below _ T250 (mkF m 130 #[rv a, iv (cf t), .val (.double (FP.l2d (kf t))), .second, iv (3 : Int32), iv (1 : Int32)] [])
    refine go (fun _ => XS.aloadN X250.here hx rfl (hb hby d2_130) rfl rfl) ?_
    show Ends p e below _ T250 (mkF m 131 #[rv a, iv (cf t), .val (.double (FP.l2d (kf t))), .second, iv (3 : Int32), iv (1 : Int32)] [(.ref a)])
    have F252 := (Fld.other W250 F174 (Or.inl n1))
    obtain ⟨T253, X253, e253, s253⟩ := getF X250 hx hZ hown (host := "") (Or.inl (hwi hw 17 rfl)) Via.refl e250 F252 (g := (mkF m 131 #[rv a, iv (cf t), .val (.double (FP.l2d (kf t))), .second, iv (3 : Int32), iv (1 : Int32)] [(.ref a)])) rfl rfl (hb hby d2_131)
    refine go s253 ?_
    show Ends p e below _ T253 (mkF m 134 #[rv a, iv (cf t), .val (.double (FP.l2d (kf t))), .second, iv (3 : Int32), iv (1 : Int32)] [(.ref ak)])
    refine go (fun _ => XS.iload X253.here hx rfl (hb hby d2_134) rfl) ?_
    show Ends p e below _ T253 (mkF m 136 #[rv a, iv (cf t), .val (.double (FP.l2d (kf t))), .second, iv (3 : Int32), iv (1 : Int32)] [(.int (3 : Int32)), (.ref ak)])
    refine go (fun _ => XS.dloadN X253.here hx rfl (hb hby d2_136) rfl) ?_
    show Ends p e below _ T253 (mkF m 137 #[rv a, iv (cf t), .val (.double (FP.l2d (kf t))), .second, iv (3 : Int32), iv (1 : Int32)] [(.double (FP.l2d (kf t))), (.int (3 : Int32)), (.ref ak)])
    have F254 := (Arv.other F176 W250 (Ne.symm n3))
    obtain ⟨cl255, A255, q255, S255, M255, H255, G255⟩ := id F254
    obtain ⟨T255, h255, X255, e255, W255, s255⟩ := stD X253 hx hZ e253 A255 (j := (3 : Int32)) (inb_of S255 (by decide)) (g := (mkF m 137 #[rv a, iv (cf t), .val (.double (FP.l2d (kf t))), .second, iv (3 : Int32), iv (1 : Int32)] [(.double (FP.l2d (kf t))), (.int (3 : Int32)), (.ref ak)])) rfl rfl (hb hby d2_137)
    have N255 := Fr.snoc X255 N250 fk
    have O256 : Ext Z.heap h255 := xw O251 W255 fk
    have V255 : Arv Z h255 ak kk .double (1024 : Int32) [(.double (FP.l2d (kf q.a))), (.double (FP.l2d (kf q.b))), (.double (FP.l2d (kf q.c))), (.double (FP.l2d (kf t))), (.double (FP.l2d (kf q.e)))] (.double (FP.l2d 0)) := Arv.set A255 q255 S255 M255 H255 G255 rfl W255 3 (by decide) (Nat.le_of_ble_eq_true rfl)
    refine go s255 ?_
    show Ends p e below _ T255 (mkF m 138 #[rv a, iv (cf t), .val (.double (FP.l2d (kf t))), .second, iv (3 : Int32), iv (1 : Int32)] [])
    have u257 : ¬ lt t q.b = true := fun z => c81_178 ((hlt _ _ ht hqb).mp z)
    have z258 : qn = (⟨q.a, q.b, q.c, t, q.e⟩ : L5) := hqn.symm.trans (by simp only [hpush3, u257, if_true, if_false, Bool.false_eq_true])
    have F259 := (Arv.other V250 W255 n3)
    have K260 : Keep h0 h255 [a, ac, ak] := (Keep.wr (Keep.wr (Keep.wr (Keep.refl _ _) W172 (Or.inl (List.mem_of_getElem? (i := 0) rfl))) W250 (Or.inl (List.mem_of_getElem? (i := 1) rfl))) W255 (Or.inl (List.mem_of_getElem? (i := 2) rfl)))
    have F261 := (Fld.other W255 (Fld.other W250 F247 (Or.inl n1)) (Or.inl n2))
    have F262 := (Fld.other W255 F252 (Or.inl n2))
    have F263 := (Fld.other W255 (Fld.other W250 (Fld.same W172 F3) (Or.inl n1)) (Or.inl n2))
    exact endV X255 hx hret (hb hby d2_138) (lvN X255 hlk e255 (fun _ => rfl) ⟨rfl, N255, K260, F261, F262, F263, by rw [z258]; exact F259, by rw [z258]; exact V255⟩ (by decide) (by decide))
set_option maxRecDepth 65536 in
set_option maxHeartbeats 40000000 in
theorem rm_push4 {l : Launch} {Z : State} {a0 : Array Value} (hw : ∀ d ∈ tables_1, d.before a0 Z = true) (a ac ak : Addr) (kc kk : ClassId) (cf : Nat → Int32) (kf : Nat → Int64) (lt : Nat → Nat → Bool) (q qn : L5) (t : Nat) (h0 : Heap) (O0 : Ext Z.heap h0) (f0 : Z.heap.size ≤ a) (fc : Z.heap.size ≤ ac) (fk : Z.heap.size ≤ ak) (n1 : a ≠ ac) (n2 : a ≠ ak) (n3 : ac ≠ ak) (E0 : Exa Z h0 a "com/example/pedestrain/pedestrain/core/CellHeap") (F1 : Fld Z h0 a "com/example/pedestrain/pedestrain/core/CellHeap" "cells" "[I" (.ref ac)) (F2 : Fld Z h0 a "com/example/pedestrain/pedestrain/core/CellHeap" "keys" "[D" (.ref ak)) (F3 : Fld Z h0 a "com/example/pedestrain/pedestrain/core/CellHeap" "size" "I" (.int (4 : Int32))) (Vc : Arv Z h0 ac kc .int (1024 : Int32) [(.int (cf q.a)), (.int (cf q.b)), (.int (cf q.c)), (.int (cf q.d)), (.int (cf q.e))] (.int 0)) (Vk : Arv Z h0 ak kk .double (1024 : Int32) [(.double (FP.l2d (kf q.a))), (.double (FP.l2d (kf q.b))), (.double (FP.l2d (kf q.c))), (.double (FP.l2d (kf q.d))), (.double (FP.l2d (kf q.e)))] (.double (FP.l2d 0))) (hB : ∀ i, B53 (kf i)) (hlt : ∀ i j, i < 5 → j < 5 → (lt i j = true ↔ kf i < kf j)) (hqa : q.a < 5) (hqb : q.b < 5) (hqc : q.c < 5) (hqd : q.d < 5) (ht : t < 5) (hqn : hpush4 lt q t = qn) :
    Con l (⟨"com/example/pedestrain/pedestrain/core/CellHeap", "push", "(ID)V"⟩ : MethodName) prog_4_method_5_code 6 none ({ frames := 0, cells := 0, slots := 0, locals := 0 } : Room) Z #[(.ref a), (.int (cf t)), (.double (FP.l2d (kf t)))] h0 (fun v h L => v = none ∧ Fr Z.heap.size L ∧ Keep h0 h [a, ac, ak] ∧ Fld Z h a "com/example/pedestrain/pedestrain/core/CellHeap" "cells" "[I" (.ref ac) ∧ Fld Z h a "com/example/pedestrain/pedestrain/core/CellHeap" "keys" "[D" (.ref ak) ∧ Fld Z h a "com/example/pedestrain/pedestrain/core/CellHeap" "size" "I" (.int (5 : Int32)) ∧ Arv Z h ac kc .int (1024 : Int32) [(.int (cf qn.a)), (.int (cf qn.b)), (.int (cf qn.c)), (.int (cf qn.d)), (.int (cf qn.e))] (.int 0) ∧ Arv Z h ak kk .double (1024 : Int32) [(.double (FP.l2d (kf qn.a))), (.double (FP.l2d (kf qn.b))), (.double (FP.l2d (kf qn.c))), (.double (FP.l2d (kf qn.d))), (.double (FP.l2d (kf qn.e)))] (.double (FP.l2d 0))) := by
  refine Con.of (plainFor_of_name pn_1) (Ls := #[rv a, iv (cf t), .val (.double (FP.l2d (kf t))), .second, .unset, .unset]) (fun m => efOf rfl) ?_
  intro p e s m below meth c T0 X0 hx hZ hby hml hown hnm hret hlk e0
  refine go (fun _ => XS.aloadN X0.here hx rfl (hb hby d2_0) rfl rfl) ?_
  show Ends p e below _ T0 (mkF m 1 #[rv a, iv (cf t), .val (.double (FP.l2d (kf t))), .second, .unset, .unset] [(.ref a)])
  obtain ⟨T264, X264, e264, s264⟩ := getF X0 hx hZ hown (host := "") (Or.inl (hwi hw 24 rfl)) Via.refl e0 F3 (g := (mkF m 1 #[rv a, iv (cf t), .val (.double (FP.l2d (kf t))), .second, .unset, .unset] [(.ref a)])) rfl rfl (hb hby d2_1)
  refine go s264 ?_
  show Ends p e below _ T264 (mkF m 4 #[rv a, iv (cf t), .val (.double (FP.l2d (kf t))), .second, .unset, .unset] [(.int (4 : Int32))])
  refine go (fun _ => XS.aloadN X264.here hx rfl (hb hby d2_4) rfl rfl) ?_
  show Ends p e below _ T264 (mkF m 5 #[rv a, iv (cf t), .val (.double (FP.l2d (kf t))), .second, .unset, .unset] [(.ref a), (.int (4 : Int32))])
  obtain ⟨T265, X265, e265, s265⟩ := getF X264 hx hZ hown (host := "") (Or.inl (hwi hw 14 rfl)) Via.refl e264 F1 (g := (mkF m 5 #[rv a, iv (cf t), .val (.double (FP.l2d (kf t))), .second, .unset, .unset] [(.ref a), (.int (4 : Int32))])) rfl rfl (hb hby d2_5)
  refine go s265 ?_
  show Ends p e below _ T265 (mkF m 8 #[rv a, iv (cf t), .val (.double (FP.l2d (kf t))), .second, .unset, .unset] [(.ref ac), (.int (4 : Int32))])
  obtain ⟨cl266, A266, -, S266, M266, -⟩ := id Vc
  refine go (fun _ => X265.arraylength hx (cell := cl266) (by rw [e265]; exact A266.1) (State.isArrayOf_alike hZ.alike A266.2.1) (g := (mkF m 8 #[rv a, iv (cf t), .val (.double (FP.l2d (kf t))), .second, .unset, .unset] [(.ref ac), (.int (4 : Int32))])) rfl rfl (hb hby d2_8) _) ?_
  rw [len_of S266 M266]
  show Ends p e below _ T265 (mkF m 9 #[rv a, iv (cf t), .val (.double (FP.l2d (kf t))), .second, .unset, .unset] [(.int (1024 : Int32)), (.int (4 : Int32))])
  refine go (fun _ => XS.icmpYes X265.here hx rfl (pc0 := 9) (pc' := 46) rfl (hb hby d2_9) rfl (XT.ii_ne_t ((by decide) : ¬ ((4 : Int32) = (1024 : Int32)))) (by decide) (by decide)) ?_
  show Ends p e below _ T265 (mkF m 46 #[rv a, iv (cf t), .val (.double (FP.l2d (kf t))), .second, .unset, .unset] [])
  refine go (fun _ => XS.aloadN X265.here hx rfl (hb hby d2_46) rfl rfl) ?_
  refine go (fun _ => XS.dup X265.here hx rfl (hb hby d2_47) rfl rfl) ?_
  show Ends p e below _ T265 (mkF m 48 #[rv a, iv (cf t), .val (.double (FP.l2d (kf t))), .second, .unset, .unset] [(.ref a), (.ref a)])
  obtain ⟨T267, X267, e267, s267⟩ := getF X265 hx hZ hown (host := "") (Or.inl (hwi hw 24 rfl)) Via.refl e265 F3 (g := (mkF m 48 #[rv a, iv (cf t), .val (.double (FP.l2d (kf t))), .second, .unset, .unset] [(.ref a), (.ref a)])) rfl rfl (hb hby d2_48)
  refine go s267 ?_
  show Ends p e below _ T267 (mkF m 51 #[rv a, iv (cf t), .val (.double (FP.l2d (kf t))), .second, .unset, .unset] [(.int (4 : Int32)), (.ref a)])
  refine go (fun _ => XT.dupX1 X267.here hx rfl (hb hby d2_51) rfl rfl rfl) ?_
  show Ends p e below _ T267 (mkF m 52 #[rv a, iv (cf t), .val (.double (FP.l2d (kf t))), .second, .unset, .unset] [(.int (4 : Int32)), (.ref a), (.int (4 : Int32))])
  refine go (fun _ => XT.iconstV X267.here hx rfl (1 : Int32) (hb hby d2_52) (by decide)) ?_
  refine go (fun _ => XS.iadd X267.here hx rfl (hb hby d2_53) rfl) ?_
  show Ends p e below _ T267 (mkF m 54 #[rv a, iv (cf t), .val (.double (FP.l2d (kf t))), .second, .unset, .unset] [(.int (5 : Int32)), (.ref a), (.int (4 : Int32))])
  obtain ⟨T268, h268, X268, e268, W268, s268⟩ := putF X267 hx hZ hown (host := "") (Or.inl (hwi hw 24 rfl)) Via.refl e267 F3 E0 (Or.inl (hwi hw 25 rfl)) (hwi hw 6 rfl) (ty := .int) (by decide) rfl rfl (g := (mkF m 54 #[rv a, iv (cf t), .val (.double (FP.l2d (kf t))), .second, .unset, .unset] [(.int (5 : Int32)), (.ref a), (.int (4 : Int32))])) rfl rfl (hb hby d2_54)
  have N268 := Fr.snoc X268 (Fr.nil _) f0
  have O269 : Ext Z.heap h268 := xw O0 W268 f0
  refine go s268 ?_
  show Ends p e below _ T268 (mkF m 57 #[rv a, iv (cf t), .val (.double (FP.l2d (kf t))), .second, .unset, .unset] [(.int (4 : Int32))])
  refine go (fun _ => XS.istore X268.here hx rfl (hb hby d2_57) rfl (l' := #[rv a, iv (cf t), .val (.double (FP.l2d (kf t))), .second, iv (4 : Int32), .unset]) rfl) ?_
  refine go (fun _ => XS.iload X268.here hx rfl (hb hby d2_59) rfl) ?_
  show Ends p e below _ T268 (mkF m 61 #[rv a, iv (cf t), .val (.double (FP.l2d (kf t))), .second, iv (4 : Int32), .unset] [(.int (4 : Int32))])
  refine go (fun _ => XS.ifNo X268.here hx rfl (hb hby d2_61) rfl (XT.i0_le_f ((by decide) : (0 : Int32) < (4 : Int32)))) ?_
  show Ends p e below _ T268 (mkF m 64 #[rv a, iv (cf t), .val (.double (FP.l2d (kf t))), .second, iv (4 : Int32), .unset] [])
  refine go (fun _ => XS.iload X268.here hx rfl (hb hby d2_64) rfl) ?_
  refine go (fun _ => XT.iconstV X268.here hx rfl (1 : Int32) (hb hby d2_66) (by decide)) ?_
  refine go (fun _ => XS.isub X268.here hx rfl (hb hby d2_67) rfl) ?_
  refine go (fun _ => XT.iconstV X268.here hx rfl (2 : Int32) (hb hby d2_68) (by decide)) ?_
  show Ends p e below _ T268 (mkF m 69 #[rv a, iv (cf t), .val (.double (FP.l2d (kf t))), .second, iv (4 : Int32), .unset] [(.int (2 : Int32)), (.int (3 : Int32))])
  refine go (fun _ => XS.idiv X268.here hx rfl (hb hby d2_69) rfl (by decide)) ?_
  show Ends p e below _ T268 (mkF m 70 #[rv a, iv (cf t), .val (.double (FP.l2d (kf t))), .second, iv (4 : Int32), .unset] [(.int (1 : Int32))])
  refine go (fun _ => XS.istore X268.here hx rfl (hb hby d2_70) rfl (l' := #[rv a, iv (cf t), .val (.double (FP.l2d (kf t))), .second, iv (4 : Int32), iv (1 : Int32)]) rfl) ?_
  refine go (fun _ => XS.aloadN X268.here hx rfl (hb hby d2_72) rfl rfl) ?_
  show Ends p e below _ T268 (mkF m 73 #[rv a, iv (cf t), .val (.double (FP.l2d (kf t))), .second, iv (4 : Int32), iv (1 : Int32)] [(.ref a)])
  have F270 := (Fld.other W268 F2 (Or.inr (slot_ne (a0 := a0) (Or.inl (hwi hw 18 rfl)) (Or.inl (hwi hw 25 rfl)) (by decide) (t := (.array .double)) (t' := .int) (by decide) (by decide))))
  obtain ⟨T271, X271, e271, s271⟩ := getF X268 hx hZ hown (host := "") (Or.inl (hwi hw 17 rfl)) Via.refl e268 F270 (g := (mkF m 73 #[rv a, iv (cf t), .val (.double (FP.l2d (kf t))), .second, iv (4 : Int32), iv (1 : Int32)] [(.ref a)])) rfl rfl (hb hby d2_73)
  refine go s271 ?_
  show Ends p e below _ T271 (mkF m 76 #[rv a, iv (cf t), .val (.double (FP.l2d (kf t))), .second, iv (4 : Int32), iv (1 : Int32)] [(.ref ak)])
  refine go (fun _ => XS.iload X271.here hx rfl (hb hby d2_76) rfl) ?_
  show Ends p e below _ T271 (mkF m 78 #[rv a, iv (cf t), .val (.double (FP.l2d (kf t))), .second, iv (4 : Int32), iv (1 : Int32)] [(.int (1 : Int32)), (.ref ak)])
  have F272 := (Arv.other Vk W268 (Ne.symm n2))
  obtain ⟨cl273, A273, -, S273, M273, H273, -⟩ := id F272
  have B273 := inb_of S273 (j := (1 : Int32)) (by decide)
  refine go (fun _ => X271.daload hx (j := (1 : Int32)) (v := (.double (FP.l2d (kf q.b)))) (by rw [e271]; exact A273.1) (State.isArrayOf_alike hZ.alike A273.2.1) A273.2.2 B273 (H273.at B273 rfl) (g := (mkF m 78 #[rv a, iv (cf t), .val (.double (FP.l2d (kf t))), .second, iv (4 : Int32), iv (1 : Int32)] [(.int (1 : Int32)), (.ref ak)])) rfl rfl (hb hby d2_78) _) ?_
  show Ends p e below _ T271 (mkF m 79 #[rv a, iv (cf t), .val (.double (FP.l2d (kf t))), .second, iv (4 : Int32), iv (1 : Int32)] [(.double (FP.l2d (kf q.b)))])
  refine go (fun _ => XS.dloadN X271.here hx rfl (hb hby d2_79) rfl) ?_
  show Ends p e below _ T271 (mkF m 80 #[rv a, iv (cf t), .val (.double (FP.l2d (kf t))), .second, iv (4 : Int32), iv (1 : Int32)] [(.double (FP.l2d (kf t))), (.double (FP.l2d (kf q.b)))])
  refine go (fun _ => XS.dcmpS X271.here hx rfl (hb hby d2_80) rfl ((dcmpV_w (hB _) (hB _) _).trans (own_lw _ _))) ?_
  show Ends p e below _ T271 (mkF m 81 #[rv a, iv (cf t), .val (.double (FP.l2d (kf t))), .second, iv (4 : Int32), iv (1 : Int32)] [(.int (XT.cmpL (kf q.b) (kf t)))])
  by_cases c81_274 : (kf t) < (kf q.b)
  · refine go (fun _ => XS.ifYes X271.here hx rfl (pc0 := 81) (pc' := 87) rfl (hb hby d2_81) rfl (XT.ll_gt_t c81_274) (by decide) (by decide)) ?_
    show Ends p e below _ T271 (mkF m 87 #[rv a, iv (cf t), .val (.double (FP.l2d (kf t))), .second, iv (4 : Int32), iv (1 : Int32)] [])
    refine go (fun _ => XS.aloadN X271.here hx rfl (hb hby d2_87) rfl rfl) ?_
    show Ends p e below _ T271 (mkF m 88 #[rv a, iv (cf t), .val (.double (FP.l2d (kf t))), .second, iv (4 : Int32), iv (1 : Int32)] [(.ref a)])
    have F275 := (Fld.other W268 F1 (Or.inr (slot_ne (a0 := a0) (Or.inl (hwi hw 15 rfl)) (Or.inl (hwi hw 25 rfl)) (by decide) (t := (.array .int)) (t' := .int) (by decide) (by decide))))
    obtain ⟨T276, X276, e276, s276⟩ := getF X271 hx hZ hown (host := "") (Or.inl (hwi hw 14 rfl)) Via.refl e271 F275 (g := (mkF m 88 #[rv a, iv (cf t), .val (.double (FP.l2d (kf t))), .second, iv (4 : Int32), iv (1 : Int32)] [(.ref a)])) rfl rfl (hb hby d2_88)
    refine go s276 ?_
    show Ends p e below _ T276 (mkF m 91 #[rv a, iv (cf t), .val (.double (FP.l2d (kf t))), .second, iv (4 : Int32), iv (1 : Int32)] [(.ref ac)])
    refine go (fun _ => XS.iload X276.here hx rfl (hb hby d2_91) rfl) ?_
    refine go (fun _ => XS.aloadN X276.here hx rfl (hb hby d2_93) rfl rfl) ?_
    show Ends p e below _ T276 (mkF m 94 #[rv a, iv (cf t), .val (.double (FP.l2d (kf t))), .second, iv (4 : Int32), iv (1 : Int32)] [(.ref a), (.int (4 : Int32)), (.ref ac)])
    obtain ⟨T277, X277, e277, s277⟩ := getF X276 hx hZ hown (host := "") (Or.inl (hwi hw 14 rfl)) Via.refl e276 F275 (g := (mkF m 94 #[rv a, iv (cf t), .val (.double (FP.l2d (kf t))), .second, iv (4 : Int32), iv (1 : Int32)] [(.ref a), (.int (4 : Int32)), (.ref ac)])) rfl rfl (hb hby d2_94)
    refine go s277 ?_
    show Ends p e below _ T277 (mkF m 97 #[rv a, iv (cf t), .val (.double (FP.l2d (kf t))), .second, iv (4 : Int32), iv (1 : Int32)] [(.ref ac), (.int (4 : Int32)), (.ref ac)])
    refine go (fun _ => XS.iload X277.here hx rfl (hb hby d2_97) rfl) ?_
    show Ends p e below _ T277 (mkF m 99 #[rv a, iv (cf t), .val (.double (FP.l2d (kf t))), .second, iv (4 : Int32), iv (1 : Int32)] [(.int (1 : Int32)), (.ref ac), (.int (4 : Int32)), (.ref ac)])
    have F278 := (Arv.other Vc W268 (Ne.symm n1))
    obtain ⟨cl279, A279, -, S279, M279, H279, -⟩ := id F278
    have B279 := inb_of S279 (j := (1 : Int32)) (by decide)
    refine go (fun _ => X277.iaload hx (j := (1 : Int32)) (v := (.int (cf q.b))) (by rw [e277]; exact A279.1) (State.isArrayOf_alike hZ.alike A279.2.1) A279.2.2 B279 (H279.at B279 rfl) (g := (mkF m 99 #[rv a, iv (cf t), .val (.double (FP.l2d (kf t))), .second, iv (4 : Int32), iv (1 : Int32)] [(.int (1 : Int32)), (.ref ac), (.int (4 : Int32)), (.ref ac)])) rfl rfl (hb hby d2_99) _) ?_
    show Ends p e below _ T277 (mkF m 100 #[rv a, iv (cf t), .val (.double (FP.l2d (kf t))), .second, iv (4 : Int32), iv (1 : Int32)] [(.int (cf q.b)), (.int (4 : Int32)), (.ref ac)])
    obtain ⟨cl280, A280, q280, S280, M280, H280, G280⟩ := id F278
    obtain ⟨T280, h280, X280, e280, W280, s280⟩ := stI X277 hx hZ e277 A280 (j := (4 : Int32)) (inb_of S280 (by decide)) (g := (mkF m 100 #[rv a, iv (cf t), .val (.double (FP.l2d (kf t))), .second, iv (4 : Int32), iv (1 : Int32)] [(.int (cf q.b)), (.int (4 : Int32)), (.ref ac)])) rfl rfl (hb hby d2_100)
    have N280 := Fr.snoc X280 N268 fc
    have O281 : Ext Z.heap h280 := xw O269 W280 fc
    have V280 : Arv Z h280 ac kc .int (1024 : Int32) [(.int (cf q.a)), (.int (cf q.b)), (.int (cf q.c)), (.int (cf q.d)), (.int (cf q.b))] (.int 0) := Arv.set A280 q280 S280 M280 H280 G280 rfl W280 4 (by decide) (Nat.le_of_ble_eq_true rfl)
    refine go s280 ?_
    show Ends p e below _ T280 (mkF m 101 #[rv a, iv (cf t), .val (.double (FP.l2d (kf t))), .second, iv (4 : Int32), iv (1 : Int32)] [])
    refine go (fun _ => XS.aloadN X280.here hx rfl (hb hby d2_101) rfl rfl) ?_
    show Ends p e below _ T280 (mkF m 102 #[rv a, iv (cf t), .val (.double (FP.l2d (kf t))), .second, iv (4 : Int32), iv (1 : Int32)] [(.ref a)])
    have F282 := (Fld.other W280 F270 (Or.inl n1))
    obtain ⟨T283, X283, e283, s283⟩ := getF X280 hx hZ hown (host := "") (Or.inl (hwi hw 17 rfl)) Via.refl e280 F282 (g := (mkF m 102 #[rv a, iv (cf t), .val (.double (FP.l2d (kf t))), .second, iv (4 : Int32), iv (1 : Int32)] [(.ref a)])) rfl rfl (hb hby d2_102)
    refine go s283 ?_
    show Ends p e below _ T283 (mkF m 105 #[rv a, iv (cf t), .val (.double (FP.l2d (kf t))), .second, iv (4 : Int32), iv (1 : Int32)] [(.ref ak)])
    refine go (fun _ => XS.iload X283.here hx rfl (hb hby d2_105) rfl) ?_
    refine go (fun _ => XS.aloadN X283.here hx rfl (hb hby d2_107) rfl rfl) ?_
    show Ends p e below _ T283 (mkF m 108 #[rv a, iv (cf t), .val (.double (FP.l2d (kf t))), .second, iv (4 : Int32), iv (1 : Int32)] [(.ref a), (.int (4 : Int32)), (.ref ak)])
    obtain ⟨T284, X284, e284, s284⟩ := getF X283 hx hZ hown (host := "") (Or.inl (hwi hw 17 rfl)) Via.refl e283 F282 (g := (mkF m 108 #[rv a, iv (cf t), .val (.double (FP.l2d (kf t))), .second, iv (4 : Int32), iv (1 : Int32)] [(.ref a), (.int (4 : Int32)), (.ref ak)])) rfl rfl (hb hby d2_108)
    refine go s284 ?_
    show Ends p e below _ T284 (mkF m 111 #[rv a, iv (cf t), .val (.double (FP.l2d (kf t))), .second, iv (4 : Int32), iv (1 : Int32)] [(.ref ak), (.int (4 : Int32)), (.ref ak)])
    refine go (fun _ => XS.iload X284.here hx rfl (hb hby d2_111) rfl) ?_
    show Ends p e below _ T284 (mkF m 113 #[rv a, iv (cf t), .val (.double (FP.l2d (kf t))), .second, iv (4 : Int32), iv (1 : Int32)] [(.int (1 : Int32)), (.ref ak), (.int (4 : Int32)), (.ref ak)])
    have F285 := (Arv.other F272 W280 (Ne.symm n3))
    obtain ⟨cl286, A286, -, S286, M286, H286, -⟩ := id F285
    have B286 := inb_of S286 (j := (1 : Int32)) (by decide)
    refine go (fun _ => X284.daload hx (j := (1 : Int32)) (v := (.double (FP.l2d (kf q.b)))) (by rw [e284]; exact A286.1) (State.isArrayOf_alike hZ.alike A286.2.1) A286.2.2 B286 (H286.at B286 rfl) (g := (mkF m 113 #[rv a, iv (cf t), .val (.double (FP.l2d (kf t))), .second, iv (4 : Int32), iv (1 : Int32)] [(.int (1 : Int32)), (.ref ak), (.int (4 : Int32)), (.ref ak)])) rfl rfl (hb hby d2_113) _) ?_
    show Ends p e below _ T284 (mkF m 114 #[rv a, iv (cf t), .val (.double (FP.l2d (kf t))), .second, iv (4 : Int32), iv (1 : Int32)] [(.double (FP.l2d (kf q.b))), (.int (4 : Int32)), (.ref ak)])
    obtain ⟨cl287, A287, q287, S287, M287, H287, G287⟩ := id F285
    obtain ⟨T287, h287, X287, e287, W287, s287⟩ := stD X284 hx hZ e284 A287 (j := (4 : Int32)) (inb_of S287 (by decide)) (g := (mkF m 114 #[rv a, iv (cf t), .val (.double (FP.l2d (kf t))), .second, iv (4 : Int32), iv (1 : Int32)] [(.double (FP.l2d (kf q.b))), (.int (4 : Int32)), (.ref ak)])) rfl rfl (hb hby d2_114)
    have N287 := Fr.snoc X287 N280 fk
    have O288 : Ext Z.heap h287 := xw O281 W287 fk
    have V287 : Arv Z h287 ak kk .double (1024 : Int32) [(.double (FP.l2d (kf q.a))), (.double (FP.l2d (kf q.b))), (.double (FP.l2d (kf q.c))), (.double (FP.l2d (kf q.d))), (.double (FP.l2d (kf q.b)))] (.double (FP.l2d 0)) := Arv.set A287 q287 S287 M287 H287 G287 rfl W287 4 (by decide) (Nat.le_of_ble_eq_true rfl)
    refine go s287 ?_
    show Ends p e below _ T287 (mkF m 115 #[rv a, iv (cf t), .val (.double (FP.l2d (kf t))), .second, iv (4 : Int32), iv (1 : Int32)] [])
    refine go (fun _ => XS.iload X287.here hx rfl (hb hby d2_115) rfl) ?_
    refine go (fun _ => XS.istore X287.here hx rfl (hb hby d2_117) rfl (l' := #[rv a, iv (cf t), .val (.double (FP.l2d (kf t))), .second, iv (1 : Int32), iv (1 : Int32)]) rfl) ?_
    refine go (fun _ => XS.goto X287.here hx rfl (pc0 := 119) (pc' := 59) rfl (hb hby d2_119) (by decide) (by decide)) ?_
    refine go (fun _ => XS.iload X287.here hx rfl (hb hby d2_59) rfl) ?_
    show Ends p e below _ T287 (mkF m 61 #[rv a, iv (cf t), .val (.double (FP.l2d (kf t))), .second, iv (1 : Int32), iv (1 : Int32)] [(.int (1 : Int32))])
    refine go (fun _ => XS.ifNo X287.here hx rfl (hb hby d2_61) rfl (XT.i0_le_f ((by decide) : (0 : Int32) < (1 : Int32)))) ?_
    show Ends p e below _ T287 (mkF m 64 #[rv a, iv (cf t), .val (.double (FP.l2d (kf t))), .second, iv (1 : Int32), iv (1 : Int32)] [])
    refine go (fun _ => XS.iload X287.here hx rfl (hb hby d2_64) rfl) ?_
    refine go (fun _ => XT.iconstV X287.here hx rfl (1 : Int32) (hb hby d2_66) (by decide)) ?_
    refine go (fun _ => XS.isub X287.here hx rfl (hb hby d2_67) rfl) ?_
    refine go (fun _ => XT.iconstV X287.here hx rfl (2 : Int32) (hb hby d2_68) (by decide)) ?_
    show Ends p e below _ T287 (mkF m 69 #[rv a, iv (cf t), .val (.double (FP.l2d (kf t))), .second, iv (1 : Int32), iv (1 : Int32)] [(.int (2 : Int32)), (.int (0 : Int32))])
    refine go (fun _ => XS.idiv X287.here hx rfl (hb hby d2_69) rfl (by decide)) ?_
    show Ends p e below _ T287 (mkF m 70 #[rv a, iv (cf t), .val (.double (FP.l2d (kf t))), .second, iv (1 : Int32), iv (1 : Int32)] [(.int (0 : Int32))])
    refine go (fun _ => XS.istore X287.here hx rfl (hb hby d2_70) rfl (l' := #[rv a, iv (cf t), .val (.double (FP.l2d (kf t))), .second, iv (1 : Int32), iv (0 : Int32)]) rfl) ?_
    refine go (fun _ => XS.aloadN X287.here hx rfl (hb hby d2_72) rfl rfl) ?_
    show Ends p e below _ T287 (mkF m 73 #[rv a, iv (cf t), .val (.double (FP.l2d (kf t))), .second, iv (1 : Int32), iv (0 : Int32)] [(.ref a)])
    have F289 := (Fld.other W287 F282 (Or.inl n2))
    obtain ⟨T290, X290, e290, s290⟩ := getF X287 hx hZ hown (host := "") (Or.inl (hwi hw 17 rfl)) Via.refl e287 F289 (g := (mkF m 73 #[rv a, iv (cf t), .val (.double (FP.l2d (kf t))), .second, iv (1 : Int32), iv (0 : Int32)] [(.ref a)])) rfl rfl (hb hby d2_73)
    refine go s290 ?_
    show Ends p e below _ T290 (mkF m 76 #[rv a, iv (cf t), .val (.double (FP.l2d (kf t))), .second, iv (1 : Int32), iv (0 : Int32)] [(.ref ak)])
    refine go (fun _ => XS.iload X290.here hx rfl (hb hby d2_76) rfl) ?_
    show Ends p e below _ T290 (mkF m 78 #[rv a, iv (cf t), .val (.double (FP.l2d (kf t))), .second, iv (1 : Int32), iv (0 : Int32)] [(.int (0 : Int32)), (.ref ak)])
    obtain ⟨cl291, A291, -, S291, M291, H291, -⟩ := id V287
    have B291 := inb_of S291 (j := (0 : Int32)) (by decide)
    refine go (fun _ => X290.daload hx (j := (0 : Int32)) (v := (.double (FP.l2d (kf q.a)))) (by rw [e290]; exact A291.1) (State.isArrayOf_alike hZ.alike A291.2.1) A291.2.2 B291 (H291.at B291 rfl) (g := (mkF m 78 #[rv a, iv (cf t), .val (.double (FP.l2d (kf t))), .second, iv (1 : Int32), iv (0 : Int32)] [(.int (0 : Int32)), (.ref ak)])) rfl rfl (hb hby d2_78) _) ?_
    show Ends p e below _ T290 (mkF m 79 #[rv a, iv (cf t), .val (.double (FP.l2d (kf t))), .second, iv (1 : Int32), iv (0 : Int32)] [(.double (FP.l2d (kf q.a)))])
    refine go (fun _ => XS.dloadN X290.here hx rfl (hb hby d2_79) rfl) ?_
    show Ends p e below _ T290 (mkF m 80 #[rv a, iv (cf t), .val (.double (FP.l2d (kf t))), .second, iv (1 : Int32), iv (0 : Int32)] [(.double (FP.l2d (kf t))), (.double (FP.l2d (kf q.a)))])
    refine go (fun _ => XS.dcmpS X290.here hx rfl (hb hby d2_80) rfl ((dcmpV_w (hB _) (hB _) _).trans (own_lw _ _))) ?_
    show Ends p e below _ T290 (mkF m 81 #[rv a, iv (cf t), .val (.double (FP.l2d (kf t))), .second, iv (1 : Int32), iv (0 : Int32)] [(.int (XT.cmpL (kf q.a) (kf t)))])
    by_cases c81_292 : (kf t) < (kf q.a)
    · refine go (fun _ => XS.ifYes X290.here hx rfl (pc0 := 81) (pc' := 87) rfl (hb hby d2_81) rfl (XT.ll_gt_t c81_292) (by decide) (by decide)) ?_
      show Ends p e below _ T290 (mkF m 87 #[rv a, iv (cf t), .val (.double (FP.l2d (kf t))), .second, iv (1 : Int32), iv (0 : Int32)] [])
      refine go (fun _ => XS.aloadN X290.here hx rfl (hb hby d2_87) rfl rfl) ?_
      show Ends p e below _ T290 (mkF m 88 #[rv a, iv (cf t), .val (.double (FP.l2d (kf t))), .second, iv (1 : Int32), iv (0 : Int32)] [(.ref a)])
      have F293 := (Fld.other W287 (Fld.other W280 F275 (Or.inl n1)) (Or.inl n2))
      obtain ⟨T294, X294, e294, s294⟩ := getF X290 hx hZ hown (host := "") (Or.inl (hwi hw 14 rfl)) Via.refl e290 F293 (g := (mkF m 88 #[rv a, iv (cf t), .val (.double (FP.l2d (kf t))), .second, iv (1 : Int32), iv (0 : Int32)] [(.ref a)])) rfl rfl (hb hby d2_88)
      refine go s294 ?_
      show Ends p e below _ T294 (mkF m 91 #[rv a, iv (cf t), .val (.double (FP.l2d (kf t))), .second, iv (1 : Int32), iv (0 : Int32)] [(.ref ac)])
      refine go (fun _ => XS.iload X294.here hx rfl (hb hby d2_91) rfl) ?_
      refine go (fun _ => XS.aloadN X294.here hx rfl (hb hby d2_93) rfl rfl) ?_
      show Ends p e below _ T294 (mkF m 94 #[rv a, iv (cf t), .val (.double (FP.l2d (kf t))), .second, iv (1 : Int32), iv (0 : Int32)] [(.ref a), (.int (1 : Int32)), (.ref ac)])
      obtain ⟨T295, X295, e295, s295⟩ := getF X294 hx hZ hown (host := "") (Or.inl (hwi hw 14 rfl)) Via.refl e294 F293 (g := (mkF m 94 #[rv a, iv (cf t), .val (.double (FP.l2d (kf t))), .second, iv (1 : Int32), iv (0 : Int32)] [(.ref a), (.int (1 : Int32)), (.ref ac)])) rfl rfl (hb hby d2_94)
      refine go s295 ?_
      show Ends p e below _ T295 (mkF m 97 #[rv a, iv (cf t), .val (.double (FP.l2d (kf t))), .second, iv (1 : Int32), iv (0 : Int32)] [(.ref ac), (.int (1 : Int32)), (.ref ac)])
      refine go (fun _ => XS.iload X295.here hx rfl (hb hby d2_97) rfl) ?_
      show Ends p e below _ T295 (mkF m 99 #[rv a, iv (cf t), .val (.double (FP.l2d (kf t))), .second, iv (1 : Int32), iv (0 : Int32)] [(.int (0 : Int32)), (.ref ac), (.int (1 : Int32)), (.ref ac)])
      have F296 := (Arv.other V280 W287 n3)
      obtain ⟨cl297, A297, -, S297, M297, H297, -⟩ := id F296
      have B297 := inb_of S297 (j := (0 : Int32)) (by decide)
      refine go (fun _ => X295.iaload hx (j := (0 : Int32)) (v := (.int (cf q.a))) (by rw [e295]; exact A297.1) (State.isArrayOf_alike hZ.alike A297.2.1) A297.2.2 B297 (H297.at B297 rfl) (g := (mkF m 99 #[rv a, iv (cf t), .val (.double (FP.l2d (kf t))), .second, iv (1 : Int32), iv (0 : Int32)] [(.int (0 : Int32)), (.ref ac), (.int (1 : Int32)), (.ref ac)])) rfl rfl (hb hby d2_99) _) ?_
      show Ends p e below _ T295 (mkF m 100 #[rv a, iv (cf t), .val (.double (FP.l2d (kf t))), .second, iv (1 : Int32), iv (0 : Int32)] [(.int (cf q.a)), (.int (1 : Int32)), (.ref ac)])
      obtain ⟨cl298, A298, q298, S298, M298, H298, G298⟩ := id F296
      obtain ⟨T298, h298, X298, e298, W298, s298⟩ := stI X295 hx hZ e295 A298 (j := (1 : Int32)) (inb_of S298 (by decide)) (g := (mkF m 100 #[rv a, iv (cf t), .val (.double (FP.l2d (kf t))), .second, iv (1 : Int32), iv (0 : Int32)] [(.int (cf q.a)), (.int (1 : Int32)), (.ref ac)])) rfl rfl (hb hby d2_100)
      have N298 := Fr.snoc X298 N287 fc
      have O299 : Ext Z.heap h298 := xw O288 W298 fc
      have V298 : Arv Z h298 ac kc .int (1024 : Int32) [(.int (cf q.a)), (.int (cf q.a)), (.int (cf q.c)), (.int (cf q.d)), (.int (cf q.b))] (.int 0) := Arv.set A298 q298 S298 M298 H298 G298 rfl W298 1 (by decide) (Nat.le_of_ble_eq_true rfl)
      refine go s298 ?_
      show Ends p e below _ T298 (mkF m 101 #[rv a, iv (cf t), .val (.double (FP.l2d (kf t))), .second, iv (1 : Int32), iv (0 : Int32)] [])
      refine go (fun _ => XS.aloadN X298.here hx rfl (hb hby d2_101) rfl rfl) ?_
      show Ends p e below _ T298 (mkF m 102 #[rv a, iv (cf t), .val (.double (FP.l2d (kf t))), .second, iv (1 : Int32), iv (0 : Int32)] [(.ref a)])
      have F300 := (Fld.other W298 F289 (Or.inl n1))
      obtain ⟨T301, X301, e301, s301⟩ := getF X298 hx hZ hown (host := "") (Or.inl (hwi hw 17 rfl)) Via.refl e298 F300 (g := (mkF m 102 #[rv a, iv (cf t), .val (.double (FP.l2d (kf t))), .second, iv (1 : Int32), iv (0 : Int32)] [(.ref a)])) rfl rfl (hb hby d2_102)
      refine go s301 ?_
      show Ends p e below _ T301 (mkF m 105 #[rv a, iv (cf t), .val (.double (FP.l2d (kf t))), .second, iv (1 : Int32), iv (0 : Int32)] [(.ref ak)])
      refine go (fun _ => XS.iload X301.here hx rfl (hb hby d2_105) rfl) ?_
      refine go (fun _ => XS.aloadN X301.here hx rfl (hb hby d2_107) rfl rfl) ?_
      show Ends p e below _ T301 (mkF m 108 #[rv a, iv (cf t), .val (.double (FP.l2d (kf t))), .second, iv (1 : Int32), iv (0 : Int32)] [(.ref a), (.int (1 : Int32)), (.ref ak)])
      obtain ⟨T302, X302, e302, s302⟩ := getF X301 hx hZ hown (host := "") (Or.inl (hwi hw 17 rfl)) Via.refl e301 F300 (g := (mkF m 108 #[rv a, iv (cf t), .val (.double (FP.l2d (kf t))), .second, iv (1 : Int32), iv (0 : Int32)] [(.ref a), (.int (1 : Int32)), (.ref ak)])) rfl rfl (hb hby d2_108)
      refine go s302 ?_
      show Ends p e below _ T302 (mkF m 111 #[rv a, iv (cf t), .val (.double (FP.l2d (kf t))), .second, iv (1 : Int32), iv (0 : Int32)] [(.ref ak), (.int (1 : Int32)), (.ref ak)])
      refine go (fun _ => XS.iload X302.here hx rfl (hb hby d2_111) rfl) ?_
      show Ends p e below _ T302 (mkF m 113 #[rv a, iv (cf t), .val (.double (FP.l2d (kf t))), .second, iv (1 : Int32), iv (0 : Int32)] [(.int (0 : Int32)), (.ref ak), (.int (1 : Int32)), (.ref ak)])
      have F303 := (Arv.other V287 W298 (Ne.symm n3))
      obtain ⟨cl304, A304, -, S304, M304, H304, -⟩ := id F303
      have B304 := inb_of S304 (j := (0 : Int32)) (by decide)
      refine go (fun _ => X302.daload hx (j := (0 : Int32)) (v := (.double (FP.l2d (kf q.a)))) (by rw [e302]; exact A304.1) (State.isArrayOf_alike hZ.alike A304.2.1) A304.2.2 B304 (H304.at B304 rfl) (g := (mkF m 113 #[rv a, iv (cf t), .val (.double (FP.l2d (kf t))), .second, iv (1 : Int32), iv (0 : Int32)] [(.int (0 : Int32)), (.ref ak), (.int (1 : Int32)), (.ref ak)])) rfl rfl (hb hby d2_113) _) ?_
      show Ends p e below _ T302 (mkF m 114 #[rv a, iv (cf t), .val (.double (FP.l2d (kf t))), .second, iv (1 : Int32), iv (0 : Int32)] [(.double (FP.l2d (kf q.a))), (.int (1 : Int32)), (.ref ak)])
      obtain ⟨cl305, A305, q305, S305, M305, H305, G305⟩ := id F303
      obtain ⟨T305, h305, X305, e305, W305, s305⟩ := stD X302 hx hZ e302 A305 (j := (1 : Int32)) (inb_of S305 (by decide)) (g := (mkF m 114 #[rv a, iv (cf t), .val (.double (FP.l2d (kf t))), .second, iv (1 : Int32), iv (0 : Int32)] [(.double (FP.l2d (kf q.a))), (.int (1 : Int32)), (.ref ak)])) rfl rfl (hb hby d2_114)
      have N305 := Fr.snoc X305 N298 fk
      have O306 : Ext Z.heap h305 := xw O299 W305 fk
      have V305 : Arv Z h305 ak kk .double (1024 : Int32) [(.double (FP.l2d (kf q.a))), (.double (FP.l2d (kf q.a))), (.double (FP.l2d (kf q.c))), (.double (FP.l2d (kf q.d))), (.double (FP.l2d (kf q.b)))] (.double (FP.l2d 0)) := Arv.set A305 q305 S305 M305 H305 G305 rfl W305 1 (by decide) (Nat.le_of_ble_eq_true rfl)
      refine go s305 ?_
      show Ends p e below _ T305 (mkF m 115 #[rv a, iv (cf t), .val (.double (FP.l2d (kf t))), .second, iv (1 : Int32), iv (0 : Int32)] [])
      refine go (fun _ => XS.iload X305.here hx rfl (hb hby d2_115) rfl) ?_
      refine go (fun _ => XS.istore X305.here hx rfl (hb hby d2_117) rfl (l' := #[rv a, iv (cf t), .val (.double (FP.l2d (kf t))), .second, iv (0 : Int32), iv (0 : Int32)]) rfl) ?_
      refine go (fun _ => XS.goto X305.here hx rfl (pc0 := 119) (pc' := 59) rfl (hb hby d2_119) (by decide) (by decide)) ?_
      refine go (fun _ => XS.iload X305.here hx rfl (hb hby d2_59) rfl) ?_
      show Ends p e below _ T305 (mkF m 61 #[rv a, iv (cf t), .val (.double (FP.l2d (kf t))), .second, iv (0 : Int32), iv (0 : Int32)] [(.int (0 : Int32))])
      refine go (fun _ => XS.ifYes X305.here hx rfl (pc0 := 61) (pc' := 122) rfl (hb hby d2_61) rfl (XT.i0_le_t ((by decide) : ¬ ((0 : Int32) < (0 : Int32)))) (by decide) (by decide)) ?_
      show Ends p e below _ T305 (mkF m 122 #[rv a, iv (cf t), .val (.double (FP.l2d (kf t))), .second, iv (0 : Int32), iv (0 : Int32)] [])
      refine go (fun _ => XS.aloadN X305.here hx rfl (hb hby d2_122) rfl rfl) ?_
      show Ends p e below _ T305 (mkF m 123 #[rv a, iv (cf t), .val (.double (FP.l2d (kf t))), .second, iv (0 : Int32), iv (0 : Int32)] [(.ref a)])
      have F307 := (Fld.other W305 (Fld.other W298 F293 (Or.inl n1)) (Or.inl n2))
      obtain ⟨T308, X308, e308, s308⟩ := getF X305 hx hZ hown (host := "") (Or.inl (hwi hw 14 rfl)) Via.refl e305 F307 (g := (mkF m 123 #[rv a, iv (cf t), .val (.double (FP.l2d (kf t))), .second, iv (0 : Int32), iv (0 : Int32)] [(.ref a)])) rfl rfl (hb hby d2_123)
      refine go s308 ?_
      show Ends p e below _ T308 (mkF m 126 #[rv a, iv (cf t), .val (.double (FP.l2d (kf t))), .second, iv (0 : Int32), iv (0 : Int32)] [(.ref ac)])
      refine go (fun _ => XS.iload X308.here hx rfl (hb hby d2_126) rfl) ?_
      refine go (fun _ => XS.iloadN X308.here hx rfl (hb hby d2_128) rfl) ?_
      show Ends p e below _ T308 (mkF m 129 #[rv a, iv (cf t), .val (.double (FP.l2d (kf t))), .second, iv (0 : Int32), iv (0 : Int32)] [(.int (cf t)), (.int (0 : Int32)), (.ref ac)])
      have F309 := (Arv.other V298 W305 n3)
      obtain ⟨cl310, A310, q310, S310, M310, H310, G310⟩ := id F309
      obtain ⟨T310, h310, X310, e310, W310, s310⟩ := stI X308 hx hZ e308 A310 (j := (0 : Int32)) (inb_of S310 (by decide)) (g := (mkF m 129 #[rv a, iv (cf t), .val (.double (FP.l2d (kf t))), .second, iv (0 : Int32), iv (0 : Int32)] [(.int (cf t)), (.int (0 : Int32)), (.ref ac)])) rfl rfl (hb hby d2_129)
      have N310 := Fr.snoc X310 N305 fc
      have O311 : Ext Z.heap h310 := xw O306 W310 fc
      have V310 : Arv Z h310 ac kc .int (1024 : Int32) [(.int (cf t)), (.int (cf q.a)), (.int (cf q.c)), (.int (cf q.d)), (.int (cf q.b))] (.int 0) := Arv.set A310 q310 S310 M310 H310 G310 rfl W310 0 (by decide) (Nat.le_of_ble_eq_true rfl)
      refine go s310 ?_
      show Ends p e below _ T310 (mkF m 130 #[rv a, iv (cf t), .val (.double (FP.l2d (kf t))), .second, iv (0 : Int32), iv (0 : Int32)] [])
      refine go (fun _ => XS.aloadN X310.here hx rfl (hb hby d2_130) rfl rfl) ?_
      show Ends p e below _ T310 (mkF m 131 #[rv a, iv (cf t), .val (.double (FP.l2d (kf t))), .second, iv (0 : Int32), iv (0 : Int32)] [(.ref a)])
      have F312 := (Fld.other W310 (Fld.other W305 F300 (Or.inl n2)) (Or.inl n1))
      obtain ⟨T313, X313, e313, s313⟩ := getF X310 hx hZ hown (host := "") (Or.inl (hwi hw 17 rfl)) Via.refl e310 F312 (g := (mkF m 131 #[rv a, iv (cf t), .val (.double (FP.l2d (kf t))), .second, iv (0 : Int32), iv (0 : Int32)] [(.ref a)])) rfl rfl (hb hby d2_131)
      refine go s313 ?_
      show Ends p e below _ T313 (mkF m 134 #[rv a, iv (cf t), .val (.double (FP.l2d (kf t))), .second, iv (0 : Int32), iv (0 : Int32)] [(.ref ak)])
      refine go (fun _ => XS.iload X313.here hx rfl (hb hby d2_134) rfl) ?_
      show Ends p e below _ T313 (mkF m 136 #[rv a, iv (cf t), .val (.double (FP.l2d (kf t))), .second, iv (0 : Int32), iv (0 : Int32)] [(.int (0 : Int32)), (.ref ak)])
      refine go (fun _ => XS.dloadN X313.here hx rfl (hb hby d2_136) rfl) ?_
      show Ends p e below _ T313 (mkF m 137 #[rv a, iv (cf t), .val (.double (FP.l2d (kf t))), .second, iv (0 : Int32), iv (0 : Int32)] [(.double (FP.l2d (kf t))), (.int (0 : Int32)), (.ref ak)])
      have F314 := (Arv.other V305 W310 (Ne.symm n3))
      obtain ⟨cl315, A315, q315, S315, M315, H315, G315⟩ := id F314
      obtain ⟨T315, h315, X315, e315, W315, s315⟩ := stD X313 hx hZ e313 A315 (j := (0 : Int32)) (inb_of S315 (by decide)) (g := (mkF m 137 #[rv a, iv (cf t), .val (.double (FP.l2d (kf t))), .second, iv (0 : Int32), iv (0 : Int32)] [(.double (FP.l2d (kf t))), (.int (0 : Int32)), (.ref ak)])) rfl rfl (hb hby d2_137)
      have N315 := Fr.snoc X315 N310 fk
      have O316 : Ext Z.heap h315 := xw O311 W315 fk
      have V315 : Arv Z h315 ak kk .double (1024 : Int32) [(.double (FP.l2d (kf t))), (.double (FP.l2d (kf q.a))), (.double (FP.l2d (kf q.c))), (.double (FP.l2d (kf q.d))), (.double (FP.l2d (kf q.b)))] (.double (FP.l2d 0)) := Arv.set A315 q315 S315 M315 H315 G315 rfl W315 0 (by decide) (Nat.le_of_ble_eq_true rfl)
      refine go s315 ?_
      show Ends p e below _ T315 (mkF m 138 #[rv a, iv (cf t), .val (.double (FP.l2d (kf t))), .second, iv (0 : Int32), iv (0 : Int32)] [])
      have u317 : lt t q.b = true := (hlt _ _ ht hqb).mpr c81_274
      have u318 : lt t q.a = true := (hlt _ _ ht hqa).mpr c81_292
      have z319 : qn = (⟨t, q.a, q.c, q.d, q.b⟩ : L5) := hqn.symm.trans (by simp only [hpush4, u317, u318, if_true, if_false, Bool.false_eq_true])
      have F320 := (Arv.other V310 W315 n3)
      have K321 : Keep h0 h315 [a, ac, ak] := (Keep.wr (Keep.wr (Keep.wr (Keep.wr (Keep.wr (Keep.wr (Keep.wr (Keep.refl _ _) W268 (Or.inl (List.mem_of_getElem? (i := 0) rfl))) W280 (Or.inl (List.mem_of_getElem? (i := 1) rfl))) W287 (Or.inl (List.mem_of_getElem? (i := 2) rfl))) W298 (Or.inl (List.mem_of_getElem? (i := 1) rfl))) W305 (Or.inl (List.mem_of_getElem? (i := 2) rfl))) W310 (Or.inl (List.mem_of_getElem? (i := 1) rfl))) W315 (Or.inl (List.mem_of_getElem? (i := 2) rfl)))
      have F322 := (Fld.other W315 (Fld.other W310 F307 (Or.inl n1)) (Or.inl n2))
      have F323 := (Fld.other W315 F312 (Or.inl n2))
      have F324 := (Fld.other W315 (Fld.other W310 (Fld.other W305 (Fld.other W298 (Fld.other W287 (Fld.other W280 (Fld.same W268 F3) (Or.inl n1)) (Or.inl n2)) (Or.inl n1)) (Or.inl n2)) (Or.inl n1)) (Or.inl n2))
      exact endV X315 hx hret (hb hby d2_138) (lvN X315 hlk e315 (fun _ => rfl) ⟨rfl, N315, K321, F322, F323, F324, by rw [z319]; exact F320, by rw [z319]; exact V315⟩ (by decide) (by decide))
    · refine go (fun _ => XS.ifNo X290.here hx rfl (hb hby d2_81) rfl (XT.ll_gt_f c81_292)) ?_
      show Ends p e below _ T290 (mkF m 84 #[rv a, iv (cf t), .val (.double (FP.l2d (kf t))), .second, iv (1 : Int32), iv (0 : Int32)] [])
      refine go (fun _ => XS.goto X290.here hx rfl (pc0 := 84) (pc' := 122) rfl (hb hby d2_84) (by decide) (by decide)) ?_
      refine go (fun _ => XS.aloadN X290.here hx rfl (hb hby d2_122) rfl rfl) ?_
      show Ends p e below _ T290 (mkF m 123 #[rv a, iv (cf t), .val (.double (FP.l2d (kf t))), .second, iv (1 : Int32), iv (0 : Int32)] [(.ref a)])
      have F325 := (Fld.other W287 (Fld.other W280 F275 (Or.inl n1)) (Or.inl n2))
      obtain ⟨T326, X326, e326, s326⟩ := getF X290 hx hZ hown (host := "") (Or.inl (hwi hw 14 rfl)) Via.refl e290 F325 (g := (mkF m 123 #[rv a, iv (cf t), .val (.double (FP.l2d (kf t))), .second, iv (1 : Int32), iv (0 : Int32)] [(.ref a)])) rfl rfl (hb hby d2_123)
      refine go s326 ?_
      show Ends p e below _ T326 (mkF m 126 #[rv a, iv (cf t), .val (.double (FP.l2d (kf t))), .second, iv (1 : Int32), iv (0 : Int32)] [(.ref ac)])
      refine go (fun _ => XS.iload X326.here hx rfl (hb hby d2_126) rfl) ?_
      refine go (fun _ => XS.iloadN X326.here hx rfl (hb hby d2_128) rfl) ?_
      show Ends p e below _ T326 (mkF m 129 #[rv a, iv (cf t), .val (.double (FP.l2d (kf t))), .second, iv (1 : Int32), iv (0 : Int32)] [(.int (cf t)), (.int (1 : Int32)), (.ref ac)])
      have F327 := (Arv.other V280 W287 n3)
      obtain ⟨cl328, A328, q328, S328, M328, H328, G328⟩ := id F327
      obtain ⟨T328, h328, X328, e328, W328, s328⟩ := stI X326 hx hZ e326 A328 (j := (1 : Int32)) (inb_of S328 (by decide)) (g := (mkF m 129 #[rv a, iv (cf t), .val (.double (FP.l2d (kf t))), .second, iv (1 : Int32), iv (0 : Int32)] [(.int (cf t)), (.int (1 : Int32)), (.ref ac)])) rfl rfl (hb hby d2_129)
      have N328 := Fr.snoc X328 N287 fc
      have O329 : Ext Z.heap h328 := xw O288 W328 fc
      have V328 : Arv Z h328 ac kc .int (1024 : Int32) [(.int (cf q.a)), (.int (cf t)), (.int (cf q.c)), (.int (cf q.d)), (.int (cf q.b))] (.int 0) := Arv.set A328 q328 S328 M328 H328 G328 rfl W328 1 (by decide) (Nat.le_of_ble_eq_true rfl)
      refine go s328 ?_
      show Ends p e below _ T328 (mkF m 130 #[rv a, iv (cf t), .val (.double (FP.l2d (kf t))), .second, iv (1 : Int32), iv (0 : Int32)] [])
      refine go (fun _ => XS.aloadN X328.here hx rfl (hb hby d2_130) rfl rfl) ?_
      show Ends p e below _ T328 (mkF m 131 #[rv a, iv (cf t), .val (.double (FP.l2d (kf t))), .second, iv (1 : Int32), iv (0 : Int32)] [(.ref a)])
      have F330 := (Fld.other W328 F289 (Or.inl n1))
      obtain ⟨T331, X331, e331, s331⟩ := getF X328 hx hZ hown (host := "") (Or.inl (hwi hw 17 rfl)) Via.refl e328 F330 (g := (mkF m 131 #[rv a, iv (cf t), .val (.double (FP.l2d (kf t))), .second, iv (1 : Int32), iv (0 : Int32)] [(.ref a)])) rfl rfl (hb hby d2_131)
      refine go s331 ?_
      show Ends p e below _ T331 (mkF m 134 #[rv a, iv (cf t), .val (.double (FP.l2d (kf t))), .second, iv (1 : Int32), iv (0 : Int32)] [(.ref ak)])
      refine go (fun _ => XS.iload X331.here hx rfl (hb hby d2_134) rfl) ?_
      show Ends p e below _ T331 (mkF m 136 #[rv a, iv (cf t), .val (.double (FP.l2d (kf t))), .second, iv (1 : Int32), iv (0 : Int32)] [(.int (1 : Int32)), (.ref ak)])
      refine go (fun _ => XS.dloadN X331.here hx rfl (hb hby d2_136) rfl) ?_
      show Ends p e below _ T331 (mkF m 137 #[rv a, iv (cf t), .val (.double (FP.l2d (kf t))), .second, iv (1 : Int32), iv (0 : Int32)] [(.double (FP.l2d (kf t))), (.int (1 : Int32)), (.ref ak)])
      have F332 := (Arv.other V287 W328 (Ne.symm n3))
      obtain ⟨cl333, A333, q333, S333, M333, H333, G333⟩ := id F332
      obtain ⟨T333, h333, X333, e333, W333, s333⟩ := stD X331 hx hZ e331 A333 (j := (1 : Int32)) (inb_of S333 (by decide)) (g := (mkF m 137 #[rv a, iv (cf t), .val (.double (FP.l2d (kf t))), .second, iv (1 : Int32), iv (0 : Int32)] [(.double (FP.l2d (kf t))), (.int (1 : Int32)), (.ref ak)])) rfl rfl (hb hby d2_137)
      have N333 := Fr.snoc X333 N328 fk
      have O334 : Ext Z.heap h333 := xw O329 W333 fk
      have V333 : Arv Z h333 ak kk .double (1024 : Int32) [(.double (FP.l2d (kf q.a))), (.double (FP.l2d (kf t))), (.double (FP.l2d (kf q.c))), (.double (FP.l2d (kf q.d))), (.double (FP.l2d (kf q.b)))] (.double (FP.l2d 0)) := Arv.set A333 q333 S333 M333 H333 G333 rfl W333 1 (by decide) (Nat.le_of_ble_eq_true rfl)
      refine go s333 ?_
      show Ends p e below _ T333 (mkF m 138 #[rv a, iv (cf t), .val (.double (FP.l2d (kf t))), .second, iv (1 : Int32), iv (0 : Int32)] [])
      have u335 : lt t q.b = true := (hlt _ _ ht hqb).mpr c81_274
      have u336 : ¬ lt t q.a = true := fun z => c81_292 ((hlt _ _ ht hqa).mp z)
      have z337 : qn = (⟨q.a, t, q.c, q.d, q.b⟩ : L5) := hqn.symm.trans (by simp only [hpush4, u335, u336, if_true, if_false, Bool.false_eq_true])
      have F338 := (Arv.other V328 W333 n3)
      have K339 : Keep h0 h333 [a, ac, ak] := (Keep.wr (Keep.wr (Keep.wr (Keep.wr (Keep.wr (Keep.refl _ _) W268 (Or.inl (List.mem_of_getElem? (i := 0) rfl))) W280 (Or.inl (List.mem_of_getElem? (i := 1) rfl))) W287 (Or.inl (List.mem_of_getElem? (i := 2) rfl))) W328 (Or.inl (List.mem_of_getElem? (i := 1) rfl))) W333 (Or.inl (List.mem_of_getElem? (i := 2) rfl)))
      have F340 := (Fld.other W333 (Fld.other W328 F325 (Or.inl n1)) (Or.inl n2))
      have F341 := (Fld.other W333 F330 (Or.inl n2))
      have F342 := (Fld.other W333 (Fld.other W328 (Fld.other W287 (Fld.other W280 (Fld.same W268 F3) (Or.inl n1)) (Or.inl n2)) (Or.inl n1)) (Or.inl n2))
      exact endV X333 hx hret (hb hby d2_138) (lvN X333 hlk e333 (fun _ => rfl) ⟨rfl, N333, K339, F340, F341, F342, by rw [z337]; exact F338, by rw [z337]; exact V333⟩ (by decide) (by decide))
  · refine go (fun _ => XS.ifNo X271.here hx rfl (hb hby d2_81) rfl (XT.ll_gt_f c81_274)) ?_
    show Ends p e below _ T271 (mkF m 84 #[rv a, iv (cf t), .val (.double (FP.l2d (kf t))), .second, iv (4 : Int32), iv (1 : Int32)] [])
    refine go (fun _ => XS.goto X271.here hx rfl (pc0 := 84) (pc' := 122) rfl (hb hby d2_84) (by decide) (by decide)) ?_
    refine go (fun _ => XS.aloadN X271.here hx rfl (hb hby d2_122) rfl rfl) ?_
    show Ends p e below _ T271 (mkF m 123 #[rv a, iv (cf t), .val (.double (FP.l2d (kf t))), .second, iv (4 : Int32), iv (1 : Int32)] [(.ref a)])
    have F343 := (Fld.other W268 F1 (Or.inr (slot_ne (a0 := a0) (Or.inl (hwi hw 15 rfl)) (Or.inl (hwi hw 25 rfl)) (by decide) (t := (.array .int)) (t' := .int) (by decide) (by decide))))
    obtain ⟨T344, X344, e344, s344⟩ := getF X271 hx hZ hown (host := "") (Or.inl (hwi hw 14 rfl)) Via.refl e271 F343 (g := (mkF m 123 #[rv a, iv (cf t), .val (.double (FP.l2d (kf t))), .second, iv (4 : Int32), iv (1 : Int32)] [(.ref a)])) rfl rfl (hb hby d2_123)
    refine go s344 ?_
    show Ends p e below _ T344 (mkF m 126 #[rv a, iv (cf t), .val (.double (FP.l2d (kf t))), .second, iv (4 : Int32), iv (1 : Int32)] [(.ref ac)])
    refine go (fun _ => XS.iload X344.here hx rfl (hb hby d2_126) rfl) ?_
    refine go (fun _ => XS.iloadN X344.here hx rfl (hb hby d2_128) rfl) ?_
    show Ends p e below _ T344 (mkF m 129 #[rv a, iv (cf t), .val (.double (FP.l2d (kf t))), .second, iv (4 : Int32), iv (1 : Int32)] [(.int (cf t)), (.int (4 : Int32)), (.ref ac)])
    have F345 := (Arv.other Vc W268 (Ne.symm n1))
    obtain ⟨cl346, A346, q346, S346, M346, H346, G346⟩ := id F345
    obtain ⟨T346, h346, X346, e346, W346, s346⟩ := stI X344 hx hZ e344 A346 (j := (4 : Int32)) (inb_of S346 (by decide)) (g := (mkF m 129 #[rv a, iv (cf t), .val (.double (FP.l2d (kf t))), .second, iv (4 : Int32), iv (1 : Int32)] [(.int (cf t)), (.int (4 : Int32)), (.ref ac)])) rfl rfl (hb hby d2_129)
    have N346 := Fr.snoc X346 N268 fc
    have O347 : Ext Z.heap h346 := xw O269 W346 fc
    have V346 : Arv Z h346 ac kc .int (1024 : Int32) [(.int (cf q.a)), (.int (cf q.b)), (.int (cf q.c)), (.int (cf q.d)), (.int (cf t))] (.int 0) := Arv.set A346 q346 S346 M346 H346 G346 rfl W346 4 (by decide) (Nat.le_of_ble_eq_true rfl)
    refine go s346 ?_
    show Ends p e below _ T346 (mkF m 130 #[rv a, iv (cf t), .val (.double (FP.l2d (kf t))), .second, iv (4 : Int32), iv (1 : Int32)] [])
    refine go (fun _ => XS.aloadN X346.here hx rfl (hb hby d2_130) rfl rfl) ?_
    show Ends p e below _ T346 (mkF m 131 #[rv a, iv (cf t), .val (.double (FP.l2d (kf t))), .second, iv (4 : Int32), iv (1 : Int32)] [(.ref a)])
    have F348 := (Fld.other W346 F270 (Or.inl n1))
    obtain ⟨T349, X349, e349, s349⟩ := getF X346 hx hZ hown (host := "") (Or.inl (hwi hw 17 rfl)) Via.refl e346 F348 (g := (mkF m 131 #[rv a, iv (cf t), .val (.double (FP.l2d (kf t))), .second, iv (4 : Int32), iv (1 : Int32)] [(.ref a)])) rfl rfl (hb hby d2_131)
    refine go s349 ?_
    show Ends p e below _ T349 (mkF m 134 #[rv a, iv (cf t), .val (.double (FP.l2d (kf t))), .second, iv (4 : Int32), iv (1 : Int32)] [(.ref ak)])
    refine go (fun _ => XS.iload X349.here hx rfl (hb hby d2_134) rfl) ?_
    show Ends p e below _ T349 (mkF m 136 #[rv a, iv (cf t), .val (.double (FP.l2d (kf t))), .second, iv (4 : Int32), iv (1 : Int32)] [(.int (4 : Int32)), (.ref ak)])
    refine go (fun _ => XS.dloadN X349.here hx rfl (hb hby d2_136) rfl) ?_
    show Ends p e below _ T349 (mkF m 137 #[rv a, iv (cf t), .val (.double (FP.l2d (kf t))), .second, iv (4 : Int32), iv (1 : Int32)] [(.double (FP.l2d (kf t))), (.int (4 : Int32)), (.ref ak)])
    have F350 := (Arv.other F272 W346 (Ne.symm n3))
    obtain ⟨cl351, A351, q351, S351, M351, H351, G351⟩ := id F350
    obtain ⟨T351, h351, X351, e351, W351, s351⟩ := stD X349 hx hZ e349 A351 (j := (4 : Int32)) (inb_of S351 (by decide)) (g := (mkF m 137 #[rv a, iv (cf t), .val (.double (FP.l2d (kf t))), .second, iv (4 : Int32), iv (1 : Int32)] [(.double (FP.l2d (kf t))), (.int (4 : Int32)), (.ref ak)])) rfl rfl (hb hby d2_137)
    have N351 := Fr.snoc X351 N346 fk
    have O352 : Ext Z.heap h351 := xw O347 W351 fk
    have V351 : Arv Z h351 ak kk .double (1024 : Int32) [(.double (FP.l2d (kf q.a))), (.double (FP.l2d (kf q.b))), (.double (FP.l2d (kf q.c))), (.double (FP.l2d (kf q.d))), (.double (FP.l2d (kf t)))] (.double (FP.l2d 0)) := Arv.set A351 q351 S351 M351 H351 G351 rfl W351 4 (by decide) (Nat.le_of_ble_eq_true rfl)
    refine go s351 ?_
    show Ends p e below _ T351 (mkF m 138 #[rv a, iv (cf t), .val (.double (FP.l2d (kf t))), .second, iv (4 : Int32), iv (1 : Int32)] [])
    have u353 : ¬ lt t q.b = true := fun z => c81_274 ((hlt _ _ ht hqb).mp z)
    have z354 : qn = (⟨q.a, q.b, q.c, q.d, t⟩ : L5) := hqn.symm.trans (by simp only [hpush4, u353, if_true, if_false, Bool.false_eq_true])
    have F355 := (Arv.other V346 W351 n3)
    have K356 : Keep h0 h351 [a, ac, ak] := (Keep.wr (Keep.wr (Keep.wr (Keep.refl _ _) W268 (Or.inl (List.mem_of_getElem? (i := 0) rfl))) W346 (Or.inl (List.mem_of_getElem? (i := 1) rfl))) W351 (Or.inl (List.mem_of_getElem? (i := 2) rfl)))
    have F357 := (Fld.other W351 (Fld.other W346 F343 (Or.inl n1)) (Or.inl n2))
    have F358 := (Fld.other W351 F348 (Or.inl n2))
    have F359 := (Fld.other W351 (Fld.other W346 (Fld.same W268 F3) (Or.inl n1)) (Or.inl n2))
    exact endV X351 hx hret (hb hby d2_138) (lvN X351 hlk e351 (fun _ => rfl) ⟨rfl, N351, K356, F357, F358, F359, by rw [z354]; exact F355, by rw [z354]; exact V351⟩ (by decide) (by decide))
set_option maxRecDepth 65536 in
set_option maxHeartbeats 40000000 in
theorem rm_pop5 {l : Launch} {Z : State} {a0 : Array Value} (hw : ∀ d ∈ tables_1, d.before a0 Z = true) (a ac ak : Addr) (kc kk : ClassId) (cf : Nat → Int32) (kf : Nat → Int64) (lt : Nat → Nat → Bool) (q qn : L5) (h0 : Heap) (O0 : Ext Z.heap h0) (f0 : Z.heap.size ≤ a) (fc : Z.heap.size ≤ ac) (fk : Z.heap.size ≤ ak) (n1 : a ≠ ac) (n2 : a ≠ ak) (n3 : ac ≠ ak) (E0 : Exa Z h0 a "com/example/pedestrain/pedestrain/core/CellHeap") (F1 : Fld Z h0 a "com/example/pedestrain/pedestrain/core/CellHeap" "cells" "[I" (.ref ac)) (F2 : Fld Z h0 a "com/example/pedestrain/pedestrain/core/CellHeap" "keys" "[D" (.ref ak)) (F3 : Fld Z h0 a "com/example/pedestrain/pedestrain/core/CellHeap" "size" "I" (.int (5 : Int32))) (Vc : Arv Z h0 ac kc .int (1024 : Int32) [(.int (cf q.a)), (.int (cf q.b)), (.int (cf q.c)), (.int (cf q.d)), (.int (cf q.e))] (.int 0)) (Vk : Arv Z h0 ak kk .double (1024 : Int32) [(.double (FP.l2d (kf q.a))), (.double (FP.l2d (kf q.b))), (.double (FP.l2d (kf q.c))), (.double (FP.l2d (kf q.d))), (.double (FP.l2d (kf q.e)))] (.double (FP.l2d 0))) (hB : ∀ i, B53 (kf i)) (hlt : ∀ i j, i < 5 → j < 5 → (lt i j = true ↔ kf i < kf j)) (hqa : q.a < 5) (hqb : q.b < 5) (hqc : q.c < 5) (hqd : q.d < 5) (hqe : q.e < 5) (hqn : hpop5 lt q = qn) :
    Con l (⟨"com/example/pedestrain/pedestrain/core/CellHeap", "pop", "()I"⟩ : MethodName) prog_4_method_6_code 7 (some .int) ({ frames := 0, cells := 0, slots := 0, locals := 0 } : Room) Z #[(.ref a)] h0 (fun v h L => v = some (.int (cf q.a)) ∧ Fr Z.heap.size L ∧ Keep h0 h [a, ac, ak] ∧ Fld Z h a "com/example/pedestrain/pedestrain/core/CellHeap" "cells" "[I" (.ref ac) ∧ Fld Z h a "com/example/pedestrain/pedestrain/core/CellHeap" "keys" "[D" (.ref ak) ∧ Fld Z h a "com/example/pedestrain/pedestrain/core/CellHeap" "size" "I" (.int (4 : Int32)) ∧ Arv Z h ac kc .int (1024 : Int32) [(.int (cf qn.a)), (.int (cf qn.b)), (.int (cf qn.c)), (.int (cf qn.d)), (.int (cf qn.e))] (.int 0) ∧ Arv Z h ak kk .double (1024 : Int32) [(.double (FP.l2d (kf qn.a))), (.double (FP.l2d (kf qn.b))), (.double (FP.l2d (kf qn.c))), (.double (FP.l2d (kf qn.d))), (.double (FP.l2d (kf qn.e)))] (.double (FP.l2d 0))) := by
  refine Con.of (plainFor_of_name pn_1) (Ls := #[rv a, .unset, .unset, .unset, .unset, .unset, .unset]) (fun m => efOf rfl) ?_
  intro p e s m below meth c T0 X0 hx hZ hby hml hown hnm hret hlk e0
  refine go (fun _ => XS.aloadN X0.here hx rfl (hb hby d3_0) rfl rfl) ?_
  show Ends p e below _ T0 (mkF m 1 #[rv a, .unset, .unset, .unset, .unset, .unset, .unset] [(.ref a)])
  obtain ⟨T360, X360, e360, s360⟩ := getF X0 hx hZ hown (host := "") (Or.inl (hwi hw 14 rfl)) Via.refl e0 F1 (g := (mkF m 1 #[rv a, .unset, .unset, .unset, .unset, .unset, .unset] [(.ref a)])) rfl rfl (hb hby d3_1)
  refine go s360 ?_
  show Ends p e below _ T360 (mkF m 4 #[rv a, .unset, .unset, .unset, .unset, .unset, .unset] [(.ref ac)])
  refine go (fun _ => XT.iconstV X360.here hx rfl (0 : Int32) (hb hby d3_4) (by decide)) ?_
  show Ends p e below _ T360 (mkF m 5 #[rv a, .unset, .unset, .unset, .unset, .unset, .unset] [(.int (0 : Int32)), (.ref ac)])
  obtain ⟨cl361, A361, -, S361, M361, H361, -⟩ := id Vc
  have B361 := inb_of S361 (j := (0 : Int32)) (by decide)
  refine go (fun _ => X360.iaload hx (j := (0 : Int32)) (v := (.int (cf q.a))) (by rw [e360]; exact A361.1) (State.isArrayOf_alike hZ.alike A361.2.1) A361.2.2 B361 (H361.at B361 rfl) (g := (mkF m 5 #[rv a, .unset, .unset, .unset, .unset, .unset, .unset] [(.int (0 : Int32)), (.ref ac)])) rfl rfl (hb hby d3_5) _) ?_
  show Ends p e below _ T360 (mkF m 6 #[rv a, .unset, .unset, .unset, .unset, .unset, .unset] [(.int (cf q.a))])
  refine go (fun _ => XS.istoreN X360.here hx rfl (hb hby d3_6) rfl (l' := #[rv a, iv (cf q.a), .unset, .unset, .unset, .unset, .unset]) rfl) ?_
  refine go (fun _ => XS.aloadN X360.here hx rfl (hb hby d3_7) rfl rfl) ?_
  refine go (fun _ => XS.dup X360.here hx rfl (hb hby d3_8) rfl rfl) ?_
  show Ends p e below _ T360 (mkF m 9 #[rv a, iv (cf q.a), .unset, .unset, .unset, .unset, .unset] [(.ref a), (.ref a)])
  obtain ⟨T362, X362, e362, s362⟩ := getF X360 hx hZ hown (host := "") (Or.inl (hwi hw 24 rfl)) Via.refl e360 F3 (g := (mkF m 9 #[rv a, iv (cf q.a), .unset, .unset, .unset, .unset, .unset] [(.ref a), (.ref a)])) rfl rfl (hb hby d3_9)
  refine go s362 ?_
  show Ends p e below _ T362 (mkF m 12 #[rv a, iv (cf q.a), .unset, .unset, .unset, .unset, .unset] [(.int (5 : Int32)), (.ref a)])
  refine go (fun _ => XT.iconstV X362.here hx rfl (1 : Int32) (hb hby d3_12) (by decide)) ?_
  refine go (fun _ => XS.isub X362.here hx rfl (hb hby d3_13) rfl) ?_
  show Ends p e below _ T362 (mkF m 14 #[rv a, iv (cf q.a), .unset, .unset, .unset, .unset, .unset] [(.int (4 : Int32)), (.ref a)])
  obtain ⟨T363, h363, X363, e363, W363, s363⟩ := putF X362 hx hZ hown (host := "") (Or.inl (hwi hw 24 rfl)) Via.refl e362 F3 E0 (Or.inl (hwi hw 25 rfl)) (hwi hw 6 rfl) (ty := .int) (by decide) rfl rfl (g := (mkF m 14 #[rv a, iv (cf q.a), .unset, .unset, .unset, .unset, .unset] [(.int (4 : Int32)), (.ref a)])) rfl rfl (hb hby d3_14)
  have N363 := Fr.snoc X363 (Fr.nil _) f0
  have O364 : Ext Z.heap h363 := xw O0 W363 f0
  refine go s363 ?_
  show Ends p e below _ T363 (mkF m 17 #[rv a, iv (cf q.a), .unset, .unset, .unset, .unset, .unset] [])
  refine go (fun _ => XS.aloadN X363.here hx rfl (hb hby d3_17) rfl rfl) ?_
  show Ends p e below _ T363 (mkF m 18 #[rv a, iv (cf q.a), .unset, .unset, .unset, .unset, .unset] [(.ref a)])
  have F365 := (Fld.other W363 F1 (Or.inr (slot_ne (a0 := a0) (Or.inl (hwi hw 15 rfl)) (Or.inl (hwi hw 25 rfl)) (by decide) (t := (.array .int)) (t' := .int) (by decide) (by decide))))
  obtain ⟨T366, X366, e366, s366⟩ := getF X363 hx hZ hown (host := "") (Or.inl (hwi hw 14 rfl)) Via.refl e363 F365 (g := (mkF m 18 #[rv a, iv (cf q.a), .unset, .unset, .unset, .unset, .unset] [(.ref a)])) rfl rfl (hb hby d3_18)
  refine go s366 ?_
  show Ends p e below _ T366 (mkF m 21 #[rv a, iv (cf q.a), .unset, .unset, .unset, .unset, .unset] [(.ref ac)])
  refine go (fun _ => XS.aloadN X366.here hx rfl (hb hby d3_21) rfl rfl) ?_
  show Ends p e below _ T366 (mkF m 22 #[rv a, iv (cf q.a), .unset, .unset, .unset, .unset, .unset] [(.ref a), (.ref ac)])
  have F367 := (Fld.same W363 F3)
  obtain ⟨T368, X368, e368, s368⟩ := getF X366 hx hZ hown (host := "") (Or.inl (hwi hw 24 rfl)) Via.refl e366 F367 (g := (mkF m 22 #[rv a, iv (cf q.a), .unset, .unset, .unset, .unset, .unset] [(.ref a), (.ref ac)])) rfl rfl (hb hby d3_22)
  refine go s368 ?_
  show Ends p e below _ T368 (mkF m 25 #[rv a, iv (cf q.a), .unset, .unset, .unset, .unset, .unset] [(.int (4 : Int32)), (.ref ac)])
  have F369 := (Arv.other Vc W363 (Ne.symm n1))
  obtain ⟨cl370, A370, -, S370, M370, H370, -⟩ := id F369
  have B370 := inb_of S370 (j := (4 : Int32)) (by decide)
  refine go (fun _ => X368.iaload hx (j := (4 : Int32)) (v := (.int (cf q.e))) (by rw [e368]; exact A370.1) (State.isArrayOf_alike hZ.alike A370.2.1) A370.2.2 B370 (H370.at B370 rfl) (g := (mkF m 25 #[rv a, iv (cf q.a), .unset, .unset, .unset, .unset, .unset] [(.int (4 : Int32)), (.ref ac)])) rfl rfl (hb hby d3_25) _) ?_
  show Ends p e below _ T368 (mkF m 26 #[rv a, iv (cf q.a), .unset, .unset, .unset, .unset, .unset] [(.int (cf q.e))])
  refine go (fun _ => XS.istoreN X368.here hx rfl (hb hby d3_26) rfl (l' := #[rv a, iv (cf q.a), iv (cf q.e), .unset, .unset, .unset, .unset]) rfl) ?_
  refine go (fun _ => XS.aloadN X368.here hx rfl (hb hby d3_27) rfl rfl) ?_
  show Ends p e below _ T368 (mkF m 28 #[rv a, iv (cf q.a), iv (cf q.e), .unset, .unset, .unset, .unset] [(.ref a)])
  have F371 := (Fld.other W363 F2 (Or.inr (slot_ne (a0 := a0) (Or.inl (hwi hw 18 rfl)) (Or.inl (hwi hw 25 rfl)) (by decide) (t := (.array .double)) (t' := .int) (by decide) (by decide))))
  obtain ⟨T372, X372, e372, s372⟩ := getF X368 hx hZ hown (host := "") (Or.inl (hwi hw 17 rfl)) Via.refl e368 F371 (g := (mkF m 28 #[rv a, iv (cf q.a), iv (cf q.e), .unset, .unset, .unset, .unset] [(.ref a)])) rfl rfl (hb hby d3_28)
  refine go s372 ?_
  show Ends p e below _ T372 (mkF m 31 #[rv a, iv (cf q.a), iv (cf q.e), .unset, .unset, .unset, .unset] [(.ref ak)])
  refine go (fun _ => XS.aloadN X372.here hx rfl (hb hby d3_31) rfl rfl) ?_
  show Ends p e below _ T372 (mkF m 32 #[rv a, iv (cf q.a), iv (cf q.e), .unset, .unset, .unset, .unset] [(.ref a), (.ref ak)])
  obtain ⟨T373, X373, e373, s373⟩ := getF X372 hx hZ hown (host := "") (Or.inl (hwi hw 24 rfl)) Via.refl e372 F367 (g := (mkF m 32 #[rv a, iv (cf q.a), iv (cf q.e), .unset, .unset, .unset, .unset] [(.ref a), (.ref ak)])) rfl rfl (hb hby d3_32)
  refine go s373 ?_
  show Ends p e below _ T373 (mkF m 35 #[rv a, iv (cf q.a), iv (cf q.e), .unset, .unset, .unset, .unset] [(.int (4 : Int32)), (.ref ak)])
  have F374 := (Arv.other Vk W363 (Ne.symm n2))
  obtain ⟨cl375, A375, -, S375, M375, H375, -⟩ := id F374
  have B375 := inb_of S375 (j := (4 : Int32)) (by decide)
  refine go (fun _ => X373.daload hx (j := (4 : Int32)) (v := (.double (FP.l2d (kf q.e)))) (by rw [e373]; exact A375.1) (State.isArrayOf_alike hZ.alike A375.2.1) A375.2.2 B375 (H375.at B375 rfl) (g := (mkF m 35 #[rv a, iv (cf q.a), iv (cf q.e), .unset, .unset, .unset, .unset] [(.int (4 : Int32)), (.ref ak)])) rfl rfl (hb hby d3_35) _) ?_
  show Ends p e below _ T373 (mkF m 36 #[rv a, iv (cf q.a), iv (cf q.e), .unset, .unset, .unset, .unset] [(.double (FP.l2d (kf q.e)))])
  refine go (fun _ => XS.dstoreN X373.here hx rfl (hb hby d3_36) rfl (l' := #[rv a, iv (cf q.a), iv (cf q.e), .val (.double (FP.l2d (kf q.e))), .second, .unset, .unset]) rfl) ?_
  show Ends p e below _ T373 (mkF m 37 #[rv a, iv (cf q.a), iv (cf q.e), .val (.double (FP.l2d (kf q.e))), .second, .unset, .unset] [])
  refine go (fun _ => XT.iconstV X373.here hx rfl (0 : Int32) (hb hby d3_37) (by decide)) ?_
  refine go (fun _ => XS.istore X373.here hx rfl (hb hby d3_38) rfl (l' := #[rv a, iv (cf q.a), iv (cf q.e), .val (.double (FP.l2d (kf q.e))), .second, iv (0 : Int32), .unset]) rfl) ?_
  refine go (fun _ => XT.iconstV X373.here hx rfl (2 : Int32) (hb hby d3_40) (by decide)) ?_
  refine go (fun _ => XS.iload X373.here hx rfl (hb hby d3_41) rfl) ?_
  refine go (fun _ => XS.imul X373.here hx rfl (hb hby d3_43) rfl) ?_
  refine go (fun _ => XT.iconstV X373.here hx rfl (1 : Int32) (hb hby d3_44) (by decide)) ?_
  show Ends p e below _ T373 (mkF m 45 #[rv a, iv (cf q.a), iv (cf q.e), .val (.double (FP.l2d (kf q.e))), .second, iv (0 : Int32), .unset] [(.int (1 : Int32)), (.int (0 : Int32))])
  refine go (fun _ => XS.iadd X373.here hx rfl (hb hby d3_45) rfl) ?_
  refine go (fun _ => XS.istore X373.here hx rfl (hb hby d3_46) rfl (l' := #[rv a, iv (cf q.a), iv (cf q.e), .val (.double (FP.l2d (kf q.e))), .second, iv (0 : Int32), iv (1 : Int32)]) rfl) ?_
  refine go (fun _ => XS.iload X373.here hx rfl (hb hby d3_48) rfl) ?_
  refine go (fun _ => XS.aloadN X373.here hx rfl (hb hby d3_50) rfl rfl) ?_
  show Ends p e below _ T373 (mkF m 51 #[rv a, iv (cf q.a), iv (cf q.e), .val (.double (FP.l2d (kf q.e))), .second, iv (0 : Int32), iv (1 : Int32)] [(.ref a), (.int (1 : Int32))])
  obtain ⟨T376, X376, e376, s376⟩ := getF X373 hx hZ hown (host := "") (Or.inl (hwi hw 24 rfl)) Via.refl e373 F367 (g := (mkF m 51 #[rv a, iv (cf q.a), iv (cf q.e), .val (.double (FP.l2d (kf q.e))), .second, iv (0 : Int32), iv (1 : Int32)] [(.ref a), (.int (1 : Int32))])) rfl rfl (hb hby d3_51)
  refine go s376 ?_
  show Ends p e below _ T376 (mkF m 54 #[rv a, iv (cf q.a), iv (cf q.e), .val (.double (FP.l2d (kf q.e))), .second, iv (0 : Int32), iv (1 : Int32)] [(.int (4 : Int32)), (.int (1 : Int32))])
  refine go (fun _ => XS.icmpYes X376.here hx rfl (pc0 := 54) (pc' := 60) rfl (hb hby d3_54) rfl (XT.ii_lt_t ((by decide) : (1 : Int32) < (4 : Int32))) (by decide) (by decide)) ?_
  show Ends p e below _ T376 (mkF m 60 #[rv a, iv (cf q.a), iv (cf q.e), .val (.double (FP.l2d (kf q.e))), .second, iv (0 : Int32), iv (1 : Int32)] [])
  refine go (fun _ => XS.iload X376.here hx rfl (hb hby d3_60) rfl) ?_
  refine go (fun _ => XT.iconstV X376.here hx rfl (1 : Int32) (hb hby d3_62) (by decide)) ?_
  refine go (fun _ => XS.iadd X376.here hx rfl (hb hby d3_63) rfl) ?_
  refine go (fun _ => XS.aloadN X376.here hx rfl (hb hby d3_64) rfl rfl) ?_
  show Ends p e below _ T376 (mkF m 65 #[rv a, iv (cf q.a), iv (cf q.e), .val (.double (FP.l2d (kf q.e))), .second, iv (0 : Int32), iv (1 : Int32)] [(.ref a), (.int (2 : Int32))])
  obtain ⟨T377, X377, e377, s377⟩ := getF X376 hx hZ hown (host := "") (Or.inl (hwi hw 24 rfl)) Via.refl e376 F367 (g := (mkF m 65 #[rv a, iv (cf q.a), iv (cf q.e), .val (.double (FP.l2d (kf q.e))), .second, iv (0 : Int32), iv (1 : Int32)] [(.ref a), (.int (2 : Int32))])) rfl rfl (hb hby d3_65)
  refine go s377 ?_
  show Ends p e below _ T377 (mkF m 68 #[rv a, iv (cf q.a), iv (cf q.e), .val (.double (FP.l2d (kf q.e))), .second, iv (0 : Int32), iv (1 : Int32)] [(.int (4 : Int32)), (.int (2 : Int32))])
  refine go (fun _ => XS.icmpNo X377.here hx rfl (hb hby d3_68) rfl (XT.ii_ge_f ((by decide) : (2 : Int32) < (4 : Int32)))) ?_
  show Ends p e below _ T377 (mkF m 71 #[rv a, iv (cf q.a), iv (cf q.e), .val (.double (FP.l2d (kf q.e))), .second, iv (0 : Int32), iv (1 : Int32)] [])
  refine go (fun _ => XS.aloadN X377.here hx rfl (hb hby d3_71) rfl rfl) ?_
  show Ends p e below _ T377 (mkF m 72 #[rv a, iv (cf q.a), iv (cf q.e), .val (.double (FP.l2d (kf q.e))), .second, iv (0 : Int32), iv (1 : Int32)] [(.ref a)])
  obtain ⟨T378, X378, e378, s378⟩ := getF X377 hx hZ hown (host := "") (Or.inl (hwi hw 17 rfl)) Via.refl e377 F371 (g := (mkF m 72 #[rv a, iv (cf q.a), iv (cf q.e), .val (.double (FP.l2d (kf q.e))), .second, iv (0 : Int32), iv (1 : Int32)] [(.ref a)])) rfl rfl (hb hby d3_72)
  refine go s378 ?_
  show Ends p e below _ T378 (mkF m 75 #[rv a, iv (cf q.a), iv (cf q.e), .val (.double (FP.l2d (kf q.e))), .second, iv (0 : Int32), iv (1 : Int32)] [(.ref ak)])
  refine go (fun _ => XS.iload X378.here hx rfl (hb hby d3_75) rfl) ?_
  refine go (fun _ => XT.iconstV X378.here hx rfl (1 : Int32) (hb hby d3_77) (by decide)) ?_
  refine go (fun _ => XS.iadd X378.here hx rfl (hb hby d3_78) rfl) ?_
  show Ends p e below _ T378 (mkF m 79 #[rv a, iv (cf q.a), iv (cf q.e), .val (.double (FP.l2d (kf q.e))), .second, iv (0 : Int32), iv (1 : Int32)] [(.int (2 : Int32)), (.ref ak)])
  obtain ⟨cl379, A379, -, S379, M379, H379, -⟩ := id F374
  have B379 := inb_of S379 (j := (2 : Int32)) (by decide)
  refine go (fun _ => X378.daload hx (j := (2 : Int32)) (v := (.double (FP.l2d (kf q.c)))) (by rw [e378]; exact A379.1) (State.isArrayOf_alike hZ.alike A379.2.1) A379.2.2 B379 (H379.at B379 rfl) (g := (mkF m 79 #[rv a, iv (cf q.a), iv (cf q.e), .val (.double (FP.l2d (kf q.e))), .second, iv (0 : Int32), iv (1 : Int32)] [(.int (2 : Int32)), (.ref ak)])) rfl rfl (hb hby d3_79) _) ?_
  show Ends p e below _ T378 (mkF m 80 #[rv a, iv (cf q.a), iv (cf q.e), .val (.double (FP.l2d (kf q.e))), .second, iv (0 : Int32), iv (1 : Int32)] [(.double (FP.l2d (kf q.c)))])
  refine go (fun _ => XS.aloadN X378.here hx rfl (hb hby d3_80) rfl rfl) ?_
  show Ends p e below _ T378 (mkF m 81 #[rv a, iv (cf q.a), iv (cf q.e), .val (.double (FP.l2d (kf q.e))), .second, iv (0 : Int32), iv (1 : Int32)] [(.ref a), (.double (FP.l2d (kf q.c)))])
  obtain ⟨T380, X380, e380, s380⟩ := getF X378 hx hZ hown (host := "") (Or.inl (hwi hw 17 rfl)) Via.refl e378 F371 (g := (mkF m 81 #[rv a, iv (cf q.a), iv (cf q.e), .val (.double (FP.l2d (kf q.e))), .second, iv (0 : Int32), iv (1 : Int32)] [(.ref a), (.double (FP.l2d (kf q.c)))])) rfl rfl (hb hby d3_81)
  refine go s380 ?_
  show Ends p e below _ T380 (mkF m 84 #[rv a, iv (cf q.a), iv (cf q.e), .val (.double (FP.l2d (kf q.e))), .second, iv (0 : Int32), iv (1 : Int32)] [(.ref ak), (.double (FP.l2d (kf q.c)))])
  refine go (fun _ => XS.iload X380.here hx rfl (hb hby d3_84) rfl) ?_
  show Ends p e below _ T380 (mkF m 86 #[rv a, iv (cf q.a), iv (cf q.e), .val (.double (FP.l2d (kf q.e))), .second, iv (0 : Int32), iv (1 : Int32)] [(.int (1 : Int32)), (.ref ak), (.double (FP.l2d (kf q.c)))])
  obtain ⟨cl381, A381, -, S381, M381, H381, -⟩ := id F374
  have B381 := inb_of S381 (j := (1 : Int32)) (by decide)
  refine go (fun _ => X380.daload hx (j := (1 : Int32)) (v := (.double (FP.l2d (kf q.b)))) (by rw [e380]; exact A381.1) (State.isArrayOf_alike hZ.alike A381.2.1) A381.2.2 B381 (H381.at B381 rfl) (g := (mkF m 86 #[rv a, iv (cf q.a), iv (cf q.e), .val (.double (FP.l2d (kf q.e))), .second, iv (0 : Int32), iv (1 : Int32)] [(.int (1 : Int32)), (.ref ak), (.double (FP.l2d (kf q.c)))])) rfl rfl (hb hby d3_86) _) ?_
  show Ends p e below _ T380 (mkF m 87 #[rv a, iv (cf q.a), iv (cf q.e), .val (.double (FP.l2d (kf q.e))), .second, iv (0 : Int32), iv (1 : Int32)] [(.double (FP.l2d (kf q.b))), (.double (FP.l2d (kf q.c)))])
  refine go (fun _ => XS.dcmpS X380.here hx rfl (hb hby d3_87) rfl ((dcmpV_w (hB _) (hB _) _).trans (own_lw _ _))) ?_
  show Ends p e below _ T380 (mkF m 88 #[rv a, iv (cf q.a), iv (cf q.e), .val (.double (FP.l2d (kf q.e))), .second, iv (0 : Int32), iv (1 : Int32)] [(.int (XT.cmpL (kf q.c) (kf q.b)))])
  by_cases c88_382 : (kf q.c) < (kf q.b)
  · refine go (fun _ => XS.ifNo X380.here hx rfl (hb hby d3_88) rfl (XT.ll_ge_f c88_382)) ?_
    show Ends p e below _ T380 (mkF m 91 #[rv a, iv (cf q.a), iv (cf q.e), .val (.double (FP.l2d (kf q.e))), .second, iv (0 : Int32), iv (1 : Int32)] [])
    refine go (fun _ => XT.iincV X380.here hx rfl (1 : Int32) (hb hby d3_91) (by decide) rfl (l' := #[rv a, iv (cf q.a), iv (cf q.e), .val (.double (FP.l2d (kf q.e))), .second, iv (0 : Int32), iv (2 : Int32)]) rfl) ?_
    refine go (fun _ => XS.aloadN X380.here hx rfl (hb hby d3_94) rfl rfl) ?_
    show Ends p e below _ T380 (mkF m 95 #[rv a, iv (cf q.a), iv (cf q.e), .val (.double (FP.l2d (kf q.e))), .second, iv (0 : Int32), iv (2 : Int32)] [(.ref a)])
    obtain ⟨T383, X383, e383, s383⟩ := getF X380 hx hZ hown (host := "") (Or.inl (hwi hw 17 rfl)) Via.refl e380 F371 (g := (mkF m 95 #[rv a, iv (cf q.a), iv (cf q.e), .val (.double (FP.l2d (kf q.e))), .second, iv (0 : Int32), iv (2 : Int32)] [(.ref a)])) rfl rfl (hb hby d3_95)
    refine go s383 ?_
    show Ends p e below _ T383 (mkF m 98 #[rv a, iv (cf q.a), iv (cf q.e), .val (.double (FP.l2d (kf q.e))), .second, iv (0 : Int32), iv (2 : Int32)] [(.ref ak)])
    refine go (fun _ => XS.iload X383.here hx rfl (hb hby d3_98) rfl) ?_
    show Ends p e below _ T383 (mkF m 100 #[rv a, iv (cf q.a), iv (cf q.e), .val (.double (FP.l2d (kf q.e))), .second, iv (0 : Int32), iv (2 : Int32)] [(.int (2 : Int32)), (.ref ak)])
    obtain ⟨cl384, A384, -, S384, M384, H384, -⟩ := id F374
    have B384 := inb_of S384 (j := (2 : Int32)) (by decide)
    refine go (fun _ => X383.daload hx (j := (2 : Int32)) (v := (.double (FP.l2d (kf q.c)))) (by rw [e383]; exact A384.1) (State.isArrayOf_alike hZ.alike A384.2.1) A384.2.2 B384 (H384.at B384 rfl) (g := (mkF m 100 #[rv a, iv (cf q.a), iv (cf q.e), .val (.double (FP.l2d (kf q.e))), .second, iv (0 : Int32), iv (2 : Int32)] [(.int (2 : Int32)), (.ref ak)])) rfl rfl (hb hby d3_100) _) ?_
    show Ends p e below _ T383 (mkF m 101 #[rv a, iv (cf q.a), iv (cf q.e), .val (.double (FP.l2d (kf q.e))), .second, iv (0 : Int32), iv (2 : Int32)] [(.double (FP.l2d (kf q.c)))])
    refine go (fun _ => XS.dloadN X383.here hx rfl (hb hby d3_101) rfl) ?_
    show Ends p e below _ T383 (mkF m 102 #[rv a, iv (cf q.a), iv (cf q.e), .val (.double (FP.l2d (kf q.e))), .second, iv (0 : Int32), iv (2 : Int32)] [(.double (FP.l2d (kf q.e))), (.double (FP.l2d (kf q.c)))])
    refine go (fun _ => XS.dcmpS X383.here hx rfl (hb hby d3_102) rfl ((dcmpV_w (hB _) (hB _) _).trans (own_lw _ _))) ?_
    show Ends p e below _ T383 (mkF m 103 #[rv a, iv (cf q.a), iv (cf q.e), .val (.double (FP.l2d (kf q.e))), .second, iv (0 : Int32), iv (2 : Int32)] [(.int (XT.cmpL (kf q.c) (kf q.e)))])
    by_cases c103_385 : (kf q.c) < (kf q.e)
    · refine go (fun _ => XS.ifYes X383.here hx rfl (pc0 := 103) (pc' := 109) rfl (hb hby d3_103) rfl (XT.ll_lt_t c103_385) (by decide) (by decide)) ?_
      show Ends p e below _ T383 (mkF m 109 #[rv a, iv (cf q.a), iv (cf q.e), .val (.double (FP.l2d (kf q.e))), .second, iv (0 : Int32), iv (2 : Int32)] [])
      refine go (fun _ => XS.aloadN X383.here hx rfl (hb hby d3_109) rfl rfl) ?_
      show Ends p e below _ T383 (mkF m 110 #[rv a, iv (cf q.a), iv (cf q.e), .val (.double (FP.l2d (kf q.e))), .second, iv (0 : Int32), iv (2 : Int32)] [(.ref a)])
      obtain ⟨T386, X386, e386, s386⟩ := getF X383 hx hZ hown (host := "") (Or.inl (hwi hw 14 rfl)) Via.refl e383 F365 (g := (mkF m 110 #[rv a, iv (cf q.a), iv (cf q.e), .val (.double (FP.l2d (kf q.e))), .second, iv (0 : Int32), iv (2 : Int32)] [(.ref a)])) rfl rfl (hb hby d3_110)
      refine go s386 ?_
      show Ends p e below _ T386 (mkF m 113 #[rv a, iv (cf q.a), iv (cf q.e), .val (.double (FP.l2d (kf q.e))), .second, iv (0 : Int32), iv (2 : Int32)] [(.ref ac)])
      refine go (fun _ => XS.iload X386.here hx rfl (hb hby d3_113) rfl) ?_
      refine go (fun _ => XS.aloadN X386.here hx rfl (hb hby d3_115) rfl rfl) ?_
      show Ends p e below _ T386 (mkF m 116 #[rv a, iv (cf q.a), iv (cf q.e), .val (.double (FP.l2d (kf q.e))), .second, iv (0 : Int32), iv (2 : Int32)] [(.ref a), (.int (0 : Int32)), (.ref ac)])
      obtain ⟨T387, X387, e387, s387⟩ := getF X386 hx hZ hown (host := "") (Or.inl (hwi hw 14 rfl)) Via.refl e386 F365 (g := (mkF m 116 #[rv a, iv (cf q.a), iv (cf q.e), .val (.double (FP.l2d (kf q.e))), .second, iv (0 : Int32), iv (2 : Int32)] [(.ref a), (.int (0 : Int32)), (.ref ac)])) rfl rfl (hb hby d3_116)
      refine go s387 ?_
      show Ends p e below _ T387 (mkF m 119 #[rv a, iv (cf q.a), iv (cf q.e), .val (.double (FP.l2d (kf q.e))), .second, iv (0 : Int32), iv (2 : Int32)] [(.ref ac), (.int (0 : Int32)), (.ref ac)])
      refine go (fun _ => XS.iload X387.here hx rfl (hb hby d3_119) rfl) ?_
      show Ends p e below _ T387 (mkF m 121 #[rv a, iv (cf q.a), iv (cf q.e), .val (.double (FP.l2d (kf q.e))), .second, iv (0 : Int32), iv (2 : Int32)] [(.int (2 : Int32)), (.ref ac), (.int (0 : Int32)), (.ref ac)])
      obtain ⟨cl388, A388, -, S388, M388, H388, -⟩ := id F369
      have B388 := inb_of S388 (j := (2 : Int32)) (by decide)
      refine go (fun _ => X387.iaload hx (j := (2 : Int32)) (v := (.int (cf q.c))) (by rw [e387]; exact A388.1) (State.isArrayOf_alike hZ.alike A388.2.1) A388.2.2 B388 (H388.at B388 rfl) (g := (mkF m 121 #[rv a, iv (cf q.a), iv (cf q.e), .val (.double (FP.l2d (kf q.e))), .second, iv (0 : Int32), iv (2 : Int32)] [(.int (2 : Int32)), (.ref ac), (.int (0 : Int32)), (.ref ac)])) rfl rfl (hb hby d3_121) _) ?_
      show Ends p e below _ T387 (mkF m 122 #[rv a, iv (cf q.a), iv (cf q.e), .val (.double (FP.l2d (kf q.e))), .second, iv (0 : Int32), iv (2 : Int32)] [(.int (cf q.c)), (.int (0 : Int32)), (.ref ac)])
      obtain ⟨cl389, A389, q389, S389, M389, H389, G389⟩ := id F369
      obtain ⟨T389, h389, X389, e389, W389, s389⟩ := stI X387 hx hZ e387 A389 (j := (0 : Int32)) (inb_of S389 (by decide)) (g := (mkF m 122 #[rv a, iv (cf q.a), iv (cf q.e), .val (.double (FP.l2d (kf q.e))), .second, iv (0 : Int32), iv (2 : Int32)] [(.int (cf q.c)), (.int (0 : Int32)), (.ref ac)])) rfl rfl (hb hby d3_122)
      have N389 := Fr.snoc X389 N363 fc
      have O390 : Ext Z.heap h389 := xw O364 W389 fc
      have V389 : Arv Z h389 ac kc .int (1024 : Int32) [(.int (cf q.c)), (.int (cf q.b)), (.int (cf q.c)), (.int (cf q.d)), (.int (cf q.e))] (.int 0) := Arv.set A389 q389 S389 M389 H389 G389 rfl W389 0 (by decide) (Nat.le_of_ble_eq_true rfl)
      refine go s389 ?_
      show Ends p e below _ T389 (mkF m 123 #[rv a, iv (cf q.a), iv (cf q.e), .val (.double (FP.l2d (kf q.e))), .second, iv (0 : Int32), iv (2 : Int32)] [])
      refine go (fun _ => XS.aloadN X389.here hx rfl (hb hby d3_123) rfl rfl) ?_
      show Ends p e below _ T389 (mkF m 124 #[rv a, iv (cf q.a), iv (cf q.e), .val (.double (FP.l2d (kf q.e))), .second, iv (0 : Int32), iv (2 : Int32)] [(.ref a)])
      have F391 := (Fld.other W389 F371 (Or.inl n1))
      obtain ⟨T392, X392, e392, s392⟩ := getF X389 hx hZ hown (host := "") (Or.inl (hwi hw 17 rfl)) Via.refl e389 F391 (g := (mkF m 124 #[rv a, iv (cf q.a), iv (cf q.e), .val (.double (FP.l2d (kf q.e))), .second, iv (0 : Int32), iv (2 : Int32)] [(.ref a)])) rfl rfl (hb hby d3_124)
      refine go s392 ?_
      show Ends p e below _ T392 (mkF m 127 #[rv a, iv (cf q.a), iv (cf q.e), .val (.double (FP.l2d (kf q.e))), .second, iv (0 : Int32), iv (2 : Int32)] [(.ref ak)])
      refine go (fun _ => XS.iload X392.here hx rfl (hb hby d3_127) rfl) ?_
      refine go (fun _ => XS.aloadN X392.here hx rfl (hb hby d3_129) rfl rfl) ?_
      show Ends p e below _ T392 (mkF m 130 #[rv a, iv (cf q.a), iv (cf q.e), .val (.double (FP.l2d (kf q.e))), .second, iv (0 : Int32), iv (2 : Int32)] [(.ref a), (.int (0 : Int32)), (.ref ak)])
      obtain ⟨T393, X393, e393, s393⟩ := getF X392 hx hZ hown (host := "") (Or.inl (hwi hw 17 rfl)) Via.refl e392 F391 (g := (mkF m 130 #[rv a, iv (cf q.a), iv (cf q.e), .val (.double (FP.l2d (kf q.e))), .second, iv (0 : Int32), iv (2 : Int32)] [(.ref a), (.int (0 : Int32)), (.ref ak)])) rfl rfl (hb hby d3_130)
      refine go s393 ?_
      show Ends p e below _ T393 (mkF m 133 #[rv a, iv (cf q.a), iv (cf q.e), .val (.double (FP.l2d (kf q.e))), .second, iv (0 : Int32), iv (2 : Int32)] [(.ref ak), (.int (0 : Int32)), (.ref ak)])
      refine go (fun _ => XS.iload X393.here hx rfl (hb hby d3_133) rfl) ?_
      show Ends p e below _ T393 (mkF m 135 #[rv a, iv (cf q.a), iv (cf q.e), .val (.double (FP.l2d (kf q.e))), .second, iv (0 : Int32), iv (2 : Int32)] [(.int (2 : Int32)), (.ref ak), (.int (0 : Int32)), (.ref ak)])
      have F394 := (Arv.other F374 W389 (Ne.symm n3))
      obtain ⟨cl395, A395, -, S395, M395, H395, -⟩ := id F394
      have B395 := inb_of S395 (j := (2 : Int32)) (by decide)
      refine go (fun _ => X393.daload hx (j := (2 : Int32)) (v := (.double (FP.l2d (kf q.c)))) (by rw [e393]; exact A395.1) (State.isArrayOf_alike hZ.alike A395.2.1) A395.2.2 B395 (H395.at B395 rfl) (g := (mkF m 135 #[rv a, iv (cf q.a), iv (cf q.e), .val (.double (FP.l2d (kf q.e))), .second, iv (0 : Int32), iv (2 : Int32)] [(.int (2 : Int32)), (.ref ak), (.int (0 : Int32)), (.ref ak)])) rfl rfl (hb hby d3_135) _) ?_
      show Ends p e below _ T393 (mkF m 136 #[rv a, iv (cf q.a), iv (cf q.e), .val (.double (FP.l2d (kf q.e))), .second, iv (0 : Int32), iv (2 : Int32)] [(.double (FP.l2d (kf q.c))), (.int (0 : Int32)), (.ref ak)])
      obtain ⟨cl396, A396, q396, S396, M396, H396, G396⟩ := id F394
      obtain ⟨T396, h396, X396, e396, W396, s396⟩ := stD X393 hx hZ e393 A396 (j := (0 : Int32)) (inb_of S396 (by decide)) (g := (mkF m 136 #[rv a, iv (cf q.a), iv (cf q.e), .val (.double (FP.l2d (kf q.e))), .second, iv (0 : Int32), iv (2 : Int32)] [(.double (FP.l2d (kf q.c))), (.int (0 : Int32)), (.ref ak)])) rfl rfl (hb hby d3_136)
      have N396 := Fr.snoc X396 N389 fk
      have O397 : Ext Z.heap h396 := xw O390 W396 fk
      have V396 : Arv Z h396 ak kk .double (1024 : Int32) [(.double (FP.l2d (kf q.c))), (.double (FP.l2d (kf q.b))), (.double (FP.l2d (kf q.c))), (.double (FP.l2d (kf q.d))), (.double (FP.l2d (kf q.e)))] (.double (FP.l2d 0)) := Arv.set A396 q396 S396 M396 H396 G396 rfl W396 0 (by decide) (Nat.le_of_ble_eq_true rfl)
      refine go s396 ?_
      show Ends p e below _ T396 (mkF m 137 #[rv a, iv (cf q.a), iv (cf q.e), .val (.double (FP.l2d (kf q.e))), .second, iv (0 : Int32), iv (2 : Int32)] [])
      refine go (fun _ => XS.iload X396.here hx rfl (hb hby d3_137) rfl) ?_
      refine go (fun _ => XS.istore X396.here hx rfl (hb hby d3_139) rfl (l' := #[rv a, iv (cf q.a), iv (cf q.e), .val (.double (FP.l2d (kf q.e))), .second, iv (2 : Int32), iv (2 : Int32)]) rfl) ?_
      refine go (fun _ => XS.goto X396.here hx rfl (pc0 := 141) (pc' := 40) rfl (hb hby d3_141) (by decide) (by decide)) ?_
      refine go (fun _ => XT.iconstV X396.here hx rfl (2 : Int32) (hb hby d3_40) (by decide)) ?_
      refine go (fun _ => XS.iload X396.here hx rfl (hb hby d3_41) rfl) ?_
      refine go (fun _ => XS.imul X396.here hx rfl (hb hby d3_43) rfl) ?_
      show Ends p e below _ T396 (mkF m 44 #[rv a, iv (cf q.a), iv (cf q.e), .val (.double (FP.l2d (kf q.e))), .second, iv (2 : Int32), iv (2 : Int32)] [(.int (4 : Int32))])
      refine go (fun _ => XT.iconstV X396.here hx rfl (1 : Int32) (hb hby d3_44) (by decide)) ?_
      refine go (fun _ => XS.iadd X396.here hx rfl (hb hby d3_45) rfl) ?_
      refine go (fun _ => XS.istore X396.here hx rfl (hb hby d3_46) rfl (l' := #[rv a, iv (cf q.a), iv (cf q.e), .val (.double (FP.l2d (kf q.e))), .second, iv (2 : Int32), iv (5 : Int32)]) rfl) ?_
      refine go (fun _ => XS.iload X396.here hx rfl (hb hby d3_48) rfl) ?_
      refine go (fun _ => XS.aloadN X396.here hx rfl (hb hby d3_50) rfl rfl) ?_
      show Ends p e below _ T396 (mkF m 51 #[rv a, iv (cf q.a), iv (cf q.e), .val (.double (FP.l2d (kf q.e))), .second, iv (2 : Int32), iv (5 : Int32)] [(.ref a), (.int (5 : Int32))])
      have F398 := (Fld.other W396 (Fld.other W389 F367 (Or.inl n1)) (Or.inl n2))
      obtain ⟨T399, X399, e399, s399⟩ := getF X396 hx hZ hown (host := "") (Or.inl (hwi hw 24 rfl)) Via.refl e396 F398 (g := (mkF m 51 #[rv a, iv (cf q.a), iv (cf q.e), .val (.double (FP.l2d (kf q.e))), .second, iv (2 : Int32), iv (5 : Int32)] [(.ref a), (.int (5 : Int32))])) rfl rfl (hb hby d3_51)
      refine go s399 ?_
      show Ends p e below _ T399 (mkF m 54 #[rv a, iv (cf q.a), iv (cf q.e), .val (.double (FP.l2d (kf q.e))), .second, iv (2 : Int32), iv (5 : Int32)] [(.int (4 : Int32)), (.int (5 : Int32))])
      refine go (fun _ => XS.icmpNo X399.here hx rfl (hb hby d3_54) rfl (XT.ii_lt_f ((by decide) : ¬ ((5 : Int32) < (4 : Int32))))) ?_
      show Ends p e below _ T399 (mkF m 57 #[rv a, iv (cf q.a), iv (cf q.e), .val (.double (FP.l2d (kf q.e))), .second, iv (2 : Int32), iv (5 : Int32)] [])
      refine go (fun _ => XS.goto X399.here hx rfl (pc0 := 57) (pc' := 144) rfl (hb hby d3_57) (by decide) (by decide)) ?_
      refine go (fun _ => XS.aloadN X399.here hx rfl (hb hby d3_144) rfl rfl) ?_
      show Ends p e below _ T399 (mkF m 145 #[rv a, iv (cf q.a), iv (cf q.e), .val (.double (FP.l2d (kf q.e))), .second, iv (2 : Int32), iv (5 : Int32)] [(.ref a)])
      have F400 := (Fld.other W396 (Fld.other W389 F365 (Or.inl n1)) (Or.inl n2))
      obtain ⟨T401, X401, e401, s401⟩ := getF X399 hx hZ hown (host := "") (Or.inl (hwi hw 14 rfl)) Via.refl e399 F400 (g := (mkF m 145 #[rv a, iv (cf q.a), iv (cf q.e), .val (.double (FP.l2d (kf q.e))), .second, iv (2 : Int32), iv (5 : Int32)] [(.ref a)])) rfl rfl (hb hby d3_145)
      refine go s401 ?_
      show Ends p e below _ T401 (mkF m 148 #[rv a, iv (cf q.a), iv (cf q.e), .val (.double (FP.l2d (kf q.e))), .second, iv (2 : Int32), iv (5 : Int32)] [(.ref ac)])
      refine go (fun _ => XS.iload X401.here hx rfl (hb hby d3_148) rfl) ?_
      refine go (fun _ => XS.iloadN X401.here hx rfl (hb hby d3_150) rfl) ?_
      show Ends p e below _ T401 (mkF m 151 #[rv a, iv (cf q.a), iv (cf q.e), .val (.double (FP.l2d (kf q.e))), .second, iv (2 : Int32), iv (5 : Int32)] [(.int (cf q.e)), (.int (2 : Int32)), (.ref ac)])
      have F402 := (Arv.other V389 W396 n3)
      obtain ⟨cl403, A403, q403, S403, M403, H403, G403⟩ := id F402
      obtain ⟨T403, h403, X403, e403, W403, s403⟩ := stI X401 hx hZ e401 A403 (j := (2 : Int32)) (inb_of S403 (by decide)) (g := (mkF m 151 #[rv a, iv (cf q.a), iv (cf q.e), .val (.double (FP.l2d (kf q.e))), .second, iv (2 : Int32), iv (5 : Int32)] [(.int (cf q.e)), (.int (2 : Int32)), (.ref ac)])) rfl rfl (hb hby d3_151)
      have N403 := Fr.snoc X403 N396 fc
      have O404 : Ext Z.heap h403 := xw O397 W403 fc
      have V403 : Arv Z h403 ac kc .int (1024 : Int32) [(.int (cf q.c)), (.int (cf q.b)), (.int (cf q.e)), (.int (cf q.d)), (.int (cf q.e))] (.int 0) := Arv.set A403 q403 S403 M403 H403 G403 rfl W403 2 (by decide) (Nat.le_of_ble_eq_true rfl)
      refine go s403 ?_
      show Ends p e below _ T403 (mkF m 152 #[rv a, iv (cf q.a), iv (cf q.e), .val (.double (FP.l2d (kf q.e))), .second, iv (2 : Int32), iv (5 : Int32)] [])
      refine go (fun _ => XS.aloadN X403.here hx rfl (hb hby d3_152) rfl rfl) ?_
      show Ends p e below _ T403 (mkF m 153 #[rv a, iv (cf q.a), iv (cf q.e), .val (.double (FP.l2d (kf q.e))), .second, iv (2 : Int32), iv (5 : Int32)] [(.ref a)])
      have F405 := (Fld.other W403 (Fld.other W396 F391 (Or.inl n2)) (Or.inl n1))
      obtain ⟨T406, X406, e406, s406⟩ := getF X403 hx hZ hown (host := "") (Or.inl (hwi hw 17 rfl)) Via.refl e403 F405 (g := (mkF m 153 #[rv a, iv (cf q.a), iv (cf q.e), .val (.double (FP.l2d (kf q.e))), .second, iv (2 : Int32), iv (5 : Int32)] [(.ref a)])) rfl rfl (hb hby d3_153)
      refine go s406 ?_
      show Ends p e below _ T406 (mkF m 156 #[rv a, iv (cf q.a), iv (cf q.e), .val (.double (FP.l2d (kf q.e))), .second, iv (2 : Int32), iv (5 : Int32)] [(.ref ak)])
      refine go (fun _ => XS.iload X406.here hx rfl (hb hby d3_156) rfl) ?_
      show Ends p e below _ T406 (mkF m 158 #[rv a, iv (cf q.a), iv (cf q.e), .val (.double (FP.l2d (kf q.e))), .second, iv (2 : Int32), iv (5 : Int32)] [(.int (2 : Int32)), (.ref ak)])
      refine go (fun _ => XS.dloadN X406.here hx rfl (hb hby d3_158) rfl) ?_
      show Ends p e below _ T406 (mkF m 159 #[rv a, iv (cf q.a), iv (cf q.e), .val (.double (FP.l2d (kf q.e))), .second, iv (2 : Int32), iv (5 : Int32)] [(.double (FP.l2d (kf q.e))), (.int (2 : Int32)), (.ref ak)])
      have F407 := (Arv.other V396 W403 (Ne.symm n3))
      obtain ⟨cl408, A408, q408, S408, M408, H408, G408⟩ := id F407
      obtain ⟨T408, h408, X408, e408, W408, s408⟩ := stD X406 hx hZ e406 A408 (j := (2 : Int32)) (inb_of S408 (by decide)) (g := (mkF m 159 #[rv a, iv (cf q.a), iv (cf q.e), .val (.double (FP.l2d (kf q.e))), .second, iv (2 : Int32), iv (5 : Int32)] [(.double (FP.l2d (kf q.e))), (.int (2 : Int32)), (.ref ak)])) rfl rfl (hb hby d3_159)
      have N408 := Fr.snoc X408 N403 fk
      have O409 : Ext Z.heap h408 := xw O404 W408 fk
      have V408 : Arv Z h408 ak kk .double (1024 : Int32) [(.double (FP.l2d (kf q.c))), (.double (FP.l2d (kf q.b))), (.double (FP.l2d (kf q.e))), (.double (FP.l2d (kf q.d))), (.double (FP.l2d (kf q.e)))] (.double (FP.l2d 0)) := Arv.set A408 q408 S408 M408 H408 G408 rfl W408 2 (by decide) (Nat.le_of_ble_eq_true rfl)
      refine go s408 ?_
      show Ends p e below _ T408 (mkF m 160 #[rv a, iv (cf q.a), iv (cf q.e), .val (.double (FP.l2d (kf q.e))), .second, iv (2 : Int32), iv (5 : Int32)] [])
      refine go (fun _ => XS.iloadN X408.here hx rfl (hb hby d3_160) rfl) ?_
      show Ends p e below _ T408 (mkF m 161 #[rv a, iv (cf q.a), iv (cf q.e), .val (.double (FP.l2d (kf q.e))), .second, iv (2 : Int32), iv (5 : Int32)] [(.int (cf q.a))])
      have u410 : lt q.c q.b = true := (hlt _ _ hqc hqb).mpr c88_382
      have u411 : lt q.c q.e = true := (hlt _ _ hqc hqe).mpr c103_385
      have z412 : qn = (⟨q.c, q.b, q.e, q.d, q.e⟩ : L5) := hqn.symm.trans (by simp only [hpop5, u410, u411, if_true, if_false, Bool.false_eq_true])
      have F413 := (Arv.other V403 W408 n3)
      have K414 : Keep h0 h408 [a, ac, ak] := (Keep.wr (Keep.wr (Keep.wr (Keep.wr (Keep.wr (Keep.refl _ _) W363 (Or.inl (List.mem_of_getElem? (i := 0) rfl))) W389 (Or.inl (List.mem_of_getElem? (i := 1) rfl))) W396 (Or.inl (List.mem_of_getElem? (i := 2) rfl))) W403 (Or.inl (List.mem_of_getElem? (i := 1) rfl))) W408 (Or.inl (List.mem_of_getElem? (i := 2) rfl)))
      have F415 := (Fld.other W408 (Fld.other W403 F400 (Or.inl n1)) (Or.inl n2))
      have F416 := (Fld.other W408 F405 (Or.inl n2))
      have F417 := (Fld.other W408 (Fld.other W403 F398 (Or.inl n1)) (Or.inl n2))
      exact endI X408 hx hret (hb hby d3_161) (lvN X408 hlk e408 (fun h => by rw [hret] at h; cases h) ⟨rfl, N408, K414, F415, F416, F417, by rw [z412]; exact F413, by rw [z412]; exact V408⟩ (by decide) (by decide))
    · refine go (fun _ => XS.ifNo X383.here hx rfl (hb hby d3_103) rfl (XT.ll_lt_f c103_385)) ?_
      show Ends p e below _ T383 (mkF m 106 #[rv a, iv (cf q.a), iv (cf q.e), .val (.double (FP.l2d (kf q.e))), .second, iv (0 : Int32), iv (2 : Int32)] [])
      refine go (fun _ => XS.goto X383.here hx rfl (pc0 := 106) (pc' := 144) rfl (hb hby d3_106) (by decide) (by decide)) ?_
      refine go (fun _ => XS.aloadN X383.here hx rfl (hb hby d3_144) rfl rfl) ?_
      show Ends p e below _ T383 (mkF m 145 #[rv a, iv (cf q.a), iv (cf q.e), .val (.double (FP.l2d (kf q.e))), .second, iv (0 : Int32), iv (2 : Int32)] [(.ref a)])
      obtain ⟨T418, X418, e418, s418⟩ := getF X383 hx hZ hown (host := "") (Or.inl (hwi hw 14 rfl)) Via.refl e383 F365 (g := (mkF m 145 #[rv a, iv (cf q.a), iv (cf q.e), .val (.double (FP.l2d (kf q.e))), .second, iv (0 : Int32), iv (2 : Int32)] [(.ref a)])) rfl rfl (hb hby d3_145)
      refine go s418 ?_
      show Ends p e below _ T418 (mkF m 148 #[rv a, iv (cf q.a), iv (cf q.e), .val (.double (FP.l2d (kf q.e))), .second, iv (0 : Int32), iv (2 : Int32)] [(.ref ac)])
      refine go (fun _ => XS.iload X418.here hx rfl (hb hby d3_148) rfl) ?_
      refine go (fun _ => XS.iloadN X418.here hx rfl (hb hby d3_150) rfl) ?_
      show Ends p e below _ T418 (mkF m 151 #[rv a, iv (cf q.a), iv (cf q.e), .val (.double (FP.l2d (kf q.e))), .second, iv (0 : Int32), iv (2 : Int32)] [(.int (cf q.e)), (.int (0 : Int32)), (.ref ac)])
      obtain ⟨cl419, A419, q419, S419, M419, H419, G419⟩ := id F369
      obtain ⟨T419, h419, X419, e419, W419, s419⟩ := stI X418 hx hZ e418 A419 (j := (0 : Int32)) (inb_of S419 (by decide)) (g := (mkF m 151 #[rv a, iv (cf q.a), iv (cf q.e), .val (.double (FP.l2d (kf q.e))), .second, iv (0 : Int32), iv (2 : Int32)] [(.int (cf q.e)), (.int (0 : Int32)), (.ref ac)])) rfl rfl (hb hby d3_151)
      have N419 := Fr.snoc X419 N363 fc
      have O420 : Ext Z.heap h419 := xw O364 W419 fc
      have V419 : Arv Z h419 ac kc .int (1024 : Int32) [(.int (cf q.e)), (.int (cf q.b)), (.int (cf q.c)), (.int (cf q.d)), (.int (cf q.e))] (.int 0) := Arv.set A419 q419 S419 M419 H419 G419 rfl W419 0 (by decide) (Nat.le_of_ble_eq_true rfl)
      refine go s419 ?_
      show Ends p e below _ T419 (mkF m 152 #[rv a, iv (cf q.a), iv (cf q.e), .val (.double (FP.l2d (kf q.e))), .second, iv (0 : Int32), iv (2 : Int32)] [])
      refine go (fun _ => XS.aloadN X419.here hx rfl (hb hby d3_152) rfl rfl) ?_
      show Ends p e below _ T419 (mkF m 153 #[rv a, iv (cf q.a), iv (cf q.e), .val (.double (FP.l2d (kf q.e))), .second, iv (0 : Int32), iv (2 : Int32)] [(.ref a)])
      have F421 := (Fld.other W419 F371 (Or.inl n1))
      obtain ⟨T422, X422, e422, s422⟩ := getF X419 hx hZ hown (host := "") (Or.inl (hwi hw 17 rfl)) Via.refl e419 F421 (g := (mkF m 153 #[rv a, iv (cf q.a), iv (cf q.e), .val (.double (FP.l2d (kf q.e))), .second, iv (0 : Int32), iv (2 : Int32)] [(.ref a)])) rfl rfl (hb hby d3_153)
      refine go s422 ?_
      show Ends p e below _ T422 (mkF m 156 #[rv a, iv (cf q.a), iv (cf q.e), .val (.double (FP.l2d (kf q.e))), .second, iv (0 : Int32), iv (2 : Int32)] [(.ref ak)])
      refine go (fun _ => XS.iload X422.here hx rfl (hb hby d3_156) rfl) ?_
      show Ends p e below _ T422 (mkF m 158 #[rv a, iv (cf q.a), iv (cf q.e), .val (.double (FP.l2d (kf q.e))), .second, iv (0 : Int32), iv (2 : Int32)] [(.int (0 : Int32)), (.ref ak)])
      refine go (fun _ => XS.dloadN X422.here hx rfl (hb hby d3_158) rfl) ?_
      show Ends p e below _ T422 (mkF m 159 #[rv a, iv (cf q.a), iv (cf q.e), .val (.double (FP.l2d (kf q.e))), .second, iv (0 : Int32), iv (2 : Int32)] [(.double (FP.l2d (kf q.e))), (.int (0 : Int32)), (.ref ak)])
      have F423 := (Arv.other F374 W419 (Ne.symm n3))
      obtain ⟨cl424, A424, q424, S424, M424, H424, G424⟩ := id F423
      obtain ⟨T424, h424, X424, e424, W424, s424⟩ := stD X422 hx hZ e422 A424 (j := (0 : Int32)) (inb_of S424 (by decide)) (g := (mkF m 159 #[rv a, iv (cf q.a), iv (cf q.e), .val (.double (FP.l2d (kf q.e))), .second, iv (0 : Int32), iv (2 : Int32)] [(.double (FP.l2d (kf q.e))), (.int (0 : Int32)), (.ref ak)])) rfl rfl (hb hby d3_159)
      have N424 := Fr.snoc X424 N419 fk
      have O425 : Ext Z.heap h424 := xw O420 W424 fk
      have V424 : Arv Z h424 ak kk .double (1024 : Int32) [(.double (FP.l2d (kf q.e))), (.double (FP.l2d (kf q.b))), (.double (FP.l2d (kf q.c))), (.double (FP.l2d (kf q.d))), (.double (FP.l2d (kf q.e)))] (.double (FP.l2d 0)) := Arv.set A424 q424 S424 M424 H424 G424 rfl W424 0 (by decide) (Nat.le_of_ble_eq_true rfl)
      refine go s424 ?_
      show Ends p e below _ T424 (mkF m 160 #[rv a, iv (cf q.a), iv (cf q.e), .val (.double (FP.l2d (kf q.e))), .second, iv (0 : Int32), iv (2 : Int32)] [])
      refine go (fun _ => XS.iloadN X424.here hx rfl (hb hby d3_160) rfl) ?_
      show Ends p e below _ T424 (mkF m 161 #[rv a, iv (cf q.a), iv (cf q.e), .val (.double (FP.l2d (kf q.e))), .second, iv (0 : Int32), iv (2 : Int32)] [(.int (cf q.a))])
      have u426 : lt q.c q.b = true := (hlt _ _ hqc hqb).mpr c88_382
      have u427 : ¬ lt q.c q.e = true := fun z => c103_385 ((hlt _ _ hqc hqe).mp z)
      have z428 : qn = (⟨q.e, q.b, q.c, q.d, q.e⟩ : L5) := hqn.symm.trans (by simp only [hpop5, u426, u427, if_true, if_false, Bool.false_eq_true])
      have F429 := (Arv.other V419 W424 n3)
      have K430 : Keep h0 h424 [a, ac, ak] := (Keep.wr (Keep.wr (Keep.wr (Keep.refl _ _) W363 (Or.inl (List.mem_of_getElem? (i := 0) rfl))) W419 (Or.inl (List.mem_of_getElem? (i := 1) rfl))) W424 (Or.inl (List.mem_of_getElem? (i := 2) rfl)))
      have F431 := (Fld.other W424 (Fld.other W419 F365 (Or.inl n1)) (Or.inl n2))
      have F432 := (Fld.other W424 F421 (Or.inl n2))
      have F433 := (Fld.other W424 (Fld.other W419 F367 (Or.inl n1)) (Or.inl n2))
      exact endI X424 hx hret (hb hby d3_161) (lvN X424 hlk e424 (fun h => by rw [hret] at h; cases h) ⟨rfl, N424, K430, F431, F432, F433, by rw [z428]; exact F429, by rw [z428]; exact V424⟩ (by decide) (by decide))
  · refine go (fun _ => XS.ifYes X380.here hx rfl (pc0 := 88) (pc' := 94) rfl (hb hby d3_88) rfl (XT.ll_ge_t c88_382) (by decide) (by decide)) ?_
    show Ends p e below _ T380 (mkF m 94 #[rv a, iv (cf q.a), iv (cf q.e), .val (.double (FP.l2d (kf q.e))), .second, iv (0 : Int32), iv (1 : Int32)] [])
    refine go (fun _ => XS.aloadN X380.here hx rfl (hb hby d3_94) rfl rfl) ?_
    show Ends p e below _ T380 (mkF m 95 #[rv a, iv (cf q.a), iv (cf q.e), .val (.double (FP.l2d (kf q.e))), .second, iv (0 : Int32), iv (1 : Int32)] [(.ref a)])
    obtain ⟨T434, X434, e434, s434⟩ := getF X380 hx hZ hown (host := "") (Or.inl (hwi hw 17 rfl)) Via.refl e380 F371 (g := (mkF m 95 #[rv a, iv (cf q.a), iv (cf q.e), .val (.double (FP.l2d (kf q.e))), .second, iv (0 : Int32), iv (1 : Int32)] [(.ref a)])) rfl rfl (hb hby d3_95)
    refine go s434 ?_
    show Ends p e below _ T434 (mkF m 98 #[rv a, iv (cf q.a), iv (cf q.e), .val (.double (FP.l2d (kf q.e))), .second, iv (0 : Int32), iv (1 : Int32)] [(.ref ak)])
    refine go (fun _ => XS.iload X434.here hx rfl (hb hby d3_98) rfl) ?_
    show Ends p e below _ T434 (mkF m 100 #[rv a, iv (cf q.a), iv (cf q.e), .val (.double (FP.l2d (kf q.e))), .second, iv (0 : Int32), iv (1 : Int32)] [(.int (1 : Int32)), (.ref ak)])
    obtain ⟨cl435, A435, -, S435, M435, H435, -⟩ := id F374
    have B435 := inb_of S435 (j := (1 : Int32)) (by decide)
    refine go (fun _ => X434.daload hx (j := (1 : Int32)) (v := (.double (FP.l2d (kf q.b)))) (by rw [e434]; exact A435.1) (State.isArrayOf_alike hZ.alike A435.2.1) A435.2.2 B435 (H435.at B435 rfl) (g := (mkF m 100 #[rv a, iv (cf q.a), iv (cf q.e), .val (.double (FP.l2d (kf q.e))), .second, iv (0 : Int32), iv (1 : Int32)] [(.int (1 : Int32)), (.ref ak)])) rfl rfl (hb hby d3_100) _) ?_
    show Ends p e below _ T434 (mkF m 101 #[rv a, iv (cf q.a), iv (cf q.e), .val (.double (FP.l2d (kf q.e))), .second, iv (0 : Int32), iv (1 : Int32)] [(.double (FP.l2d (kf q.b)))])
    refine go (fun _ => XS.dloadN X434.here hx rfl (hb hby d3_101) rfl) ?_
    show Ends p e below _ T434 (mkF m 102 #[rv a, iv (cf q.a), iv (cf q.e), .val (.double (FP.l2d (kf q.e))), .second, iv (0 : Int32), iv (1 : Int32)] [(.double (FP.l2d (kf q.e))), (.double (FP.l2d (kf q.b)))])
    refine go (fun _ => XS.dcmpS X434.here hx rfl (hb hby d3_102) rfl ((dcmpV_w (hB _) (hB _) _).trans (own_lw _ _))) ?_
    show Ends p e below _ T434 (mkF m 103 #[rv a, iv (cf q.a), iv (cf q.e), .val (.double (FP.l2d (kf q.e))), .second, iv (0 : Int32), iv (1 : Int32)] [(.int (XT.cmpL (kf q.b) (kf q.e)))])
    by_cases c103_436 : (kf q.b) < (kf q.e)
    · refine go (fun _ => XS.ifYes X434.here hx rfl (pc0 := 103) (pc' := 109) rfl (hb hby d3_103) rfl (XT.ll_lt_t c103_436) (by decide) (by decide)) ?_
      show Ends p e below _ T434 (mkF m 109 #[rv a, iv (cf q.a), iv (cf q.e), .val (.double (FP.l2d (kf q.e))), .second, iv (0 : Int32), iv (1 : Int32)] [])
      refine go (fun _ => XS.aloadN X434.here hx rfl (hb hby d3_109) rfl rfl) ?_
      show Ends p e below _ T434 (mkF m 110 #[rv a, iv (cf q.a), iv (cf q.e), .val (.double (FP.l2d (kf q.e))), .second, iv (0 : Int32), iv (1 : Int32)] [(.ref a)])
      obtain ⟨T437, X437, e437, s437⟩ := getF X434 hx hZ hown (host := "") (Or.inl (hwi hw 14 rfl)) Via.refl e434 F365 (g := (mkF m 110 #[rv a, iv (cf q.a), iv (cf q.e), .val (.double (FP.l2d (kf q.e))), .second, iv (0 : Int32), iv (1 : Int32)] [(.ref a)])) rfl rfl (hb hby d3_110)
      refine go s437 ?_
      show Ends p e below _ T437 (mkF m 113 #[rv a, iv (cf q.a), iv (cf q.e), .val (.double (FP.l2d (kf q.e))), .second, iv (0 : Int32), iv (1 : Int32)] [(.ref ac)])
      refine go (fun _ => XS.iload X437.here hx rfl (hb hby d3_113) rfl) ?_
      refine go (fun _ => XS.aloadN X437.here hx rfl (hb hby d3_115) rfl rfl) ?_
      show Ends p e below _ T437 (mkF m 116 #[rv a, iv (cf q.a), iv (cf q.e), .val (.double (FP.l2d (kf q.e))), .second, iv (0 : Int32), iv (1 : Int32)] [(.ref a), (.int (0 : Int32)), (.ref ac)])
      obtain ⟨T438, X438, e438, s438⟩ := getF X437 hx hZ hown (host := "") (Or.inl (hwi hw 14 rfl)) Via.refl e437 F365 (g := (mkF m 116 #[rv a, iv (cf q.a), iv (cf q.e), .val (.double (FP.l2d (kf q.e))), .second, iv (0 : Int32), iv (1 : Int32)] [(.ref a), (.int (0 : Int32)), (.ref ac)])) rfl rfl (hb hby d3_116)
      refine go s438 ?_
      show Ends p e below _ T438 (mkF m 119 #[rv a, iv (cf q.a), iv (cf q.e), .val (.double (FP.l2d (kf q.e))), .second, iv (0 : Int32), iv (1 : Int32)] [(.ref ac), (.int (0 : Int32)), (.ref ac)])
      refine go (fun _ => XS.iload X438.here hx rfl (hb hby d3_119) rfl) ?_
      show Ends p e below _ T438 (mkF m 121 #[rv a, iv (cf q.a), iv (cf q.e), .val (.double (FP.l2d (kf q.e))), .second, iv (0 : Int32), iv (1 : Int32)] [(.int (1 : Int32)), (.ref ac), (.int (0 : Int32)), (.ref ac)])
      obtain ⟨cl439, A439, -, S439, M439, H439, -⟩ := id F369
      have B439 := inb_of S439 (j := (1 : Int32)) (by decide)
      refine go (fun _ => X438.iaload hx (j := (1 : Int32)) (v := (.int (cf q.b))) (by rw [e438]; exact A439.1) (State.isArrayOf_alike hZ.alike A439.2.1) A439.2.2 B439 (H439.at B439 rfl) (g := (mkF m 121 #[rv a, iv (cf q.a), iv (cf q.e), .val (.double (FP.l2d (kf q.e))), .second, iv (0 : Int32), iv (1 : Int32)] [(.int (1 : Int32)), (.ref ac), (.int (0 : Int32)), (.ref ac)])) rfl rfl (hb hby d3_121) _) ?_
      show Ends p e below _ T438 (mkF m 122 #[rv a, iv (cf q.a), iv (cf q.e), .val (.double (FP.l2d (kf q.e))), .second, iv (0 : Int32), iv (1 : Int32)] [(.int (cf q.b)), (.int (0 : Int32)), (.ref ac)])
      obtain ⟨cl440, A440, q440, S440, M440, H440, G440⟩ := id F369
      obtain ⟨T440, h440, X440, e440, W440, s440⟩ := stI X438 hx hZ e438 A440 (j := (0 : Int32)) (inb_of S440 (by decide)) (g := (mkF m 122 #[rv a, iv (cf q.a), iv (cf q.e), .val (.double (FP.l2d (kf q.e))), .second, iv (0 : Int32), iv (1 : Int32)] [(.int (cf q.b)), (.int (0 : Int32)), (.ref ac)])) rfl rfl (hb hby d3_122)
      have N440 := Fr.snoc X440 N363 fc
      have O441 : Ext Z.heap h440 := xw O364 W440 fc
      have V440 : Arv Z h440 ac kc .int (1024 : Int32) [(.int (cf q.b)), (.int (cf q.b)), (.int (cf q.c)), (.int (cf q.d)), (.int (cf q.e))] (.int 0) := Arv.set A440 q440 S440 M440 H440 G440 rfl W440 0 (by decide) (Nat.le_of_ble_eq_true rfl)
      refine go s440 ?_
      show Ends p e below _ T440 (mkF m 123 #[rv a, iv (cf q.a), iv (cf q.e), .val (.double (FP.l2d (kf q.e))), .second, iv (0 : Int32), iv (1 : Int32)] [])
      refine go (fun _ => XS.aloadN X440.here hx rfl (hb hby d3_123) rfl rfl) ?_
      show Ends p e below _ T440 (mkF m 124 #[rv a, iv (cf q.a), iv (cf q.e), .val (.double (FP.l2d (kf q.e))), .second, iv (0 : Int32), iv (1 : Int32)] [(.ref a)])
      have F442 := (Fld.other W440 F371 (Or.inl n1))
      obtain ⟨T443, X443, e443, s443⟩ := getF X440 hx hZ hown (host := "") (Or.inl (hwi hw 17 rfl)) Via.refl e440 F442 (g := (mkF m 124 #[rv a, iv (cf q.a), iv (cf q.e), .val (.double (FP.l2d (kf q.e))), .second, iv (0 : Int32), iv (1 : Int32)] [(.ref a)])) rfl rfl (hb hby d3_124)
      refine go s443 ?_
      show Ends p e below _ T443 (mkF m 127 #[rv a, iv (cf q.a), iv (cf q.e), .val (.double (FP.l2d (kf q.e))), .second, iv (0 : Int32), iv (1 : Int32)] [(.ref ak)])
      refine go (fun _ => XS.iload X443.here hx rfl (hb hby d3_127) rfl) ?_
      refine go (fun _ => XS.aloadN X443.here hx rfl (hb hby d3_129) rfl rfl) ?_
      show Ends p e below _ T443 (mkF m 130 #[rv a, iv (cf q.a), iv (cf q.e), .val (.double (FP.l2d (kf q.e))), .second, iv (0 : Int32), iv (1 : Int32)] [(.ref a), (.int (0 : Int32)), (.ref ak)])
      obtain ⟨T444, X444, e444, s444⟩ := getF X443 hx hZ hown (host := "") (Or.inl (hwi hw 17 rfl)) Via.refl e443 F442 (g := (mkF m 130 #[rv a, iv (cf q.a), iv (cf q.e), .val (.double (FP.l2d (kf q.e))), .second, iv (0 : Int32), iv (1 : Int32)] [(.ref a), (.int (0 : Int32)), (.ref ak)])) rfl rfl (hb hby d3_130)
      refine go s444 ?_
      show Ends p e below _ T444 (mkF m 133 #[rv a, iv (cf q.a), iv (cf q.e), .val (.double (FP.l2d (kf q.e))), .second, iv (0 : Int32), iv (1 : Int32)] [(.ref ak), (.int (0 : Int32)), (.ref ak)])
      refine go (fun _ => XS.iload X444.here hx rfl (hb hby d3_133) rfl) ?_
      show Ends p e below _ T444 (mkF m 135 #[rv a, iv (cf q.a), iv (cf q.e), .val (.double (FP.l2d (kf q.e))), .second, iv (0 : Int32), iv (1 : Int32)] [(.int (1 : Int32)), (.ref ak), (.int (0 : Int32)), (.ref ak)])
      have F445 := (Arv.other F374 W440 (Ne.symm n3))
      obtain ⟨cl446, A446, -, S446, M446, H446, -⟩ := id F445
      have B446 := inb_of S446 (j := (1 : Int32)) (by decide)
      refine go (fun _ => X444.daload hx (j := (1 : Int32)) (v := (.double (FP.l2d (kf q.b)))) (by rw [e444]; exact A446.1) (State.isArrayOf_alike hZ.alike A446.2.1) A446.2.2 B446 (H446.at B446 rfl) (g := (mkF m 135 #[rv a, iv (cf q.a), iv (cf q.e), .val (.double (FP.l2d (kf q.e))), .second, iv (0 : Int32), iv (1 : Int32)] [(.int (1 : Int32)), (.ref ak), (.int (0 : Int32)), (.ref ak)])) rfl rfl (hb hby d3_135) _) ?_
      show Ends p e below _ T444 (mkF m 136 #[rv a, iv (cf q.a), iv (cf q.e), .val (.double (FP.l2d (kf q.e))), .second, iv (0 : Int32), iv (1 : Int32)] [(.double (FP.l2d (kf q.b))), (.int (0 : Int32)), (.ref ak)])
      obtain ⟨cl447, A447, q447, S447, M447, H447, G447⟩ := id F445
      obtain ⟨T447, h447, X447, e447, W447, s447⟩ := stD X444 hx hZ e444 A447 (j := (0 : Int32)) (inb_of S447 (by decide)) (g := (mkF m 136 #[rv a, iv (cf q.a), iv (cf q.e), .val (.double (FP.l2d (kf q.e))), .second, iv (0 : Int32), iv (1 : Int32)] [(.double (FP.l2d (kf q.b))), (.int (0 : Int32)), (.ref ak)])) rfl rfl (hb hby d3_136)
      have N447 := Fr.snoc X447 N440 fk
      have O448 : Ext Z.heap h447 := xw O441 W447 fk
      have V447 : Arv Z h447 ak kk .double (1024 : Int32) [(.double (FP.l2d (kf q.b))), (.double (FP.l2d (kf q.b))), (.double (FP.l2d (kf q.c))), (.double (FP.l2d (kf q.d))), (.double (FP.l2d (kf q.e)))] (.double (FP.l2d 0)) := Arv.set A447 q447 S447 M447 H447 G447 rfl W447 0 (by decide) (Nat.le_of_ble_eq_true rfl)
      refine go s447 ?_
      show Ends p e below _ T447 (mkF m 137 #[rv a, iv (cf q.a), iv (cf q.e), .val (.double (FP.l2d (kf q.e))), .second, iv (0 : Int32), iv (1 : Int32)] [])
      refine go (fun _ => XS.iload X447.here hx rfl (hb hby d3_137) rfl) ?_
      refine go (fun _ => XS.istore X447.here hx rfl (hb hby d3_139) rfl (l' := #[rv a, iv (cf q.a), iv (cf q.e), .val (.double (FP.l2d (kf q.e))), .second, iv (1 : Int32), iv (1 : Int32)]) rfl) ?_
      refine go (fun _ => XS.goto X447.here hx rfl (pc0 := 141) (pc' := 40) rfl (hb hby d3_141) (by decide) (by decide)) ?_
      refine go (fun _ => XT.iconstV X447.here hx rfl (2 : Int32) (hb hby d3_40) (by decide)) ?_
      refine go (fun _ => XS.iload X447.here hx rfl (hb hby d3_41) rfl) ?_
      refine go (fun _ => XS.imul X447.here hx rfl (hb hby d3_43) rfl) ?_
      show Ends p e below _ T447 (mkF m 44 #[rv a, iv (cf q.a), iv (cf q.e), .val (.double (FP.l2d (kf q.e))), .second, iv (1 : Int32), iv (1 : Int32)] [(.int (2 : Int32))])
      refine go (fun _ => XT.iconstV X447.here hx rfl (1 : Int32) (hb hby d3_44) (by decide)) ?_
      refine go (fun _ => XS.iadd X447.here hx rfl (hb hby d3_45) rfl) ?_
      refine go (fun _ => XS.istore X447.here hx rfl (hb hby d3_46) rfl (l' := #[rv a, iv (cf q.a), iv (cf q.e), .val (.double (FP.l2d (kf q.e))), .second, iv (1 : Int32), iv (3 : Int32)]) rfl) ?_
      refine go (fun _ => XS.iload X447.here hx rfl (hb hby d3_48) rfl) ?_
      refine go (fun _ => XS.aloadN X447.here hx rfl (hb hby d3_50) rfl rfl) ?_
      show Ends p e below _ T447 (mkF m 51 #[rv a, iv (cf q.a), iv (cf q.e), .val (.double (FP.l2d (kf q.e))), .second, iv (1 : Int32), iv (3 : Int32)] [(.ref a), (.int (3 : Int32))])
      have F449 := (Fld.other W447 (Fld.other W440 F367 (Or.inl n1)) (Or.inl n2))
      obtain ⟨T450, X450, e450, s450⟩ := getF X447 hx hZ hown (host := "") (Or.inl (hwi hw 24 rfl)) Via.refl e447 F449 (g := (mkF m 51 #[rv a, iv (cf q.a), iv (cf q.e), .val (.double (FP.l2d (kf q.e))), .second, iv (1 : Int32), iv (3 : Int32)] [(.ref a), (.int (3 : Int32))])) rfl rfl (hb hby d3_51)
      refine go s450 ?_
      show Ends p e below _ T450 (mkF m 54 #[rv a, iv (cf q.a), iv (cf q.e), .val (.double (FP.l2d (kf q.e))), .second, iv (1 : Int32), iv (3 : Int32)] [(.int (4 : Int32)), (.int (3 : Int32))])
      refine go (fun _ => XS.icmpYes X450.here hx rfl (pc0 := 54) (pc' := 60) rfl (hb hby d3_54) rfl (XT.ii_lt_t ((by decide) : (3 : Int32) < (4 : Int32))) (by decide) (by decide)) ?_
      show Ends p e below _ T450 (mkF m 60 #[rv a, iv (cf q.a), iv (cf q.e), .val (.double (FP.l2d (kf q.e))), .second, iv (1 : Int32), iv (3 : Int32)] [])
      refine go (fun _ => XS.iload X450.here hx rfl (hb hby d3_60) rfl) ?_
      refine go (fun _ => XT.iconstV X450.here hx rfl (1 : Int32) (hb hby d3_62) (by decide)) ?_
      refine go (fun _ => XS.iadd X450.here hx rfl (hb hby d3_63) rfl) ?_
      refine go (fun _ => XS.aloadN X450.here hx rfl (hb hby d3_64) rfl rfl) ?_
      show Ends p e below _ T450 (mkF m 65 #[rv a, iv (cf q.a), iv (cf q.e), .val (.double (FP.l2d (kf q.e))), .second, iv (1 : Int32), iv (3 : Int32)] [(.ref a), (.int (4 : Int32))])
      obtain ⟨T451, X451, e451, s451⟩ := getF X450 hx hZ hown (host := "") (Or.inl (hwi hw 24 rfl)) Via.refl e450 F449 (g := (mkF m 65 #[rv a, iv (cf q.a), iv (cf q.e), .val (.double (FP.l2d (kf q.e))), .second, iv (1 : Int32), iv (3 : Int32)] [(.ref a), (.int (4 : Int32))])) rfl rfl (hb hby d3_65)
      refine go s451 ?_
      show Ends p e below _ T451 (mkF m 68 #[rv a, iv (cf q.a), iv (cf q.e), .val (.double (FP.l2d (kf q.e))), .second, iv (1 : Int32), iv (3 : Int32)] [(.int (4 : Int32)), (.int (4 : Int32))])
      refine go (fun _ => XS.icmpYes X451.here hx rfl (pc0 := 68) (pc' := 94) rfl (hb hby d3_68) rfl (XT.ii_ge_t ((by decide) : ¬ ((4 : Int32) < (4 : Int32)))) (by decide) (by decide)) ?_
      show Ends p e below _ T451 (mkF m 94 #[rv a, iv (cf q.a), iv (cf q.e), .val (.double (FP.l2d (kf q.e))), .second, iv (1 : Int32), iv (3 : Int32)] [])
      refine go (fun _ => XS.aloadN X451.here hx rfl (hb hby d3_94) rfl rfl) ?_
      show Ends p e below _ T451 (mkF m 95 #[rv a, iv (cf q.a), iv (cf q.e), .val (.double (FP.l2d (kf q.e))), .second, iv (1 : Int32), iv (3 : Int32)] [(.ref a)])
      have F452 := (Fld.other W447 F442 (Or.inl n2))
      obtain ⟨T453, X453, e453, s453⟩ := getF X451 hx hZ hown (host := "") (Or.inl (hwi hw 17 rfl)) Via.refl e451 F452 (g := (mkF m 95 #[rv a, iv (cf q.a), iv (cf q.e), .val (.double (FP.l2d (kf q.e))), .second, iv (1 : Int32), iv (3 : Int32)] [(.ref a)])) rfl rfl (hb hby d3_95)
      refine go s453 ?_
      show Ends p e below _ T453 (mkF m 98 #[rv a, iv (cf q.a), iv (cf q.e), .val (.double (FP.l2d (kf q.e))), .second, iv (1 : Int32), iv (3 : Int32)] [(.ref ak)])
      refine go (fun _ => XS.iload X453.here hx rfl (hb hby d3_98) rfl) ?_
      show Ends p e below _ T453 (mkF m 100 #[rv a, iv (cf q.a), iv (cf q.e), .val (.double (FP.l2d (kf q.e))), .second, iv (1 : Int32), iv (3 : Int32)] [(.int (3 : Int32)), (.ref ak)])
      obtain ⟨cl454, A454, -, S454, M454, H454, -⟩ := id V447
      have B454 := inb_of S454 (j := (3 : Int32)) (by decide)
      refine go (fun _ => X453.daload hx (j := (3 : Int32)) (v := (.double (FP.l2d (kf q.d)))) (by rw [e453]; exact A454.1) (State.isArrayOf_alike hZ.alike A454.2.1) A454.2.2 B454 (H454.at B454 rfl) (g := (mkF m 100 #[rv a, iv (cf q.a), iv (cf q.e), .val (.double (FP.l2d (kf q.e))), .second, iv (1 : Int32), iv (3 : Int32)] [(.int (3 : Int32)), (.ref ak)])) rfl rfl (hb hby d3_100) _) ?_
      show Ends p e below _ T453 (mkF m 101 #[rv a, iv (cf q.a), iv (cf q.e), .val (.double (FP.l2d (kf q.e))), .second, iv (1 : Int32), iv (3 : Int32)] [(.double (FP.l2d (kf q.d)))])
      refine go (fun _ => XS.dloadN X453.here hx rfl (hb hby d3_101) rfl) ?_
      show Ends p e below _ T453 (mkF m 102 #[rv a, iv (cf q.a), iv (cf q.e), .val (.double (FP.l2d (kf q.e))), .second, iv (1 : Int32), iv (3 : Int32)] [(.double (FP.l2d (kf q.e))), (.double (FP.l2d (kf q.d)))])
      refine go (fun _ => XS.dcmpS X453.here hx rfl (hb hby d3_102) rfl ((dcmpV_w (hB _) (hB _) _).trans (own_lw _ _))) ?_
      show Ends p e below _ T453 (mkF m 103 #[rv a, iv (cf q.a), iv (cf q.e), .val (.double (FP.l2d (kf q.e))), .second, iv (1 : Int32), iv (3 : Int32)] [(.int (XT.cmpL (kf q.d) (kf q.e)))])
      by_cases c103_455 : (kf q.d) < (kf q.e)
      · refine go (fun _ => XS.ifYes X453.here hx rfl (pc0 := 103) (pc' := 109) rfl (hb hby d3_103) rfl (XT.ll_lt_t c103_455) (by decide) (by decide)) ?_
        show Ends p e below _ T453 (mkF m 109 #[rv a, iv (cf q.a), iv (cf q.e), .val (.double (FP.l2d (kf q.e))), .second, iv (1 : Int32), iv (3 : Int32)] [])
        refine go (fun _ => XS.aloadN X453.here hx rfl (hb hby d3_109) rfl rfl) ?_
        show Ends p e below _ T453 (mkF m 110 #[rv a, iv (cf q.a), iv (cf q.e), .val (.double (FP.l2d (kf q.e))), .second, iv (1 : Int32), iv (3 : Int32)] [(.ref a)])
        have F456 := (Fld.other W447 (Fld.other W440 F365 (Or.inl n1)) (Or.inl n2))
        obtain ⟨T457, X457, e457, s457⟩ := getF X453 hx hZ hown (host := "") (Or.inl (hwi hw 14 rfl)) Via.refl e453 F456 (g := (mkF m 110 #[rv a, iv (cf q.a), iv (cf q.e), .val (.double (FP.l2d (kf q.e))), .second, iv (1 : Int32), iv (3 : Int32)] [(.ref a)])) rfl rfl (hb hby d3_110)
        refine go s457 ?_
        show Ends p e below _ T457 (mkF m 113 #[rv a, iv (cf q.a), iv (cf q.e), .val (.double (FP.l2d (kf q.e))), .second, iv (1 : Int32), iv (3 : Int32)] [(.ref ac)])
        refine go (fun _ => XS.iload X457.here hx rfl (hb hby d3_113) rfl) ?_
        refine go (fun _ => XS.aloadN X457.here hx rfl (hb hby d3_115) rfl rfl) ?_
        show Ends p e below _ T457 (mkF m 116 #[rv a, iv (cf q.a), iv (cf q.e), .val (.double (FP.l2d (kf q.e))), .second, iv (1 : Int32), iv (3 : Int32)] [(.ref a), (.int (1 : Int32)), (.ref ac)])
        obtain ⟨T458, X458, e458, s458⟩ := getF X457 hx hZ hown (host := "") (Or.inl (hwi hw 14 rfl)) Via.refl e457 F456 (g := (mkF m 116 #[rv a, iv (cf q.a), iv (cf q.e), .val (.double (FP.l2d (kf q.e))), .second, iv (1 : Int32), iv (3 : Int32)] [(.ref a), (.int (1 : Int32)), (.ref ac)])) rfl rfl (hb hby d3_116)
        refine go s458 ?_
        show Ends p e below _ T458 (mkF m 119 #[rv a, iv (cf q.a), iv (cf q.e), .val (.double (FP.l2d (kf q.e))), .second, iv (1 : Int32), iv (3 : Int32)] [(.ref ac), (.int (1 : Int32)), (.ref ac)])
        refine go (fun _ => XS.iload X458.here hx rfl (hb hby d3_119) rfl) ?_
        show Ends p e below _ T458 (mkF m 121 #[rv a, iv (cf q.a), iv (cf q.e), .val (.double (FP.l2d (kf q.e))), .second, iv (1 : Int32), iv (3 : Int32)] [(.int (3 : Int32)), (.ref ac), (.int (1 : Int32)), (.ref ac)])
        have F459 := (Arv.other V440 W447 n3)
        obtain ⟨cl460, A460, -, S460, M460, H460, -⟩ := id F459
        have B460 := inb_of S460 (j := (3 : Int32)) (by decide)
        refine go (fun _ => X458.iaload hx (j := (3 : Int32)) (v := (.int (cf q.d))) (by rw [e458]; exact A460.1) (State.isArrayOf_alike hZ.alike A460.2.1) A460.2.2 B460 (H460.at B460 rfl) (g := (mkF m 121 #[rv a, iv (cf q.a), iv (cf q.e), .val (.double (FP.l2d (kf q.e))), .second, iv (1 : Int32), iv (3 : Int32)] [(.int (3 : Int32)), (.ref ac), (.int (1 : Int32)), (.ref ac)])) rfl rfl (hb hby d3_121) _) ?_
        show Ends p e below _ T458 (mkF m 122 #[rv a, iv (cf q.a), iv (cf q.e), .val (.double (FP.l2d (kf q.e))), .second, iv (1 : Int32), iv (3 : Int32)] [(.int (cf q.d)), (.int (1 : Int32)), (.ref ac)])
        obtain ⟨cl461, A461, q461, S461, M461, H461, G461⟩ := id F459
        obtain ⟨T461, h461, X461, e461, W461, s461⟩ := stI X458 hx hZ e458 A461 (j := (1 : Int32)) (inb_of S461 (by decide)) (g := (mkF m 122 #[rv a, iv (cf q.a), iv (cf q.e), .val (.double (FP.l2d (kf q.e))), .second, iv (1 : Int32), iv (3 : Int32)] [(.int (cf q.d)), (.int (1 : Int32)), (.ref ac)])) rfl rfl (hb hby d3_122)
        have N461 := Fr.snoc X461 N447 fc
        have O462 : Ext Z.heap h461 := xw O448 W461 fc
        have V461 : Arv Z h461 ac kc .int (1024 : Int32) [(.int (cf q.b)), (.int (cf q.d)), (.int (cf q.c)), (.int (cf q.d)), (.int (cf q.e))] (.int 0) := Arv.set A461 q461 S461 M461 H461 G461 rfl W461 1 (by decide) (Nat.le_of_ble_eq_true rfl)
        refine go s461 ?_
        show Ends p e below _ T461 (mkF m 123 #[rv a, iv (cf q.a), iv (cf q.e), .val (.double (FP.l2d (kf q.e))), .second, iv (1 : Int32), iv (3 : Int32)] [])
        refine go (fun _ => XS.aloadN X461.here hx rfl (hb hby d3_123) rfl rfl) ?_
        show Ends p e below _ T461 (mkF m 124 #[rv a, iv (cf q.a), iv (cf q.e), .val (.double (FP.l2d (kf q.e))), .second, iv (1 : Int32), iv (3 : Int32)] [(.ref a)])
        have F463 := (Fld.other W461 F452 (Or.inl n1))
        obtain ⟨T464, X464, e464, s464⟩ := getF X461 hx hZ hown (host := "") (Or.inl (hwi hw 17 rfl)) Via.refl e461 F463 (g := (mkF m 124 #[rv a, iv (cf q.a), iv (cf q.e), .val (.double (FP.l2d (kf q.e))), .second, iv (1 : Int32), iv (3 : Int32)] [(.ref a)])) rfl rfl (hb hby d3_124)
        refine go s464 ?_
        show Ends p e below _ T464 (mkF m 127 #[rv a, iv (cf q.a), iv (cf q.e), .val (.double (FP.l2d (kf q.e))), .second, iv (1 : Int32), iv (3 : Int32)] [(.ref ak)])
        refine go (fun _ => XS.iload X464.here hx rfl (hb hby d3_127) rfl) ?_
        refine go (fun _ => XS.aloadN X464.here hx rfl (hb hby d3_129) rfl rfl) ?_
        show Ends p e below _ T464 (mkF m 130 #[rv a, iv (cf q.a), iv (cf q.e), .val (.double (FP.l2d (kf q.e))), .second, iv (1 : Int32), iv (3 : Int32)] [(.ref a), (.int (1 : Int32)), (.ref ak)])
        obtain ⟨T465, X465, e465, s465⟩ := getF X464 hx hZ hown (host := "") (Or.inl (hwi hw 17 rfl)) Via.refl e464 F463 (g := (mkF m 130 #[rv a, iv (cf q.a), iv (cf q.e), .val (.double (FP.l2d (kf q.e))), .second, iv (1 : Int32), iv (3 : Int32)] [(.ref a), (.int (1 : Int32)), (.ref ak)])) rfl rfl (hb hby d3_130)
        refine go s465 ?_
        show Ends p e below _ T465 (mkF m 133 #[rv a, iv (cf q.a), iv (cf q.e), .val (.double (FP.l2d (kf q.e))), .second, iv (1 : Int32), iv (3 : Int32)] [(.ref ak), (.int (1 : Int32)), (.ref ak)])
        refine go (fun _ => XS.iload X465.here hx rfl (hb hby d3_133) rfl) ?_
        show Ends p e below _ T465 (mkF m 135 #[rv a, iv (cf q.a), iv (cf q.e), .val (.double (FP.l2d (kf q.e))), .second, iv (1 : Int32), iv (3 : Int32)] [(.int (3 : Int32)), (.ref ak), (.int (1 : Int32)), (.ref ak)])
        have F466 := (Arv.other V447 W461 (Ne.symm n3))
        obtain ⟨cl467, A467, -, S467, M467, H467, -⟩ := id F466
        have B467 := inb_of S467 (j := (3 : Int32)) (by decide)
        refine go (fun _ => X465.daload hx (j := (3 : Int32)) (v := (.double (FP.l2d (kf q.d)))) (by rw [e465]; exact A467.1) (State.isArrayOf_alike hZ.alike A467.2.1) A467.2.2 B467 (H467.at B467 rfl) (g := (mkF m 135 #[rv a, iv (cf q.a), iv (cf q.e), .val (.double (FP.l2d (kf q.e))), .second, iv (1 : Int32), iv (3 : Int32)] [(.int (3 : Int32)), (.ref ak), (.int (1 : Int32)), (.ref ak)])) rfl rfl (hb hby d3_135) _) ?_
        show Ends p e below _ T465 (mkF m 136 #[rv a, iv (cf q.a), iv (cf q.e), .val (.double (FP.l2d (kf q.e))), .second, iv (1 : Int32), iv (3 : Int32)] [(.double (FP.l2d (kf q.d))), (.int (1 : Int32)), (.ref ak)])
        obtain ⟨cl468, A468, q468, S468, M468, H468, G468⟩ := id F466
        obtain ⟨T468, h468, X468, e468, W468, s468⟩ := stD X465 hx hZ e465 A468 (j := (1 : Int32)) (inb_of S468 (by decide)) (g := (mkF m 136 #[rv a, iv (cf q.a), iv (cf q.e), .val (.double (FP.l2d (kf q.e))), .second, iv (1 : Int32), iv (3 : Int32)] [(.double (FP.l2d (kf q.d))), (.int (1 : Int32)), (.ref ak)])) rfl rfl (hb hby d3_136)
        have N468 := Fr.snoc X468 N461 fk
        have O469 : Ext Z.heap h468 := xw O462 W468 fk
        have V468 : Arv Z h468 ak kk .double (1024 : Int32) [(.double (FP.l2d (kf q.b))), (.double (FP.l2d (kf q.d))), (.double (FP.l2d (kf q.c))), (.double (FP.l2d (kf q.d))), (.double (FP.l2d (kf q.e)))] (.double (FP.l2d 0)) := Arv.set A468 q468 S468 M468 H468 G468 rfl W468 1 (by decide) (Nat.le_of_ble_eq_true rfl)
        refine go s468 ?_
        show Ends p e below _ T468 (mkF m 137 #[rv a, iv (cf q.a), iv (cf q.e), .val (.double (FP.l2d (kf q.e))), .second, iv (1 : Int32), iv (3 : Int32)] [])
        refine go (fun _ => XS.iload X468.here hx rfl (hb hby d3_137) rfl) ?_
        refine go (fun _ => XS.istore X468.here hx rfl (hb hby d3_139) rfl (l' := #[rv a, iv (cf q.a), iv (cf q.e), .val (.double (FP.l2d (kf q.e))), .second, iv (3 : Int32), iv (3 : Int32)]) rfl) ?_
        refine go (fun _ => XS.goto X468.here hx rfl (pc0 := 141) (pc' := 40) rfl (hb hby d3_141) (by decide) (by decide)) ?_
        refine go (fun _ => XT.iconstV X468.here hx rfl (2 : Int32) (hb hby d3_40) (by decide)) ?_
        refine go (fun _ => XS.iload X468.here hx rfl (hb hby d3_41) rfl) ?_
        refine go (fun _ => XS.imul X468.here hx rfl (hb hby d3_43) rfl) ?_
        show Ends p e below _ T468 (mkF m 44 #[rv a, iv (cf q.a), iv (cf q.e), .val (.double (FP.l2d (kf q.e))), .second, iv (3 : Int32), iv (3 : Int32)] [(.int (6 : Int32))])
        refine go (fun _ => XT.iconstV X468.here hx rfl (1 : Int32) (hb hby d3_44) (by decide)) ?_
        refine go (fun _ => XS.iadd X468.here hx rfl (hb hby d3_45) rfl) ?_
        refine go (fun _ => XS.istore X468.here hx rfl (hb hby d3_46) rfl (l' := #[rv a, iv (cf q.a), iv (cf q.e), .val (.double (FP.l2d (kf q.e))), .second, iv (3 : Int32), iv (7 : Int32)]) rfl) ?_
        refine go (fun _ => XS.iload X468.here hx rfl (hb hby d3_48) rfl) ?_
        refine go (fun _ => XS.aloadN X468.here hx rfl (hb hby d3_50) rfl rfl) ?_
        show Ends p e below _ T468 (mkF m 51 #[rv a, iv (cf q.a), iv (cf q.e), .val (.double (FP.l2d (kf q.e))), .second, iv (3 : Int32), iv (7 : Int32)] [(.ref a), (.int (7 : Int32))])
        have F470 := (Fld.other W468 (Fld.other W461 F449 (Or.inl n1)) (Or.inl n2))
        obtain ⟨T471, X471, e471, s471⟩ := getF X468 hx hZ hown (host := "") (Or.inl (hwi hw 24 rfl)) Via.refl e468 F470 (g := (mkF m 51 #[rv a, iv (cf q.a), iv (cf q.e), .val (.double (FP.l2d (kf q.e))), .second, iv (3 : Int32), iv (7 : Int32)] [(.ref a), (.int (7 : Int32))])) rfl rfl (hb hby d3_51)
        refine go s471 ?_
        show Ends p e below _ T471 (mkF m 54 #[rv a, iv (cf q.a), iv (cf q.e), .val (.double (FP.l2d (kf q.e))), .second, iv (3 : Int32), iv (7 : Int32)] [(.int (4 : Int32)), (.int (7 : Int32))])
        refine go (fun _ => XS.icmpNo X471.here hx rfl (hb hby d3_54) rfl (XT.ii_lt_f ((by decide) : ¬ ((7 : Int32) < (4 : Int32))))) ?_
        show Ends p e below _ T471 (mkF m 57 #[rv a, iv (cf q.a), iv (cf q.e), .val (.double (FP.l2d (kf q.e))), .second, iv (3 : Int32), iv (7 : Int32)] [])
        refine go (fun _ => XS.goto X471.here hx rfl (pc0 := 57) (pc' := 144) rfl (hb hby d3_57) (by decide) (by decide)) ?_
        refine go (fun _ => XS.aloadN X471.here hx rfl (hb hby d3_144) rfl rfl) ?_
        show Ends p e below _ T471 (mkF m 145 #[rv a, iv (cf q.a), iv (cf q.e), .val (.double (FP.l2d (kf q.e))), .second, iv (3 : Int32), iv (7 : Int32)] [(.ref a)])
        have F472 := (Fld.other W468 (Fld.other W461 F456 (Or.inl n1)) (Or.inl n2))
        obtain ⟨T473, X473, e473, s473⟩ := getF X471 hx hZ hown (host := "") (Or.inl (hwi hw 14 rfl)) Via.refl e471 F472 (g := (mkF m 145 #[rv a, iv (cf q.a), iv (cf q.e), .val (.double (FP.l2d (kf q.e))), .second, iv (3 : Int32), iv (7 : Int32)] [(.ref a)])) rfl rfl (hb hby d3_145)
        refine go s473 ?_
        show Ends p e below _ T473 (mkF m 148 #[rv a, iv (cf q.a), iv (cf q.e), .val (.double (FP.l2d (kf q.e))), .second, iv (3 : Int32), iv (7 : Int32)] [(.ref ac)])
        refine go (fun _ => XS.iload X473.here hx rfl (hb hby d3_148) rfl) ?_
        refine go (fun _ => XS.iloadN X473.here hx rfl (hb hby d3_150) rfl) ?_
        show Ends p e below _ T473 (mkF m 151 #[rv a, iv (cf q.a), iv (cf q.e), .val (.double (FP.l2d (kf q.e))), .second, iv (3 : Int32), iv (7 : Int32)] [(.int (cf q.e)), (.int (3 : Int32)), (.ref ac)])
        have F474 := (Arv.other V461 W468 n3)
        obtain ⟨cl475, A475, q475, S475, M475, H475, G475⟩ := id F474
        obtain ⟨T475, h475, X475, e475, W475, s475⟩ := stI X473 hx hZ e473 A475 (j := (3 : Int32)) (inb_of S475 (by decide)) (g := (mkF m 151 #[rv a, iv (cf q.a), iv (cf q.e), .val (.double (FP.l2d (kf q.e))), .second, iv (3 : Int32), iv (7 : Int32)] [(.int (cf q.e)), (.int (3 : Int32)), (.ref ac)])) rfl rfl (hb hby d3_151)
        have N475 := Fr.snoc X475 N468 fc
        have O476 : Ext Z.heap h475 := xw O469 W475 fc
        have V475 : Arv Z h475 ac kc .int (1024 : Int32) [(.int (cf q.b)), (.int (cf q.d)), (.int (cf q.c)), (.int (cf q.e)), (.int (cf q.e))] (.int 0) := Arv.set A475 q475 S475 M475 H475 G475 rfl W475 3 (by decide) (Nat.le_of_ble_eq_true rfl)
        refine go s475 ?_
        show Ends p e below _ T475 (mkF m 152 #[rv a, iv (cf q.a), iv (cf q.e), .val (.double (FP.l2d (kf q.e))), .second, iv (3 : Int32), iv (7 : Int32)] [])
        refine go (fun _ => XS.aloadN X475.here hx rfl (hb hby d3_152) rfl rfl) ?_
        show Ends p e below _ T475 (mkF m 153 #[rv a, iv (cf q.a), iv (cf q.e), .val (.double (FP.l2d (kf q.e))), .second, iv (3 : Int32), iv (7 : Int32)] [(.ref a)])
        have F477 := (Fld.other W475 (Fld.other W468 F463 (Or.inl n2)) (Or.inl n1))
        obtain ⟨T478, X478, e478, s478⟩ := getF X475 hx hZ hown (host := "") (Or.inl (hwi hw 17 rfl)) Via.refl e475 F477 (g := (mkF m 153 #[rv a, iv (cf q.a), iv (cf q.e), .val (.double (FP.l2d (kf q.e))), .second, iv (3 : Int32), iv (7 : Int32)] [(.ref a)])) rfl rfl (hb hby d3_153)
        refine go s478 ?_
        show Ends p e below _ T478 (mkF m 156 #[rv a, iv (cf q.a), iv (cf q.e), .val (.double (FP.l2d (kf q.e))), .second, iv (3 : Int32), iv (7 : Int32)] [(.ref ak)])
        refine go (fun _ => XS.iload X478.here hx rfl (hb hby d3_156) rfl) ?_
        show Ends p e below _ T478 (mkF m 158 #[rv a, iv (cf q.a), iv (cf q.e), .val (.double (FP.l2d (kf q.e))), .second, iv (3 : Int32), iv (7 : Int32)] [(.int (3 : Int32)), (.ref ak)])
        refine go (fun _ => XS.dloadN X478.here hx rfl (hb hby d3_158) rfl) ?_
        show Ends p e below _ T478 (mkF m 159 #[rv a, iv (cf q.a), iv (cf q.e), .val (.double (FP.l2d (kf q.e))), .second, iv (3 : Int32), iv (7 : Int32)] [(.double (FP.l2d (kf q.e))), (.int (3 : Int32)), (.ref ak)])
        have F479 := (Arv.other V468 W475 (Ne.symm n3))
        obtain ⟨cl480, A480, q480, S480, M480, H480, G480⟩ := id F479
        obtain ⟨T480, h480, X480, e480, W480, s480⟩ := stD X478 hx hZ e478 A480 (j := (3 : Int32)) (inb_of S480 (by decide)) (g := (mkF m 159 #[rv a, iv (cf q.a), iv (cf q.e), .val (.double (FP.l2d (kf q.e))), .second, iv (3 : Int32), iv (7 : Int32)] [(.double (FP.l2d (kf q.e))), (.int (3 : Int32)), (.ref ak)])) rfl rfl (hb hby d3_159)
        have N480 := Fr.snoc X480 N475 fk
        have O481 : Ext Z.heap h480 := xw O476 W480 fk
        have V480 : Arv Z h480 ak kk .double (1024 : Int32) [(.double (FP.l2d (kf q.b))), (.double (FP.l2d (kf q.d))), (.double (FP.l2d (kf q.c))), (.double (FP.l2d (kf q.e))), (.double (FP.l2d (kf q.e)))] (.double (FP.l2d 0)) := Arv.set A480 q480 S480 M480 H480 G480 rfl W480 3 (by decide) (Nat.le_of_ble_eq_true rfl)
        refine go s480 ?_
        show Ends p e below _ T480 (mkF m 160 #[rv a, iv (cf q.a), iv (cf q.e), .val (.double (FP.l2d (kf q.e))), .second, iv (3 : Int32), iv (7 : Int32)] [])
        refine go (fun _ => XS.iloadN X480.here hx rfl (hb hby d3_160) rfl) ?_
        show Ends p e below _ T480 (mkF m 161 #[rv a, iv (cf q.a), iv (cf q.e), .val (.double (FP.l2d (kf q.e))), .second, iv (3 : Int32), iv (7 : Int32)] [(.int (cf q.a))])
        have u482 : ¬ lt q.c q.b = true := fun z => c88_382 ((hlt _ _ hqc hqb).mp z)
        have u483 : lt q.b q.e = true := (hlt _ _ hqb hqe).mpr c103_436
        have u484 : lt q.d q.e = true := (hlt _ _ hqd hqe).mpr c103_455
        have z485 : qn = (⟨q.b, q.d, q.c, q.e, q.e⟩ : L5) := hqn.symm.trans (by simp only [hpop5, u482, u483, u484, if_true, if_false, Bool.false_eq_true])
        have F486 := (Arv.other V475 W480 n3)
        have K487 : Keep h0 h480 [a, ac, ak] := (Keep.wr (Keep.wr (Keep.wr (Keep.wr (Keep.wr (Keep.wr (Keep.wr (Keep.refl _ _) W363 (Or.inl (List.mem_of_getElem? (i := 0) rfl))) W440 (Or.inl (List.mem_of_getElem? (i := 1) rfl))) W447 (Or.inl (List.mem_of_getElem? (i := 2) rfl))) W461 (Or.inl (List.mem_of_getElem? (i := 1) rfl))) W468 (Or.inl (List.mem_of_getElem? (i := 2) rfl))) W475 (Or.inl (List.mem_of_getElem? (i := 1) rfl))) W480 (Or.inl (List.mem_of_getElem? (i := 2) rfl)))
        have F488 := (Fld.other W480 (Fld.other W475 F472 (Or.inl n1)) (Or.inl n2))
        have F489 := (Fld.other W480 F477 (Or.inl n2))
        have F490 := (Fld.other W480 (Fld.other W475 F470 (Or.inl n1)) (Or.inl n2))
        exact endI X480 hx hret (hb hby d3_161) (lvN X480 hlk e480 (fun h => by rw [hret] at h; cases h) ⟨rfl, N480, K487, F488, F489, F490, by rw [z485]; exact F486, by rw [z485]; exact V480⟩ (by decide) (by decide))
      · refine go (fun _ => XS.ifNo X453.here hx rfl (hb hby d3_103) rfl (XT.ll_lt_f c103_455)) ?_
        show Ends p e below _ T453 (mkF m 106 #[rv a, iv (cf q.a), iv (cf q.e), .val (.double (FP.l2d (kf q.e))), .second, iv (1 : Int32), iv (3 : Int32)] [])
        refine go (fun _ => XS.goto X453.here hx rfl (pc0 := 106) (pc' := 144) rfl (hb hby d3_106) (by decide) (by decide)) ?_
        refine go (fun _ => XS.aloadN X453.here hx rfl (hb hby d3_144) rfl rfl) ?_
        show Ends p e below _ T453 (mkF m 145 #[rv a, iv (cf q.a), iv (cf q.e), .val (.double (FP.l2d (kf q.e))), .second, iv (1 : Int32), iv (3 : Int32)] [(.ref a)])
        have F491 := (Fld.other W447 (Fld.other W440 F365 (Or.inl n1)) (Or.inl n2))
        obtain ⟨T492, X492, e492, s492⟩ := getF X453 hx hZ hown (host := "") (Or.inl (hwi hw 14 rfl)) Via.refl e453 F491 (g := (mkF m 145 #[rv a, iv (cf q.a), iv (cf q.e), .val (.double (FP.l2d (kf q.e))), .second, iv (1 : Int32), iv (3 : Int32)] [(.ref a)])) rfl rfl (hb hby d3_145)
        refine go s492 ?_
        show Ends p e below _ T492 (mkF m 148 #[rv a, iv (cf q.a), iv (cf q.e), .val (.double (FP.l2d (kf q.e))), .second, iv (1 : Int32), iv (3 : Int32)] [(.ref ac)])
        refine go (fun _ => XS.iload X492.here hx rfl (hb hby d3_148) rfl) ?_
        refine go (fun _ => XS.iloadN X492.here hx rfl (hb hby d3_150) rfl) ?_
        show Ends p e below _ T492 (mkF m 151 #[rv a, iv (cf q.a), iv (cf q.e), .val (.double (FP.l2d (kf q.e))), .second, iv (1 : Int32), iv (3 : Int32)] [(.int (cf q.e)), (.int (1 : Int32)), (.ref ac)])
        have F493 := (Arv.other V440 W447 n3)
        obtain ⟨cl494, A494, q494, S494, M494, H494, G494⟩ := id F493
        obtain ⟨T494, h494, X494, e494, W494, s494⟩ := stI X492 hx hZ e492 A494 (j := (1 : Int32)) (inb_of S494 (by decide)) (g := (mkF m 151 #[rv a, iv (cf q.a), iv (cf q.e), .val (.double (FP.l2d (kf q.e))), .second, iv (1 : Int32), iv (3 : Int32)] [(.int (cf q.e)), (.int (1 : Int32)), (.ref ac)])) rfl rfl (hb hby d3_151)
        have N494 := Fr.snoc X494 N447 fc
        have O495 : Ext Z.heap h494 := xw O448 W494 fc
        have V494 : Arv Z h494 ac kc .int (1024 : Int32) [(.int (cf q.b)), (.int (cf q.e)), (.int (cf q.c)), (.int (cf q.d)), (.int (cf q.e))] (.int 0) := Arv.set A494 q494 S494 M494 H494 G494 rfl W494 1 (by decide) (Nat.le_of_ble_eq_true rfl)
        refine go s494 ?_
        show Ends p e below _ T494 (mkF m 152 #[rv a, iv (cf q.a), iv (cf q.e), .val (.double (FP.l2d (kf q.e))), .second, iv (1 : Int32), iv (3 : Int32)] [])
        refine go (fun _ => XS.aloadN X494.here hx rfl (hb hby d3_152) rfl rfl) ?_
        show Ends p e below _ T494 (mkF m 153 #[rv a, iv (cf q.a), iv (cf q.e), .val (.double (FP.l2d (kf q.e))), .second, iv (1 : Int32), iv (3 : Int32)] [(.ref a)])
        have F496 := (Fld.other W494 F452 (Or.inl n1))
        obtain ⟨T497, X497, e497, s497⟩ := getF X494 hx hZ hown (host := "") (Or.inl (hwi hw 17 rfl)) Via.refl e494 F496 (g := (mkF m 153 #[rv a, iv (cf q.a), iv (cf q.e), .val (.double (FP.l2d (kf q.e))), .second, iv (1 : Int32), iv (3 : Int32)] [(.ref a)])) rfl rfl (hb hby d3_153)
        refine go s497 ?_
        show Ends p e below _ T497 (mkF m 156 #[rv a, iv (cf q.a), iv (cf q.e), .val (.double (FP.l2d (kf q.e))), .second, iv (1 : Int32), iv (3 : Int32)] [(.ref ak)])
        refine go (fun _ => XS.iload X497.here hx rfl (hb hby d3_156) rfl) ?_
        show Ends p e below _ T497 (mkF m 158 #[rv a, iv (cf q.a), iv (cf q.e), .val (.double (FP.l2d (kf q.e))), .second, iv (1 : Int32), iv (3 : Int32)] [(.int (1 : Int32)), (.ref ak)])
        refine go (fun _ => XS.dloadN X497.here hx rfl (hb hby d3_158) rfl) ?_
        show Ends p e below _ T497 (mkF m 159 #[rv a, iv (cf q.a), iv (cf q.e), .val (.double (FP.l2d (kf q.e))), .second, iv (1 : Int32), iv (3 : Int32)] [(.double (FP.l2d (kf q.e))), (.int (1 : Int32)), (.ref ak)])
        have F498 := (Arv.other V447 W494 (Ne.symm n3))
        obtain ⟨cl499, A499, q499, S499, M499, H499, G499⟩ := id F498
        obtain ⟨T499, h499, X499, e499, W499, s499⟩ := stD X497 hx hZ e497 A499 (j := (1 : Int32)) (inb_of S499 (by decide)) (g := (mkF m 159 #[rv a, iv (cf q.a), iv (cf q.e), .val (.double (FP.l2d (kf q.e))), .second, iv (1 : Int32), iv (3 : Int32)] [(.double (FP.l2d (kf q.e))), (.int (1 : Int32)), (.ref ak)])) rfl rfl (hb hby d3_159)
        have N499 := Fr.snoc X499 N494 fk
        have O500 : Ext Z.heap h499 := xw O495 W499 fk
        have V499 : Arv Z h499 ak kk .double (1024 : Int32) [(.double (FP.l2d (kf q.b))), (.double (FP.l2d (kf q.e))), (.double (FP.l2d (kf q.c))), (.double (FP.l2d (kf q.d))), (.double (FP.l2d (kf q.e)))] (.double (FP.l2d 0)) := Arv.set A499 q499 S499 M499 H499 G499 rfl W499 1 (by decide) (Nat.le_of_ble_eq_true rfl)
        refine go s499 ?_
        show Ends p e below _ T499 (mkF m 160 #[rv a, iv (cf q.a), iv (cf q.e), .val (.double (FP.l2d (kf q.e))), .second, iv (1 : Int32), iv (3 : Int32)] [])
        refine go (fun _ => XS.iloadN X499.here hx rfl (hb hby d3_160) rfl) ?_
        show Ends p e below _ T499 (mkF m 161 #[rv a, iv (cf q.a), iv (cf q.e), .val (.double (FP.l2d (kf q.e))), .second, iv (1 : Int32), iv (3 : Int32)] [(.int (cf q.a))])
        have u501 : ¬ lt q.c q.b = true := fun z => c88_382 ((hlt _ _ hqc hqb).mp z)
        have u502 : lt q.b q.e = true := (hlt _ _ hqb hqe).mpr c103_436
        have u503 : ¬ lt q.d q.e = true := fun z => c103_455 ((hlt _ _ hqd hqe).mp z)
        have z504 : qn = (⟨q.b, q.e, q.c, q.d, q.e⟩ : L5) := hqn.symm.trans (by simp only [hpop5, u501, u502, u503, if_true, if_false, Bool.false_eq_true])
        have F505 := (Arv.other V494 W499 n3)
        have K506 : Keep h0 h499 [a, ac, ak] := (Keep.wr (Keep.wr (Keep.wr (Keep.wr (Keep.wr (Keep.refl _ _) W363 (Or.inl (List.mem_of_getElem? (i := 0) rfl))) W440 (Or.inl (List.mem_of_getElem? (i := 1) rfl))) W447 (Or.inl (List.mem_of_getElem? (i := 2) rfl))) W494 (Or.inl (List.mem_of_getElem? (i := 1) rfl))) W499 (Or.inl (List.mem_of_getElem? (i := 2) rfl)))
        have F507 := (Fld.other W499 (Fld.other W494 F491 (Or.inl n1)) (Or.inl n2))
        have F508 := (Fld.other W499 F496 (Or.inl n2))
        have F509 := (Fld.other W499 (Fld.other W494 F449 (Or.inl n1)) (Or.inl n2))
        exact endI X499 hx hret (hb hby d3_161) (lvN X499 hlk e499 (fun h => by rw [hret] at h; cases h) ⟨rfl, N499, K506, F507, F508, F509, by rw [z504]; exact F505, by rw [z504]; exact V499⟩ (by decide) (by decide))
    · refine go (fun _ => XS.ifNo X434.here hx rfl (hb hby d3_103) rfl (XT.ll_lt_f c103_436)) ?_
      show Ends p e below _ T434 (mkF m 106 #[rv a, iv (cf q.a), iv (cf q.e), .val (.double (FP.l2d (kf q.e))), .second, iv (0 : Int32), iv (1 : Int32)] [])
      refine go (fun _ => XS.goto X434.here hx rfl (pc0 := 106) (pc' := 144) rfl (hb hby d3_106) (by decide) (by decide)) ?_
      refine go (fun _ => XS.aloadN X434.here hx rfl (hb hby d3_144) rfl rfl) ?_
      show Ends p e below _ T434 (mkF m 145 #[rv a, iv (cf q.a), iv (cf q.e), .val (.double (FP.l2d (kf q.e))), .second, iv (0 : Int32), iv (1 : Int32)] [(.ref a)])
      obtain ⟨T510, X510, e510, s510⟩ := getF X434 hx hZ hown (host := "") (Or.inl (hwi hw 14 rfl)) Via.refl e434 F365 (g := (mkF m 145 #[rv a, iv (cf q.a), iv (cf q.e), .val (.double (FP.l2d (kf q.e))), .second, iv (0 : Int32), iv (1 : Int32)] [(.ref a)])) rfl rfl (hb hby d3_145)
      refine go s510 ?_
      show Ends p e below _ T510 (mkF m 148 #[rv a, iv (cf q.a), iv (cf q.e), .val (.double (FP.l2d (kf q.e))), .second, iv (0 : Int32), iv (1 : Int32)] [(.ref ac)])
      refine go (fun _ => XS.iload X510.here hx rfl (hb hby d3_148) rfl) ?_
      refine go (fun _ => XS.iloadN X510.here hx rfl (hb hby d3_150) rfl) ?_
      show Ends p e below _ T510 (mkF m 151 #[rv a, iv (cf q.a), iv (cf q.e), .val (.double (FP.l2d (kf q.e))), .second, iv (0 : Int32), iv (1 : Int32)] [(.int (cf q.e)), (.int (0 : Int32)), (.ref ac)])
      obtain ⟨cl511, A511, q511, S511, M511, H511, G511⟩ := id F369
      obtain ⟨T511, h511, X511, e511, W511, s511⟩ := stI X510 hx hZ e510 A511 (j := (0 : Int32)) (inb_of S511 (by decide)) (g := (mkF m 151 #[rv a, iv (cf q.a), iv (cf q.e), .val (.double (FP.l2d (kf q.e))), .second, iv (0 : Int32), iv (1 : Int32)] [(.int (cf q.e)), (.int (0 : Int32)), (.ref ac)])) rfl rfl (hb hby d3_151)
      have N511 := Fr.snoc X511 N363 fc
      have O512 : Ext Z.heap h511 := xw O364 W511 fc
      have V511 : Arv Z h511 ac kc .int (1024 : Int32) [(.int (cf q.e)), (.int (cf q.b)), (.int (cf q.c)), (.int (cf q.d)), (.int (cf q.e))] (.int 0) := Arv.set A511 q511 S511 M511 H511 G511 rfl W511 0 (by decide) (Nat.le_of_ble_eq_true rfl)
      refine go s511 ?_
      show Ends p e below _ T511 (mkF m 152 #[rv a, iv (cf q.a), iv (cf q.e), .val (.double (FP.l2d (kf q.e))), .second, iv (0 : Int32), iv (1 : Int32)] [])
      refine go (fun _ => XS.aloadN X511.here hx rfl (hb hby d3_152) rfl rfl) ?_
      show Ends p e below _ T511 (mkF m 153 #[rv a, iv (cf q.a), iv (cf q.e), .val (.double (FP.l2d (kf q.e))), .second, iv (0 : Int32), iv (1 : Int32)] [(.ref a)])
      have F513 := (Fld.other W511 F371 (Or.inl n1))
      obtain ⟨T514, X514, e514, s514⟩ := getF X511 hx hZ hown (host := "") (Or.inl (hwi hw 17 rfl)) Via.refl e511 F513 (g := (mkF m 153 #[rv a, iv (cf q.a), iv (cf q.e), .val (.double (FP.l2d (kf q.e))), .second, iv (0 : Int32), iv (1 : Int32)] [(.ref a)])) rfl rfl (hb hby d3_153)
      refine go s514 ?_
      show Ends p e below _ T514 (mkF m 156 #[rv a, iv (cf q.a), iv (cf q.e), .val (.double (FP.l2d (kf q.e))), .second, iv (0 : Int32), iv (1 : Int32)] [(.ref ak)])
      refine go (fun _ => XS.iload X514.here hx rfl (hb hby d3_156) rfl) ?_
      show Ends p e below _ T514 (mkF m 158 #[rv a, iv (cf q.a), iv (cf q.e), .val (.double (FP.l2d (kf q.e))), .second, iv (0 : Int32), iv (1 : Int32)] [(.int (0 : Int32)), (.ref ak)])
      refine go (fun _ => XS.dloadN X514.here hx rfl (hb hby d3_158) rfl) ?_
      show Ends p e below _ T514 (mkF m 159 #[rv a, iv (cf q.a), iv (cf q.e), .val (.double (FP.l2d (kf q.e))), .second, iv (0 : Int32), iv (1 : Int32)] [(.double (FP.l2d (kf q.e))), (.int (0 : Int32)), (.ref ak)])
      have F515 := (Arv.other F374 W511 (Ne.symm n3))
      obtain ⟨cl516, A516, q516, S516, M516, H516, G516⟩ := id F515
      obtain ⟨T516, h516, X516, e516, W516, s516⟩ := stD X514 hx hZ e514 A516 (j := (0 : Int32)) (inb_of S516 (by decide)) (g := (mkF m 159 #[rv a, iv (cf q.a), iv (cf q.e), .val (.double (FP.l2d (kf q.e))), .second, iv (0 : Int32), iv (1 : Int32)] [(.double (FP.l2d (kf q.e))), (.int (0 : Int32)), (.ref ak)])) rfl rfl (hb hby d3_159)
      have N516 := Fr.snoc X516 N511 fk
      have O517 : Ext Z.heap h516 := xw O512 W516 fk
      have V516 : Arv Z h516 ak kk .double (1024 : Int32) [(.double (FP.l2d (kf q.e))), (.double (FP.l2d (kf q.b))), (.double (FP.l2d (kf q.c))), (.double (FP.l2d (kf q.d))), (.double (FP.l2d (kf q.e)))] (.double (FP.l2d 0)) := Arv.set A516 q516 S516 M516 H516 G516 rfl W516 0 (by decide) (Nat.le_of_ble_eq_true rfl)
      refine go s516 ?_
      show Ends p e below _ T516 (mkF m 160 #[rv a, iv (cf q.a), iv (cf q.e), .val (.double (FP.l2d (kf q.e))), .second, iv (0 : Int32), iv (1 : Int32)] [])
      refine go (fun _ => XS.iloadN X516.here hx rfl (hb hby d3_160) rfl) ?_
      show Ends p e below _ T516 (mkF m 161 #[rv a, iv (cf q.a), iv (cf q.e), .val (.double (FP.l2d (kf q.e))), .second, iv (0 : Int32), iv (1 : Int32)] [(.int (cf q.a))])
      have u518 : ¬ lt q.c q.b = true := fun z => c88_382 ((hlt _ _ hqc hqb).mp z)
      have u519 : ¬ lt q.b q.e = true := fun z => c103_436 ((hlt _ _ hqb hqe).mp z)
      have z520 : qn = (⟨q.e, q.b, q.c, q.d, q.e⟩ : L5) := hqn.symm.trans (by simp only [hpop5, u518, u519, if_true, if_false, Bool.false_eq_true])
      have F521 := (Arv.other V511 W516 n3)
      have K522 : Keep h0 h516 [a, ac, ak] := (Keep.wr (Keep.wr (Keep.wr (Keep.refl _ _) W363 (Or.inl (List.mem_of_getElem? (i := 0) rfl))) W511 (Or.inl (List.mem_of_getElem? (i := 1) rfl))) W516 (Or.inl (List.mem_of_getElem? (i := 2) rfl)))
      have F523 := (Fld.other W516 (Fld.other W511 F365 (Or.inl n1)) (Or.inl n2))
      have F524 := (Fld.other W516 F513 (Or.inl n2))
      have F525 := (Fld.other W516 (Fld.other W511 F367 (Or.inl n1)) (Or.inl n2))
      exact endI X516 hx hret (hb hby d3_161) (lvN X516 hlk e516 (fun h => by rw [hret] at h; cases h) ⟨rfl, N516, K522, F523, F524, F525, by rw [z520]; exact F521, by rw [z520]; exact V516⟩ (by decide) (by decide))
set_option maxRecDepth 65536 in
set_option maxHeartbeats 40000000 in
theorem rm_pop4 {l : Launch} {Z : State} {a0 : Array Value} (hw : ∀ d ∈ tables_1, d.before a0 Z = true) (a ac ak : Addr) (kc kk : ClassId) (cf : Nat → Int32) (kf : Nat → Int64) (lt : Nat → Nat → Bool) (q qn : L5) (h0 : Heap) (O0 : Ext Z.heap h0) (f0 : Z.heap.size ≤ a) (fc : Z.heap.size ≤ ac) (fk : Z.heap.size ≤ ak) (n1 : a ≠ ac) (n2 : a ≠ ak) (n3 : ac ≠ ak) (E0 : Exa Z h0 a "com/example/pedestrain/pedestrain/core/CellHeap") (F1 : Fld Z h0 a "com/example/pedestrain/pedestrain/core/CellHeap" "cells" "[I" (.ref ac)) (F2 : Fld Z h0 a "com/example/pedestrain/pedestrain/core/CellHeap" "keys" "[D" (.ref ak)) (F3 : Fld Z h0 a "com/example/pedestrain/pedestrain/core/CellHeap" "size" "I" (.int (4 : Int32))) (Vc : Arv Z h0 ac kc .int (1024 : Int32) [(.int (cf q.a)), (.int (cf q.b)), (.int (cf q.c)), (.int (cf q.d)), (.int (cf q.e))] (.int 0)) (Vk : Arv Z h0 ak kk .double (1024 : Int32) [(.double (FP.l2d (kf q.a))), (.double (FP.l2d (kf q.b))), (.double (FP.l2d (kf q.c))), (.double (FP.l2d (kf q.d))), (.double (FP.l2d (kf q.e)))] (.double (FP.l2d 0))) (hB : ∀ i, B53 (kf i)) (hlt : ∀ i j, i < 5 → j < 5 → (lt i j = true ↔ kf i < kf j)) (hqa : q.a < 5) (hqb : q.b < 5) (hqc : q.c < 5) (hqd : q.d < 5) (hqn : hpop4 lt q = qn) :
    Con l (⟨"com/example/pedestrain/pedestrain/core/CellHeap", "pop", "()I"⟩ : MethodName) prog_4_method_6_code 7 (some .int) ({ frames := 0, cells := 0, slots := 0, locals := 0 } : Room) Z #[(.ref a)] h0 (fun v h L => v = some (.int (cf q.a)) ∧ Fr Z.heap.size L ∧ Keep h0 h [a, ac, ak] ∧ Fld Z h a "com/example/pedestrain/pedestrain/core/CellHeap" "cells" "[I" (.ref ac) ∧ Fld Z h a "com/example/pedestrain/pedestrain/core/CellHeap" "keys" "[D" (.ref ak) ∧ Fld Z h a "com/example/pedestrain/pedestrain/core/CellHeap" "size" "I" (.int (3 : Int32)) ∧ Arv Z h ac kc .int (1024 : Int32) [(.int (cf qn.a)), (.int (cf qn.b)), (.int (cf qn.c)), (.int (cf qn.d)), (.int (cf qn.e))] (.int 0) ∧ Arv Z h ak kk .double (1024 : Int32) [(.double (FP.l2d (kf qn.a))), (.double (FP.l2d (kf qn.b))), (.double (FP.l2d (kf qn.c))), (.double (FP.l2d (kf qn.d))), (.double (FP.l2d (kf qn.e)))] (.double (FP.l2d 0))) := by
  refine Con.of (plainFor_of_name pn_1) (Ls := #[rv a, .unset, .unset, .unset, .unset, .unset, .unset]) (fun m => efOf rfl) ?_
  intro p e s m below meth c T0 X0 hx hZ hby hml hown hnm hret hlk e0
  refine go (fun _ => XS.aloadN X0.here hx rfl (hb hby d3_0) rfl rfl) ?_
  show Ends p e below _ T0 (mkF m 1 #[rv a, .unset, .unset, .unset, .unset, .unset, .unset] [(.ref a)])
  obtain ⟨T526, X526, e526, s526⟩ := getF X0 hx hZ hown (host := "") (Or.inl (hwi hw 14 rfl)) Via.refl e0 F1 (g := (mkF m 1 #[rv a, .unset, .unset, .unset, .unset, .unset, .unset] [(.ref a)])) rfl rfl (hb hby d3_1)
  refine go s526 ?_
  show Ends p e below _ T526 (mkF m 4 #[rv a, .unset, .unset, .unset, .unset, .unset, .unset] [(.ref ac)])
  refine go (fun _ => XT.iconstV X526.here hx rfl (0 : Int32) (hb hby d3_4) (by decide)) ?_
  show Ends p e below _ T526 (mkF m 5 #[rv a, .unset, .unset, .unset, .unset, .unset, .unset] [(.int (0 : Int32)), (.ref ac)])
  obtain ⟨cl527, A527, -, S527, M527, H527, -⟩ := id Vc
  have B527 := inb_of S527 (j := (0 : Int32)) (by decide)
  refine go (fun _ => X526.iaload hx (j := (0 : Int32)) (v := (.int (cf q.a))) (by rw [e526]; exact A527.1) (State.isArrayOf_alike hZ.alike A527.2.1) A527.2.2 B527 (H527.at B527 rfl) (g := (mkF m 5 #[rv a, .unset, .unset, .unset, .unset, .unset, .unset] [(.int (0 : Int32)), (.ref ac)])) rfl rfl (hb hby d3_5) _) ?_
  show Ends p e below _ T526 (mkF m 6 #[rv a, .unset, .unset, .unset, .unset, .unset, .unset] [(.int (cf q.a))])
  refine go (fun _ => XS.istoreN X526.here hx rfl (hb hby d3_6) rfl (l' := #[rv a, iv (cf q.a), .unset, .unset, .unset, .unset, .unset]) rfl) ?_
  refine go (fun _ => XS.aloadN X526.here hx rfl (hb hby d3_7) rfl rfl) ?_
  refine go (fun _ => XS.dup X526.here hx rfl (hb hby d3_8) rfl rfl) ?_
  show Ends p e below _ T526 (mkF m 9 #[rv a, iv (cf q.a), .unset, .unset, .unset, .unset, .unset] [(.ref a), (.ref a)])
  obtain ⟨T528, X528, e528, s528⟩ := getF X526 hx hZ hown (host := "") (Or.inl (hwi hw 24 rfl)) Via.refl e526 F3 (g := (mkF m 9 #[rv a, iv (cf q.a), .unset, .unset, .unset, .unset, .unset] [(.ref a), (.ref a)])) rfl rfl (hb hby d3_9)
  refine go s528 ?_
  show Ends p e below _ T528 (mkF m 12 #[rv a, iv (cf q.a), .unset, .unset, .unset, .unset, .unset] [(.int (4 : Int32)), (.ref a)])
  refine go (fun _ => XT.iconstV X528.here hx rfl (1 : Int32) (hb hby d3_12) (by decide)) ?_
  refine go (fun _ => XS.isub X528.here hx rfl (hb hby d3_13) rfl) ?_
  show Ends p e below _ T528 (mkF m 14 #[rv a, iv (cf q.a), .unset, .unset, .unset, .unset, .unset] [(.int (3 : Int32)), (.ref a)])
  obtain ⟨T529, h529, X529, e529, W529, s529⟩ := putF X528 hx hZ hown (host := "") (Or.inl (hwi hw 24 rfl)) Via.refl e528 F3 E0 (Or.inl (hwi hw 25 rfl)) (hwi hw 6 rfl) (ty := .int) (by decide) rfl rfl (g := (mkF m 14 #[rv a, iv (cf q.a), .unset, .unset, .unset, .unset, .unset] [(.int (3 : Int32)), (.ref a)])) rfl rfl (hb hby d3_14)
  have N529 := Fr.snoc X529 (Fr.nil _) f0
  have O530 : Ext Z.heap h529 := xw O0 W529 f0
  refine go s529 ?_
  show Ends p e below _ T529 (mkF m 17 #[rv a, iv (cf q.a), .unset, .unset, .unset, .unset, .unset] [])
  refine go (fun _ => XS.aloadN X529.here hx rfl (hb hby d3_17) rfl rfl) ?_
  show Ends p e below _ T529 (mkF m 18 #[rv a, iv (cf q.a), .unset, .unset, .unset, .unset, .unset] [(.ref a)])
  have F531 := (Fld.other W529 F1 (Or.inr (slot_ne (a0 := a0) (Or.inl (hwi hw 15 rfl)) (Or.inl (hwi hw 25 rfl)) (by decide) (t := (.array .int)) (t' := .int) (by decide) (by decide))))
  obtain ⟨T532, X532, e532, s532⟩ := getF X529 hx hZ hown (host := "") (Or.inl (hwi hw 14 rfl)) Via.refl e529 F531 (g := (mkF m 18 #[rv a, iv (cf q.a), .unset, .unset, .unset, .unset, .unset] [(.ref a)])) rfl rfl (hb hby d3_18)
  refine go s532 ?_
  show Ends p e below _ T532 (mkF m 21 #[rv a, iv (cf q.a), .unset, .unset, .unset, .unset, .unset] [(.ref ac)])
  refine go (fun _ => XS.aloadN X532.here hx rfl (hb hby d3_21) rfl rfl) ?_
  show Ends p e below _ T532 (mkF m 22 #[rv a, iv (cf q.a), .unset, .unset, .unset, .unset, .unset] [(.ref a), (.ref ac)])
  have F533 := (Fld.same W529 F3)
  obtain ⟨T534, X534, e534, s534⟩ := getF X532 hx hZ hown (host := "") (Or.inl (hwi hw 24 rfl)) Via.refl e532 F533 (g := (mkF m 22 #[rv a, iv (cf q.a), .unset, .unset, .unset, .unset, .unset] [(.ref a), (.ref ac)])) rfl rfl (hb hby d3_22)
  refine go s534 ?_
  show Ends p e below _ T534 (mkF m 25 #[rv a, iv (cf q.a), .unset, .unset, .unset, .unset, .unset] [(.int (3 : Int32)), (.ref ac)])
  have F535 := (Arv.other Vc W529 (Ne.symm n1))
  obtain ⟨cl536, A536, -, S536, M536, H536, -⟩ := id F535
  have B536 := inb_of S536 (j := (3 : Int32)) (by decide)
  refine go (fun _ => X534.iaload hx (j := (3 : Int32)) (v := (.int (cf q.d))) (by rw [e534]; exact A536.1) (State.isArrayOf_alike hZ.alike A536.2.1) A536.2.2 B536 (H536.at B536 rfl) (g := (mkF m 25 #[rv a, iv (cf q.a), .unset, .unset, .unset, .unset, .unset] [(.int (3 : Int32)), (.ref ac)])) rfl rfl (hb hby d3_25) _) ?_
  show Ends p e below _ T534 (mkF m 26 #[rv a, iv (cf q.a), .unset, .unset, .unset, .unset, .unset] [(.int (cf q.d))])
  refine go (fun _ => XS.istoreN X534.here hx rfl (hb hby d3_26) rfl (l' := #[rv a, iv (cf q.a), iv (cf q.d), .unset, .unset, .unset, .unset]) rfl) ?_
  refine go (fun _ => XS.aloadN X534.here hx rfl (hb hby d3_27) rfl rfl) ?_
  show Ends p e below _ T534 (mkF m 28 #[rv a, iv (cf q.a), iv (cf q.d), .unset, .unset, .unset, .unset] [(.ref a)])
  have F537 := (Fld.other W529 F2 (Or.inr (slot_ne (a0 := a0) (Or.inl (hwi hw 18 rfl)) (Or.inl (hwi hw 25 rfl)) (by decide) (t := (.array .double)) (t' := .int) (by decide) (by decide))))
  obtain ⟨T538, X538, e538, s538⟩ := getF X534 hx hZ hown (host := "") (Or.inl (hwi hw 17 rfl)) Via.refl e534 F537 (g := (mkF m 28 #[rv a, iv (cf q.a), iv (cf q.d), .unset, .unset, .unset, .unset] [(.ref a)])) rfl rfl (hb hby d3_28)
  refine go s538 ?_
  show Ends p e below _ T538 (mkF m 31 #[rv a, iv (cf q.a), iv (cf q.d), .unset, .unset, .unset, .unset] [(.ref ak)])
  refine go (fun _ => XS.aloadN X538.here hx rfl (hb hby d3_31) rfl rfl) ?_
  show Ends p e below _ T538 (mkF m 32 #[rv a, iv (cf q.a), iv (cf q.d), .unset, .unset, .unset, .unset] [(.ref a), (.ref ak)])
  obtain ⟨T539, X539, e539, s539⟩ := getF X538 hx hZ hown (host := "") (Or.inl (hwi hw 24 rfl)) Via.refl e538 F533 (g := (mkF m 32 #[rv a, iv (cf q.a), iv (cf q.d), .unset, .unset, .unset, .unset] [(.ref a), (.ref ak)])) rfl rfl (hb hby d3_32)
  refine go s539 ?_
  show Ends p e below _ T539 (mkF m 35 #[rv a, iv (cf q.a), iv (cf q.d), .unset, .unset, .unset, .unset] [(.int (3 : Int32)), (.ref ak)])
  have F540 := (Arv.other Vk W529 (Ne.symm n2))
  obtain ⟨cl541, A541, -, S541, M541, H541, -⟩ := id F540
  have B541 := inb_of S541 (j := (3 : Int32)) (by decide)
  refine go (fun _ => X539.daload hx (j := (3 : Int32)) (v := (.double (FP.l2d (kf q.d)))) (by rw [e539]; exact A541.1) (State.isArrayOf_alike hZ.alike A541.2.1) A541.2.2 B541 (H541.at B541 rfl) (g := (mkF m 35 #[rv a, iv (cf q.a), iv (cf q.d), .unset, .unset, .unset, .unset] [(.int (3 : Int32)), (.ref ak)])) rfl rfl (hb hby d3_35) _) ?_
  show Ends p e below _ T539 (mkF m 36 #[rv a, iv (cf q.a), iv (cf q.d), .unset, .unset, .unset, .unset] [(.double (FP.l2d (kf q.d)))])
  refine go (fun _ => XS.dstoreN X539.here hx rfl (hb hby d3_36) rfl (l' := #[rv a, iv (cf q.a), iv (cf q.d), .val (.double (FP.l2d (kf q.d))), .second, .unset, .unset]) rfl) ?_
  show Ends p e below _ T539 (mkF m 37 #[rv a, iv (cf q.a), iv (cf q.d), .val (.double (FP.l2d (kf q.d))), .second, .unset, .unset] [])
  refine go (fun _ => XT.iconstV X539.here hx rfl (0 : Int32) (hb hby d3_37) (by decide)) ?_
  refine go (fun _ => XS.istore X539.here hx rfl (hb hby d3_38) rfl (l' := #[rv a, iv (cf q.a), iv (cf q.d), .val (.double (FP.l2d (kf q.d))), .second, iv (0 : Int32), .unset]) rfl) ?_
  refine go (fun _ => XT.iconstV X539.here hx rfl (2 : Int32) (hb hby d3_40) (by decide)) ?_
  refine go (fun _ => XS.iload X539.here hx rfl (hb hby d3_41) rfl) ?_
  refine go (fun _ => XS.imul X539.here hx rfl (hb hby d3_43) rfl) ?_
  refine go (fun _ => XT.iconstV X539.here hx rfl (1 : Int32) (hb hby d3_44) (by decide)) ?_
  show Ends p e below _ T539 (mkF m 45 #[rv a, iv (cf q.a), iv (cf q.d), .val (.double (FP.l2d (kf q.d))), .second, iv (0 : Int32), .unset] [(.int (1 : Int32)), (.int (0 : Int32))])
  refine go (fun _ => XS.iadd X539.here hx rfl (hb hby d3_45) rfl) ?_
  refine go (fun _ => XS.istore X539.here hx rfl (hb hby d3_46) rfl (l' := #[rv a, iv (cf q.a), iv (cf q.d), .val (.double (FP.l2d (kf q.d))), .second, iv (0 : Int32), iv (1 : Int32)]) rfl) ?_
  refine go (fun _ => XS.iload X539.here hx rfl (hb hby d3_48) rfl) ?_
  refine go (fun _ => XS.aloadN X539.here hx rfl (hb hby d3_50) rfl rfl) ?_
  show Ends p e below _ T539 (mkF m 51 #[rv a, iv (cf q.a), iv (cf q.d), .val (.double (FP.l2d (kf q.d))), .second, iv (0 : Int32), iv (1 : Int32)] [(.ref a), (.int (1 : Int32))])
  obtain ⟨T542, X542, e542, s542⟩ := getF X539 hx hZ hown (host := "") (Or.inl (hwi hw 24 rfl)) Via.refl e539 F533 (g := (mkF m 51 #[rv a, iv (cf q.a), iv (cf q.d), .val (.double (FP.l2d (kf q.d))), .second, iv (0 : Int32), iv (1 : Int32)] [(.ref a), (.int (1 : Int32))])) rfl rfl (hb hby d3_51)
  refine go s542 ?_
  show Ends p e below _ T542 (mkF m 54 #[rv a, iv (cf q.a), iv (cf q.d), .val (.double (FP.l2d (kf q.d))), .second, iv (0 : Int32), iv (1 : Int32)] [(.int (3 : Int32)), (.int (1 : Int32))])
  refine go (fun _ => XS.icmpYes X542.here hx rfl (pc0 := 54) (pc' := 60) rfl (hb hby d3_54) rfl (XT.ii_lt_t ((by decide) : (1 : Int32) < (3 : Int32))) (by decide) (by decide)) ?_
  show Ends p e below _ T542 (mkF m 60 #[rv a, iv (cf q.a), iv (cf q.d), .val (.double (FP.l2d (kf q.d))), .second, iv (0 : Int32), iv (1 : Int32)] [])
  refine go (fun _ => XS.iload X542.here hx rfl (hb hby d3_60) rfl) ?_
  refine go (fun _ => XT.iconstV X542.here hx rfl (1 : Int32) (hb hby d3_62) (by decide)) ?_
  refine go (fun _ => XS.iadd X542.here hx rfl (hb hby d3_63) rfl) ?_
  refine go (fun _ => XS.aloadN X542.here hx rfl (hb hby d3_64) rfl rfl) ?_
  show Ends p e below _ T542 (mkF m 65 #[rv a, iv (cf q.a), iv (cf q.d), .val (.double (FP.l2d (kf q.d))), .second, iv (0 : Int32), iv (1 : Int32)] [(.ref a), (.int (2 : Int32))])
  obtain ⟨T543, X543, e543, s543⟩ := getF X542 hx hZ hown (host := "") (Or.inl (hwi hw 24 rfl)) Via.refl e542 F533 (g := (mkF m 65 #[rv a, iv (cf q.a), iv (cf q.d), .val (.double (FP.l2d (kf q.d))), .second, iv (0 : Int32), iv (1 : Int32)] [(.ref a), (.int (2 : Int32))])) rfl rfl (hb hby d3_65)
  refine go s543 ?_
  show Ends p e below _ T543 (mkF m 68 #[rv a, iv (cf q.a), iv (cf q.d), .val (.double (FP.l2d (kf q.d))), .second, iv (0 : Int32), iv (1 : Int32)] [(.int (3 : Int32)), (.int (2 : Int32))])
  refine go (fun _ => XS.icmpNo X543.here hx rfl (hb hby d3_68) rfl (XT.ii_ge_f ((by decide) : (2 : Int32) < (3 : Int32)))) ?_
  show Ends p e below _ T543 (mkF m 71 #[rv a, iv (cf q.a), iv (cf q.d), .val (.double (FP.l2d (kf q.d))), .second, iv (0 : Int32), iv (1 : Int32)] [])
  refine go (fun _ => XS.aloadN X543.here hx rfl (hb hby d3_71) rfl rfl) ?_
  show Ends p e below _ T543 (mkF m 72 #[rv a, iv (cf q.a), iv (cf q.d), .val (.double (FP.l2d (kf q.d))), .second, iv (0 : Int32), iv (1 : Int32)] [(.ref a)])
  obtain ⟨T544, X544, e544, s544⟩ := getF X543 hx hZ hown (host := "") (Or.inl (hwi hw 17 rfl)) Via.refl e543 F537 (g := (mkF m 72 #[rv a, iv (cf q.a), iv (cf q.d), .val (.double (FP.l2d (kf q.d))), .second, iv (0 : Int32), iv (1 : Int32)] [(.ref a)])) rfl rfl (hb hby d3_72)
  refine go s544 ?_
  show Ends p e below _ T544 (mkF m 75 #[rv a, iv (cf q.a), iv (cf q.d), .val (.double (FP.l2d (kf q.d))), .second, iv (0 : Int32), iv (1 : Int32)] [(.ref ak)])
  refine go (fun _ => XS.iload X544.here hx rfl (hb hby d3_75) rfl) ?_
  refine go (fun _ => XT.iconstV X544.here hx rfl (1 : Int32) (hb hby d3_77) (by decide)) ?_
  refine go (fun _ => XS.iadd X544.here hx rfl (hb hby d3_78) rfl) ?_
  show Ends p e below _ T544 (mkF m 79 #[rv a, iv (cf q.a), iv (cf q.d), .val (.double (FP.l2d (kf q.d))), .second, iv (0 : Int32), iv (1 : Int32)] [(.int (2 : Int32)), (.ref ak)])
  obtain ⟨cl545, A545, -, S545, M545, H545, -⟩ := id F540
  have B545 := inb_of S545 (j := (2 : Int32)) (by decide)
  refine go (fun _ => X544.daload hx (j := (2 : Int32)) (v := (.double (FP.l2d (kf q.c)))) (by rw [e544]; exact A545.1) (State.isArrayOf_alike hZ.alike A545.2.1) A545.2.2 B545 (H545.at B545 rfl) (g := (mkF m 79 #[rv a, iv (cf q.a), iv (cf q.d), .val (.double (FP.l2d (kf q.d))), .second, iv (0 : Int32), iv (1 : Int32)] [(.int (2 : Int32)), (.ref ak)])) rfl rfl (hb hby d3_79) _) ?_
  show Ends p e below _ T544 (mkF m 80 #[rv a, iv (cf q.a), iv (cf q.d), .val (.double (FP.l2d (kf q.d))), .second, iv (0 : Int32), iv (1 : Int32)] [(.double (FP.l2d (kf q.c)))])
  refine go (fun _ => XS.aloadN X544.here hx rfl (hb hby d3_80) rfl rfl) ?_
  show Ends p e below _ T544 (mkF m 81 #[rv a, iv (cf q.a), iv (cf q.d), .val (.double (FP.l2d (kf q.d))), .second, iv (0 : Int32), iv (1 : Int32)] [(.ref a), (.double (FP.l2d (kf q.c)))])
  obtain ⟨T546, X546, e546, s546⟩ := getF X544 hx hZ hown (host := "") (Or.inl (hwi hw 17 rfl)) Via.refl e544 F537 (g := (mkF m 81 #[rv a, iv (cf q.a), iv (cf q.d), .val (.double (FP.l2d (kf q.d))), .second, iv (0 : Int32), iv (1 : Int32)] [(.ref a), (.double (FP.l2d (kf q.c)))])) rfl rfl (hb hby d3_81)
  refine go s546 ?_
  show Ends p e below _ T546 (mkF m 84 #[rv a, iv (cf q.a), iv (cf q.d), .val (.double (FP.l2d (kf q.d))), .second, iv (0 : Int32), iv (1 : Int32)] [(.ref ak), (.double (FP.l2d (kf q.c)))])
  refine go (fun _ => XS.iload X546.here hx rfl (hb hby d3_84) rfl) ?_
  show Ends p e below _ T546 (mkF m 86 #[rv a, iv (cf q.a), iv (cf q.d), .val (.double (FP.l2d (kf q.d))), .second, iv (0 : Int32), iv (1 : Int32)] [(.int (1 : Int32)), (.ref ak), (.double (FP.l2d (kf q.c)))])
  obtain ⟨cl547, A547, -, S547, M547, H547, -⟩ := id F540
  have B547 := inb_of S547 (j := (1 : Int32)) (by decide)
  refine go (fun _ => X546.daload hx (j := (1 : Int32)) (v := (.double (FP.l2d (kf q.b)))) (by rw [e546]; exact A547.1) (State.isArrayOf_alike hZ.alike A547.2.1) A547.2.2 B547 (H547.at B547 rfl) (g := (mkF m 86 #[rv a, iv (cf q.a), iv (cf q.d), .val (.double (FP.l2d (kf q.d))), .second, iv (0 : Int32), iv (1 : Int32)] [(.int (1 : Int32)), (.ref ak), (.double (FP.l2d (kf q.c)))])) rfl rfl (hb hby d3_86) _) ?_
  show Ends p e below _ T546 (mkF m 87 #[rv a, iv (cf q.a), iv (cf q.d), .val (.double (FP.l2d (kf q.d))), .second, iv (0 : Int32), iv (1 : Int32)] [(.double (FP.l2d (kf q.b))), (.double (FP.l2d (kf q.c)))])
  refine go (fun _ => XS.dcmpS X546.here hx rfl (hb hby d3_87) rfl ((dcmpV_w (hB _) (hB _) _).trans (own_lw _ _))) ?_
  show Ends p e below _ T546 (mkF m 88 #[rv a, iv (cf q.a), iv (cf q.d), .val (.double (FP.l2d (kf q.d))), .second, iv (0 : Int32), iv (1 : Int32)] [(.int (XT.cmpL (kf q.c) (kf q.b)))])
  by_cases c88_548 : (kf q.c) < (kf q.b)
  · refine go (fun _ => XS.ifNo X546.here hx rfl (hb hby d3_88) rfl (XT.ll_ge_f c88_548)) ?_
    show Ends p e below _ T546 (mkF m 91 #[rv a, iv (cf q.a), iv (cf q.d), .val (.double (FP.l2d (kf q.d))), .second, iv (0 : Int32), iv (1 : Int32)] [])
    refine go (fun _ => XT.iincV X546.here hx rfl (1 : Int32) (hb hby d3_91) (by decide) rfl (l' := #[rv a, iv (cf q.a), iv (cf q.d), .val (.double (FP.l2d (kf q.d))), .second, iv (0 : Int32), iv (2 : Int32)]) rfl) ?_
    refine go (fun _ => XS.aloadN X546.here hx rfl (hb hby d3_94) rfl rfl) ?_
    show Ends p e below _ T546 (mkF m 95 #[rv a, iv (cf q.a), iv (cf q.d), .val (.double (FP.l2d (kf q.d))), .second, iv (0 : Int32), iv (2 : Int32)] [(.ref a)])
    obtain ⟨T549, X549, e549, s549⟩ := getF X546 hx hZ hown (host := "") (Or.inl (hwi hw 17 rfl)) Via.refl e546 F537 (g := (mkF m 95 #[rv a, iv (cf q.a), iv (cf q.d), .val (.double (FP.l2d (kf q.d))), .second, iv (0 : Int32), iv (2 : Int32)] [(.ref a)])) rfl rfl (hb hby d3_95)
    refine go s549 ?_
    show Ends p e below _ T549 (mkF m 98 #[rv a, iv (cf q.a), iv (cf q.d), .val (.double (FP.l2d (kf q.d))), .second, iv (0 : Int32), iv (2 : Int32)] [(.ref ak)])
    refine go (fun _ => XS.iload X549.here hx rfl (hb hby d3_98) rfl) ?_
    show Ends p e below _ T549 (mkF m 100 #[rv a, iv (cf q.a), iv (cf q.d), .val (.double (FP.l2d (kf q.d))), .second, iv (0 : Int32), iv (2 : Int32)] [(.int (2 : Int32)), (.ref ak)])
    obtain ⟨cl550, A550, -, S550, M550, H550, -⟩ := id F540
    have B550 := inb_of S550 (j := (2 : Int32)) (by decide)
    refine go (fun _ => X549.daload hx (j := (2 : Int32)) (v := (.double (FP.l2d (kf q.c)))) (by rw [e549]; exact A550.1) (State.isArrayOf_alike hZ.alike A550.2.1) A550.2.2 B550 (H550.at B550 rfl) (g := (mkF m 100 #[rv a, iv (cf q.a), iv (cf q.d), .val (.double (FP.l2d (kf q.d))), .second, iv (0 : Int32), iv (2 : Int32)] [(.int (2 : Int32)), (.ref ak)])) rfl rfl (hb hby d3_100) _) ?_
    show Ends p e below _ T549 (mkF m 101 #[rv a, iv (cf q.a), iv (cf q.d), .val (.double (FP.l2d (kf q.d))), .second, iv (0 : Int32), iv (2 : Int32)] [(.double (FP.l2d (kf q.c)))])
    refine go (fun _ => XS.dloadN X549.here hx rfl (hb hby d3_101) rfl) ?_
    show Ends p e below _ T549 (mkF m 102 #[rv a, iv (cf q.a), iv (cf q.d), .val (.double (FP.l2d (kf q.d))), .second, iv (0 : Int32), iv (2 : Int32)] [(.double (FP.l2d (kf q.d))), (.double (FP.l2d (kf q.c)))])
    refine go (fun _ => XS.dcmpS X549.here hx rfl (hb hby d3_102) rfl ((dcmpV_w (hB _) (hB _) _).trans (own_lw _ _))) ?_
    show Ends p e below _ T549 (mkF m 103 #[rv a, iv (cf q.a), iv (cf q.d), .val (.double (FP.l2d (kf q.d))), .second, iv (0 : Int32), iv (2 : Int32)] [(.int (XT.cmpL (kf q.c) (kf q.d)))])
    by_cases c103_551 : (kf q.c) < (kf q.d)
    · refine go (fun _ => XS.ifYes X549.here hx rfl (pc0 := 103) (pc' := 109) rfl (hb hby d3_103) rfl (XT.ll_lt_t c103_551) (by decide) (by decide)) ?_
      show Ends p e below _ T549 (mkF m 109 #[rv a, iv (cf q.a), iv (cf q.d), .val (.double (FP.l2d (kf q.d))), .second, iv (0 : Int32), iv (2 : Int32)] [])
      refine go (fun _ => XS.aloadN X549.here hx rfl (hb hby d3_109) rfl rfl) ?_
      show Ends p e below _ T549 (mkF m 110 #[rv a, iv (cf q.a), iv (cf q.d), .val (.double (FP.l2d (kf q.d))), .second, iv (0 : Int32), iv (2 : Int32)] [(.ref a)])
      obtain ⟨T552, X552, e552, s552⟩ := getF X549 hx hZ hown (host := "") (Or.inl (hwi hw 14 rfl)) Via.refl e549 F531 (g := (mkF m 110 #[rv a, iv (cf q.a), iv (cf q.d), .val (.double (FP.l2d (kf q.d))), .second, iv (0 : Int32), iv (2 : Int32)] [(.ref a)])) rfl rfl (hb hby d3_110)
      refine go s552 ?_
      show Ends p e below _ T552 (mkF m 113 #[rv a, iv (cf q.a), iv (cf q.d), .val (.double (FP.l2d (kf q.d))), .second, iv (0 : Int32), iv (2 : Int32)] [(.ref ac)])
      refine go (fun _ => XS.iload X552.here hx rfl (hb hby d3_113) rfl) ?_
      refine go (fun _ => XS.aloadN X552.here hx rfl (hb hby d3_115) rfl rfl) ?_
      show Ends p e below _ T552 (mkF m 116 #[rv a, iv (cf q.a), iv (cf q.d), .val (.double (FP.l2d (kf q.d))), .second, iv (0 : Int32), iv (2 : Int32)] [(.ref a), (.int (0 : Int32)), (.ref ac)])
      obtain ⟨T553, X553, e553, s553⟩ := getF X552 hx hZ hown (host := "") (Or.inl (hwi hw 14 rfl)) Via.refl e552 F531 (g := (mkF m 116 #[rv a, iv (cf q.a), iv (cf q.d), .val (.double (FP.l2d (kf q.d))), .second, iv (0 : Int32), iv (2 : Int32)] [(.ref a), (.int (0 : Int32)), (.ref ac)])) rfl rfl (hb hby d3_116)
      refine go s553 ?_
      show Ends p e below _ T553 (mkF m 119 #[rv a, iv (cf q.a), iv (cf q.d), .val (.double (FP.l2d (kf q.d))), .second, iv (0 : Int32), iv (2 : Int32)] [(.ref ac), (.int (0 : Int32)), (.ref ac)])
      refine go (fun _ => XS.iload X553.here hx rfl (hb hby d3_119) rfl) ?_
      show Ends p e below _ T553 (mkF m 121 #[rv a, iv (cf q.a), iv (cf q.d), .val (.double (FP.l2d (kf q.d))), .second, iv (0 : Int32), iv (2 : Int32)] [(.int (2 : Int32)), (.ref ac), (.int (0 : Int32)), (.ref ac)])
      obtain ⟨cl554, A554, -, S554, M554, H554, -⟩ := id F535
      have B554 := inb_of S554 (j := (2 : Int32)) (by decide)
      refine go (fun _ => X553.iaload hx (j := (2 : Int32)) (v := (.int (cf q.c))) (by rw [e553]; exact A554.1) (State.isArrayOf_alike hZ.alike A554.2.1) A554.2.2 B554 (H554.at B554 rfl) (g := (mkF m 121 #[rv a, iv (cf q.a), iv (cf q.d), .val (.double (FP.l2d (kf q.d))), .second, iv (0 : Int32), iv (2 : Int32)] [(.int (2 : Int32)), (.ref ac), (.int (0 : Int32)), (.ref ac)])) rfl rfl (hb hby d3_121) _) ?_
      show Ends p e below _ T553 (mkF m 122 #[rv a, iv (cf q.a), iv (cf q.d), .val (.double (FP.l2d (kf q.d))), .second, iv (0 : Int32), iv (2 : Int32)] [(.int (cf q.c)), (.int (0 : Int32)), (.ref ac)])
      obtain ⟨cl555, A555, q555, S555, M555, H555, G555⟩ := id F535
      obtain ⟨T555, h555, X555, e555, W555, s555⟩ := stI X553 hx hZ e553 A555 (j := (0 : Int32)) (inb_of S555 (by decide)) (g := (mkF m 122 #[rv a, iv (cf q.a), iv (cf q.d), .val (.double (FP.l2d (kf q.d))), .second, iv (0 : Int32), iv (2 : Int32)] [(.int (cf q.c)), (.int (0 : Int32)), (.ref ac)])) rfl rfl (hb hby d3_122)
      have N555 := Fr.snoc X555 N529 fc
      have O556 : Ext Z.heap h555 := xw O530 W555 fc
      have V555 : Arv Z h555 ac kc .int (1024 : Int32) [(.int (cf q.c)), (.int (cf q.b)), (.int (cf q.c)), (.int (cf q.d)), (.int (cf q.e))] (.int 0) := Arv.set A555 q555 S555 M555 H555 G555 rfl W555 0 (by decide) (Nat.le_of_ble_eq_true rfl)
      refine go s555 ?_
      show Ends p e below _ T555 (mkF m 123 #[rv a, iv (cf q.a), iv (cf q.d), .val (.double (FP.l2d (kf q.d))), .second, iv (0 : Int32), iv (2 : Int32)] [])
      refine go (fun _ => XS.aloadN X555.here hx rfl (hb hby d3_123) rfl rfl) ?_
      show Ends p e below _ T555 (mkF m 124 #[rv a, iv (cf q.a), iv (cf q.d), .val (.double (FP.l2d (kf q.d))), .second, iv (0 : Int32), iv (2 : Int32)] [(.ref a)])
      have F557 := (Fld.other W555 F537 (Or.inl n1))
      obtain ⟨T558, X558, e558, s558⟩ := getF X555 hx hZ hown (host := "") (Or.inl (hwi hw 17 rfl)) Via.refl e555 F557 (g := (mkF m 124 #[rv a, iv (cf q.a), iv (cf q.d), .val (.double (FP.l2d (kf q.d))), .second, iv (0 : Int32), iv (2 : Int32)] [(.ref a)])) rfl rfl (hb hby d3_124)
      refine go s558 ?_
      show Ends p e below _ T558 (mkF m 127 #[rv a, iv (cf q.a), iv (cf q.d), .val (.double (FP.l2d (kf q.d))), .second, iv (0 : Int32), iv (2 : Int32)] [(.ref ak)])
      refine go (fun _ => XS.iload X558.here hx rfl (hb hby d3_127) rfl) ?_
      refine go (fun _ => XS.aloadN X558.here hx rfl (hb hby d3_129) rfl rfl) ?_
      show Ends p e below _ T558 (mkF m 130 #[rv a, iv (cf q.a), iv (cf q.d), .val (.double (FP.l2d (kf q.d))), .second, iv (0 : Int32), iv (2 : Int32)] [(.ref a), (.int (0 : Int32)), (.ref ak)])
      obtain ⟨T559, X559, e559, s559⟩ := getF X558 hx hZ hown (host := "") (Or.inl (hwi hw 17 rfl)) Via.refl e558 F557 (g := (mkF m 130 #[rv a, iv (cf q.a), iv (cf q.d), .val (.double (FP.l2d (kf q.d))), .second, iv (0 : Int32), iv (2 : Int32)] [(.ref a), (.int (0 : Int32)), (.ref ak)])) rfl rfl (hb hby d3_130)
      refine go s559 ?_
      show Ends p e below _ T559 (mkF m 133 #[rv a, iv (cf q.a), iv (cf q.d), .val (.double (FP.l2d (kf q.d))), .second, iv (0 : Int32), iv (2 : Int32)] [(.ref ak), (.int (0 : Int32)), (.ref ak)])
      refine go (fun _ => XS.iload X559.here hx rfl (hb hby d3_133) rfl) ?_
      show Ends p e below _ T559 (mkF m 135 #[rv a, iv (cf q.a), iv (cf q.d), .val (.double (FP.l2d (kf q.d))), .second, iv (0 : Int32), iv (2 : Int32)] [(.int (2 : Int32)), (.ref ak), (.int (0 : Int32)), (.ref ak)])
      have F560 := (Arv.other F540 W555 (Ne.symm n3))
      obtain ⟨cl561, A561, -, S561, M561, H561, -⟩ := id F560
      have B561 := inb_of S561 (j := (2 : Int32)) (by decide)
      refine go (fun _ => X559.daload hx (j := (2 : Int32)) (v := (.double (FP.l2d (kf q.c)))) (by rw [e559]; exact A561.1) (State.isArrayOf_alike hZ.alike A561.2.1) A561.2.2 B561 (H561.at B561 rfl) (g := (mkF m 135 #[rv a, iv (cf q.a), iv (cf q.d), .val (.double (FP.l2d (kf q.d))), .second, iv (0 : Int32), iv (2 : Int32)] [(.int (2 : Int32)), (.ref ak), (.int (0 : Int32)), (.ref ak)])) rfl rfl (hb hby d3_135) _) ?_
      show Ends p e below _ T559 (mkF m 136 #[rv a, iv (cf q.a), iv (cf q.d), .val (.double (FP.l2d (kf q.d))), .second, iv (0 : Int32), iv (2 : Int32)] [(.double (FP.l2d (kf q.c))), (.int (0 : Int32)), (.ref ak)])
      obtain ⟨cl562, A562, q562, S562, M562, H562, G562⟩ := id F560
      obtain ⟨T562, h562, X562, e562, W562, s562⟩ := stD X559 hx hZ e559 A562 (j := (0 : Int32)) (inb_of S562 (by decide)) (g := (mkF m 136 #[rv a, iv (cf q.a), iv (cf q.d), .val (.double (FP.l2d (kf q.d))), .second, iv (0 : Int32), iv (2 : Int32)] [(.double (FP.l2d (kf q.c))), (.int (0 : Int32)), (.ref ak)])) rfl rfl (hb hby d3_136)
      have N562 := Fr.snoc X562 N555 fk
      have O563 : Ext Z.heap h562 := xw O556 W562 fk
      have V562 : Arv Z h562 ak kk .double (1024 : Int32) [(.double (FP.l2d (kf q.c))), (.double (FP.l2d (kf q.b))), (.double (FP.l2d (kf q.c))), (.double (FP.l2d (kf q.d))), (.double (FP.l2d (kf q.e)))] (.double (FP.l2d 0)) := Arv.set A562 q562 S562 M562 H562 G562 rfl W562 0 (by decide) (Nat.le_of_ble_eq_true rfl)
      refine go s562 ?_
      show Ends p e below _ T562 (mkF m 137 #[rv a, iv (cf q.a), iv (cf q.d), .val (.double (FP.l2d (kf q.d))), .second, iv (0 : Int32), iv (2 : Int32)] [])
      refine go (fun _ => XS.iload X562.here hx rfl (hb hby d3_137) rfl) ?_
      refine go (fun _ => XS.istore X562.here hx rfl (hb hby d3_139) rfl (l' := #[rv a, iv (cf q.a), iv (cf q.d), .val (.double (FP.l2d (kf q.d))), .second, iv (2 : Int32), iv (2 : Int32)]) rfl) ?_
      refine go (fun _ => XS.goto X562.here hx rfl (pc0 := 141) (pc' := 40) rfl (hb hby d3_141) (by decide) (by decide)) ?_
      refine go (fun _ => XT.iconstV X562.here hx rfl (2 : Int32) (hb hby d3_40) (by decide)) ?_
      refine go (fun _ => XS.iload X562.here hx rfl (hb hby d3_41) rfl) ?_
      refine go (fun _ => XS.imul X562.here hx rfl (hb hby d3_43) rfl) ?_
      show Ends p e below _ T562 (mkF m 44 #[rv a, iv (cf q.a), iv (cf q.d), .val (.double (FP.l2d (kf q.d))), .second, iv (2 : Int32), iv (2 : Int32)] [(.int (4 : Int32))])
      refine go (fun _ => XT.iconstV X562.here hx rfl (1 : Int32) (hb hby d3_44) (by decide)) ?_
      refine go (fun _ => XS.iadd X562.here hx rfl (hb hby d3_45) rfl) ?_
      refine go (fun _ => XS.istore X562.here hx rfl (hb hby d3_46) rfl (l' := #[rv a, iv (cf q.a), iv (cf q.d), .val (.double (FP.l2d (kf q.d))), .second, iv (2 : Int32), iv (5 : Int32)]) rfl) ?_
      refine go (fun _ => XS.iload X562.here hx rfl (hb hby d3_48) rfl) ?_
      refine go (fun _ => XS.aloadN X562.here hx rfl (hb hby d3_50) rfl rfl) ?_
      show Ends p e below _ T562 (mkF m 51 #[rv a, iv (cf q.a), iv (cf q.d), .val (.double (FP.l2d (kf q.d))), .second, iv (2 : Int32), iv (5 : Int32)] [(.ref a), (.int (5 : Int32))])
      have F564 := (Fld.other W562 (Fld.other W555 F533 (Or.inl n1)) (Or.inl n2))
      obtain ⟨T565, X565, e565, s565⟩ := getF X562 hx hZ hown (host := "") (Or.inl (hwi hw 24 rfl)) Via.refl e562 F564 (g := (mkF m 51 #[rv a, iv (cf q.a), iv (cf q.d), .val (.double (FP.l2d (kf q.d))), .second, iv (2 : Int32), iv (5 : Int32)] [(.ref a), (.int (5 : Int32))])) rfl rfl (hb hby d3_51)
      refine go s565 ?_
      show Ends p e below _ T565 (mkF m 54 #[rv a, iv (cf q.a), iv (cf q.d), .val (.double (FP.l2d (kf q.d))), .second, iv (2 : Int32), iv (5 : Int32)] [(.int (3 : Int32)), (.int (5 : Int32))])
      refine go (fun _ => XS.icmpNo X565.here hx rfl (hb hby d3_54) rfl (XT.ii_lt_f ((by decide) : ¬ ((5 : Int32) < (3 : Int32))))) ?_
      show Ends p e below _ T565 (mkF m 57 #[rv a, iv (cf q.a), iv (cf q.d), .val (.double (FP.l2d (kf q.d))), .second, iv (2 : Int32), iv (5 : Int32)] [])
      refine go (fun _ => XS.goto X565.here hx rfl (pc0 := 57) (pc' := 144) rfl (hb hby d3_57) (by decide) (by decide)) ?_
      refine go (fun _ => XS.aloadN X565.here hx rfl (hb hby d3_144) rfl rfl) ?_
      show Ends p e below _ T565 (mkF m 145 #[rv a, iv (cf q.a), iv (cf q.d), .val (.double (FP.l2d (kf q.d))), .second, iv (2 : Int32), iv (5 : Int32)] [(.ref a)])
      have F566 := (Fld.other W562 (Fld.other W555 F531 (Or.inl n1)) (Or.inl n2))
      obtain ⟨T567, X567, e567, s567⟩ := getF X565 hx hZ hown (host := "") (Or.inl (hwi hw 14 rfl)) Via.refl e565 F566 (g := (mkF m 145 #[rv a, iv (cf q.a), iv (cf q.d), .val (.double (FP.l2d (kf q.d))), .second, iv (2 : Int32), iv (5 : Int32)] [(.ref a)])) rfl rfl (hb hby d3_145)
      refine go s567 ?_
      show Ends p e below _ T567 (mkF m 148 #[rv a, iv (cf q.a), iv (cf q.d), .val (.double (FP.l2d (kf q.d))), .second, iv (2 : Int32), iv (5 : Int32)] [(.ref ac)])
      refine go (fun _ => XS.iload X567.here hx rfl (hb hby d3_148) rfl) ?_
      refine go (fun _ => XS.iloadN X567.here hx rfl (hb hby d3_150) rfl) ?_
      show Ends p e below _ T567 (mkF m 151 #[rv a, iv (cf q.a), iv (cf q.d), .val (.double (FP.l2d (kf q.d))), .second, iv (2 : Int32), iv (5 : Int32)] [(.int (cf q.d)), (.int (2 : Int32)), (.ref ac)])
      have F568 := (Arv.other V555 W562 n3)
      obtain ⟨cl569, A569, q569, S569, M569, H569, G569⟩ := id F568
      obtain ⟨T569, h569, X569, e569, W569, s569⟩ := stI X567 hx hZ e567 A569 (j := (2 : Int32)) (inb_of S569 (by decide)) (g := (mkF m 151 #[rv a, iv (cf q.a), iv (cf q.d), .val (.double (FP.l2d (kf q.d))), .second, iv (2 : Int32), iv (5 : Int32)] [(.int (cf q.d)), (.int (2 : Int32)), (.ref ac)])) rfl rfl (hb hby d3_151)
      have N569 := Fr.snoc X569 N562 fc
      have O570 : Ext Z.heap h569 := xw O563 W569 fc
      have V569 : Arv Z h569 ac kc .int (1024 : Int32) [(.int (cf q.c)), (.int (cf q.b)), (.int (cf q.d)), (.int (cf q.d)), (.int (cf q.e))] (.int 0) := Arv.set A569 q569 S569 M569 H569 G569 rfl W569 2 (by decide) (Nat.le_of_ble_eq_true rfl)
      refine go s569 ?_
      show Ends p e below _ T569 (mkF m 152 #[rv a, iv (cf q.a), iv (cf q.d), .val (.double (FP.l2d (kf q.d))), .second, iv (2 : Int32), iv (5 : Int32)] [])
      refine go (fun _ => XS.aloadN X569.here hx rfl (hb hby d3_152) rfl rfl) ?_
      show Ends p e below _ T569 (mkF m 153 #[rv a, iv (cf q.a), iv (cf q.d), .val (.double (FP.l2d (kf q.d))), .second, iv (2 : Int32), iv (5 : Int32)] [(.ref a)])
      have F571 := (Fld.other W569 (Fld.other W562 F557 (Or.inl n2)) (Or.inl n1))
      obtain ⟨T572, X572, e572, s572⟩ := getF X569 hx hZ hown (host := "") (Or.inl (hwi hw 17 rfl)) Via.refl e569 F571 (g := (mkF m 153 #[rv a, iv (cf q.a), iv (cf q.d), .val (.double (FP.l2d (kf q.d))), .second, iv (2 : Int32), iv (5 : Int32)] [(.ref a)])) rfl rfl (hb hby d3_153)
      refine go s572 ?_
      show Ends p e below _ T572 (mkF m 156 #[rv a, iv (cf q.a), iv (cf q.d), .val (.double (FP.l2d (kf q.d))), .second, iv (2 : Int32), iv (5 : Int32)] [(.ref ak)])
      refine go (fun _ => XS.iload X572.here hx rfl (hb hby d3_156) rfl) ?_
      show Ends p e below _ T572 (mkF m 158 #[rv a, iv (cf q.a), iv (cf q.d), .val (.double (FP.l2d (kf q.d))), .second, iv (2 : Int32), iv (5 : Int32)] [(.int (2 : Int32)), (.ref ak)])
      refine go (fun _ => XS.dloadN X572.here hx rfl (hb hby d3_158) rfl) ?_
      show Ends p e below _ T572 (mkF m 159 #[rv a, iv (cf q.a), iv (cf q.d), .val (.double (FP.l2d (kf q.d))), .second, iv (2 : Int32), iv (5 : Int32)] [(.double (FP.l2d (kf q.d))), (.int (2 : Int32)), (.ref ak)])
      have F573 := (Arv.other V562 W569 (Ne.symm n3))
      obtain ⟨cl574, A574, q574, S574, M574, H574, G574⟩ := id F573
      obtain ⟨T574, h574, X574, e574, W574, s574⟩ := stD X572 hx hZ e572 A574 (j := (2 : Int32)) (inb_of S574 (by decide)) (g := (mkF m 159 #[rv a, iv (cf q.a), iv (cf q.d), .val (.double (FP.l2d (kf q.d))), .second, iv (2 : Int32), iv (5 : Int32)] [(.double (FP.l2d (kf q.d))), (.int (2 : Int32)), (.ref ak)])) rfl rfl (hb hby d3_159)
      have N574 := Fr.snoc X574 N569 fk
      have O575 : Ext Z.heap h574 := xw O570 W574 fk
      have V574 : Arv Z h574 ak kk .double (1024 : Int32) [(.double (FP.l2d (kf q.c))), (.double (FP.l2d (kf q.b))), (.double (FP.l2d (kf q.d))), (.double (FP.l2d (kf q.d))), (.double (FP.l2d (kf q.e)))] (.double (FP.l2d 0)) := Arv.set A574 q574 S574 M574 H574 G574 rfl W574 2 (by decide) (Nat.le_of_ble_eq_true rfl)
      refine go s574 ?_
      show Ends p e below _ T574 (mkF m 160 #[rv a, iv (cf q.a), iv (cf q.d), .val (.double (FP.l2d (kf q.d))), .second, iv (2 : Int32), iv (5 : Int32)] [])
      refine go (fun _ => XS.iloadN X574.here hx rfl (hb hby d3_160) rfl) ?_
      show Ends p e below _ T574 (mkF m 161 #[rv a, iv (cf q.a), iv (cf q.d), .val (.double (FP.l2d (kf q.d))), .second, iv (2 : Int32), iv (5 : Int32)] [(.int (cf q.a))])
      have u576 : lt q.c q.b = true := (hlt _ _ hqc hqb).mpr c88_548
      have u577 : lt q.c q.d = true := (hlt _ _ hqc hqd).mpr c103_551
      have z578 : qn = (⟨q.c, q.b, q.d, q.d, q.e⟩ : L5) := hqn.symm.trans (by simp only [hpop4, u576, u577, if_true, if_false, Bool.false_eq_true])
      have F579 := (Arv.other V569 W574 n3)
      have K580 : Keep h0 h574 [a, ac, ak] := (Keep.wr (Keep.wr (Keep.wr (Keep.wr (Keep.wr (Keep.refl _ _) W529 (Or.inl (List.mem_of_getElem? (i := 0) rfl))) W555 (Or.inl (List.mem_of_getElem? (i := 1) rfl))) W562 (Or.inl (List.mem_of_getElem? (i := 2) rfl))) W569 (Or.inl (List.mem_of_getElem? (i := 1) rfl))) W574 (Or.inl (List.mem_of_getElem? (i := 2) rfl)))
      have F581 := (Fld.other W574 (Fld.other W569 F566 (Or.inl n1)) (Or.inl n2))
      have F582 := (Fld.other W574 F571 (Or.inl n2))
      have F583 := (Fld.other W574 (Fld.other W569 F564 (Or.inl n1)) (Or.inl n2))
      exact endI X574 hx hret (hb hby d3_161) (lvN X574 hlk e574 (fun h => by rw [hret] at h; cases h) ⟨rfl, N574, K580, F581, F582, F583, by rw [z578]; exact F579, by rw [z578]; exact V574⟩ (by decide) (by decide))
    · refine go (fun _ => XS.ifNo X549.here hx rfl (hb hby d3_103) rfl (XT.ll_lt_f c103_551)) ?_
      show Ends p e below _ T549 (mkF m 106 #[rv a, iv (cf q.a), iv (cf q.d), .val (.double (FP.l2d (kf q.d))), .second, iv (0 : Int32), iv (2 : Int32)] [])
      refine go (fun _ => XS.goto X549.here hx rfl (pc0 := 106) (pc' := 144) rfl (hb hby d3_106) (by decide) (by decide)) ?_
      refine go (fun _ => XS.aloadN X549.here hx rfl (hb hby d3_144) rfl rfl) ?_
      show Ends p e below _ T549 (mkF m 145 #[rv a, iv (cf q.a), iv (cf q.d), .val (.double (FP.l2d (kf q.d))), .second, iv (0 : Int32), iv (2 : Int32)] [(.ref a)])
      obtain ⟨T584, X584, e584, s584⟩ := getF X549 hx hZ hown (host := "") (Or.inl (hwi hw 14 rfl)) Via.refl e549 F531 (g := (mkF m 145 #[rv a, iv (cf q.a), iv (cf q.d), .val (.double (FP.l2d (kf q.d))), .second, iv (0 : Int32), iv (2 : Int32)] [(.ref a)])) rfl rfl (hb hby d3_145)
      refine go s584 ?_
      show Ends p e below _ T584 (mkF m 148 #[rv a, iv (cf q.a), iv (cf q.d), .val (.double (FP.l2d (kf q.d))), .second, iv (0 : Int32), iv (2 : Int32)] [(.ref ac)])
      refine go (fun _ => XS.iload X584.here hx rfl (hb hby d3_148) rfl) ?_
      refine go (fun _ => XS.iloadN X584.here hx rfl (hb hby d3_150) rfl) ?_
      show Ends p e below _ T584 (mkF m 151 #[rv a, iv (cf q.a), iv (cf q.d), .val (.double (FP.l2d (kf q.d))), .second, iv (0 : Int32), iv (2 : Int32)] [(.int (cf q.d)), (.int (0 : Int32)), (.ref ac)])
      obtain ⟨cl585, A585, q585, S585, M585, H585, G585⟩ := id F535
      obtain ⟨T585, h585, X585, e585, W585, s585⟩ := stI X584 hx hZ e584 A585 (j := (0 : Int32)) (inb_of S585 (by decide)) (g := (mkF m 151 #[rv a, iv (cf q.a), iv (cf q.d), .val (.double (FP.l2d (kf q.d))), .second, iv (0 : Int32), iv (2 : Int32)] [(.int (cf q.d)), (.int (0 : Int32)), (.ref ac)])) rfl rfl (hb hby d3_151)
      have N585 := Fr.snoc X585 N529 fc
      have O586 : Ext Z.heap h585 := xw O530 W585 fc
      have V585 : Arv Z h585 ac kc .int (1024 : Int32) [(.int (cf q.d)), (.int (cf q.b)), (.int (cf q.c)), (.int (cf q.d)), (.int (cf q.e))] (.int 0) := Arv.set A585 q585 S585 M585 H585 G585 rfl W585 0 (by decide) (Nat.le_of_ble_eq_true rfl)
      refine go s585 ?_
      show Ends p e below _ T585 (mkF m 152 #[rv a, iv (cf q.a), iv (cf q.d), .val (.double (FP.l2d (kf q.d))), .second, iv (0 : Int32), iv (2 : Int32)] [])
      refine go (fun _ => XS.aloadN X585.here hx rfl (hb hby d3_152) rfl rfl) ?_
      show Ends p e below _ T585 (mkF m 153 #[rv a, iv (cf q.a), iv (cf q.d), .val (.double (FP.l2d (kf q.d))), .second, iv (0 : Int32), iv (2 : Int32)] [(.ref a)])
      have F587 := (Fld.other W585 F537 (Or.inl n1))
      obtain ⟨T588, X588, e588, s588⟩ := getF X585 hx hZ hown (host := "") (Or.inl (hwi hw 17 rfl)) Via.refl e585 F587 (g := (mkF m 153 #[rv a, iv (cf q.a), iv (cf q.d), .val (.double (FP.l2d (kf q.d))), .second, iv (0 : Int32), iv (2 : Int32)] [(.ref a)])) rfl rfl (hb hby d3_153)
      refine go s588 ?_
      show Ends p e below _ T588 (mkF m 156 #[rv a, iv (cf q.a), iv (cf q.d), .val (.double (FP.l2d (kf q.d))), .second, iv (0 : Int32), iv (2 : Int32)] [(.ref ak)])
      refine go (fun _ => XS.iload X588.here hx rfl (hb hby d3_156) rfl) ?_
      show Ends p e below _ T588 (mkF m 158 #[rv a, iv (cf q.a), iv (cf q.d), .val (.double (FP.l2d (kf q.d))), .second, iv (0 : Int32), iv (2 : Int32)] [(.int (0 : Int32)), (.ref ak)])
      refine go (fun _ => XS.dloadN X588.here hx rfl (hb hby d3_158) rfl) ?_
      show Ends p e below _ T588 (mkF m 159 #[rv a, iv (cf q.a), iv (cf q.d), .val (.double (FP.l2d (kf q.d))), .second, iv (0 : Int32), iv (2 : Int32)] [(.double (FP.l2d (kf q.d))), (.int (0 : Int32)), (.ref ak)])
      have F589 := (Arv.other F540 W585 (Ne.symm n3))
      obtain ⟨cl590, A590, q590, S590, M590, H590, G590⟩ := id F589
      obtain ⟨T590, h590, X590, e590, W590, s590⟩ := stD X588 hx hZ e588 A590 (j := (0 : Int32)) (inb_of S590 (by decide)) (g := (mkF m 159 #[rv a, iv (cf q.a), iv (cf q.d), .val (.double (FP.l2d (kf q.d))), .second, iv (0 : Int32), iv (2 : Int32)] [(.double (FP.l2d (kf q.d))), (.int (0 : Int32)), (.ref ak)])) rfl rfl (hb hby d3_159)
      have N590 := Fr.snoc X590 N585 fk
      have O591 : Ext Z.heap h590 := xw O586 W590 fk
      have V590 : Arv Z h590 ak kk .double (1024 : Int32) [(.double (FP.l2d (kf q.d))), (.double (FP.l2d (kf q.b))), (.double (FP.l2d (kf q.c))), (.double (FP.l2d (kf q.d))), (.double (FP.l2d (kf q.e)))] (.double (FP.l2d 0)) := Arv.set A590 q590 S590 M590 H590 G590 rfl W590 0 (by decide) (Nat.le_of_ble_eq_true rfl)
      refine go s590 ?_
      show Ends p e below _ T590 (mkF m 160 #[rv a, iv (cf q.a), iv (cf q.d), .val (.double (FP.l2d (kf q.d))), .second, iv (0 : Int32), iv (2 : Int32)] [])
      refine go (fun _ => XS.iloadN X590.here hx rfl (hb hby d3_160) rfl) ?_
      show Ends p e below _ T590 (mkF m 161 #[rv a, iv (cf q.a), iv (cf q.d), .val (.double (FP.l2d (kf q.d))), .second, iv (0 : Int32), iv (2 : Int32)] [(.int (cf q.a))])
      have u592 : lt q.c q.b = true := (hlt _ _ hqc hqb).mpr c88_548
      have u593 : ¬ lt q.c q.d = true := fun z => c103_551 ((hlt _ _ hqc hqd).mp z)
      have z594 : qn = (⟨q.d, q.b, q.c, q.d, q.e⟩ : L5) := hqn.symm.trans (by simp only [hpop4, u592, u593, if_true, if_false, Bool.false_eq_true])
      have F595 := (Arv.other V585 W590 n3)
      have K596 : Keep h0 h590 [a, ac, ak] := (Keep.wr (Keep.wr (Keep.wr (Keep.refl _ _) W529 (Or.inl (List.mem_of_getElem? (i := 0) rfl))) W585 (Or.inl (List.mem_of_getElem? (i := 1) rfl))) W590 (Or.inl (List.mem_of_getElem? (i := 2) rfl)))
      have F597 := (Fld.other W590 (Fld.other W585 F531 (Or.inl n1)) (Or.inl n2))
      have F598 := (Fld.other W590 F587 (Or.inl n2))
      have F599 := (Fld.other W590 (Fld.other W585 F533 (Or.inl n1)) (Or.inl n2))
      exact endI X590 hx hret (hb hby d3_161) (lvN X590 hlk e590 (fun h => by rw [hret] at h; cases h) ⟨rfl, N590, K596, F597, F598, F599, by rw [z594]; exact F595, by rw [z594]; exact V590⟩ (by decide) (by decide))
  · refine go (fun _ => XS.ifYes X546.here hx rfl (pc0 := 88) (pc' := 94) rfl (hb hby d3_88) rfl (XT.ll_ge_t c88_548) (by decide) (by decide)) ?_
    show Ends p e below _ T546 (mkF m 94 #[rv a, iv (cf q.a), iv (cf q.d), .val (.double (FP.l2d (kf q.d))), .second, iv (0 : Int32), iv (1 : Int32)] [])
    refine go (fun _ => XS.aloadN X546.here hx rfl (hb hby d3_94) rfl rfl) ?_
    show Ends p e below _ T546 (mkF m 95 #[rv a, iv (cf q.a), iv (cf q.d), .val (.double (FP.l2d (kf q.d))), .second, iv (0 : Int32), iv (1 : Int32)] [(.ref a)])
    obtain ⟨T600, X600, e600, s600⟩ := getF X546 hx hZ hown (host := "") (Or.inl (hwi hw 17 rfl)) Via.refl e546 F537 (g := (mkF m 95 #[rv a, iv (cf q.a), iv (cf q.d), .val (.double (FP.l2d (kf q.d))), .second, iv (0 : Int32), iv (1 : Int32)] [(.ref a)])) rfl rfl (hb hby d3_95)
    refine go s600 ?_
    show Ends p e below _ T600 (mkF m 98 #[rv a, iv (cf q.a), iv (cf q.d), .val (.double (FP.l2d (kf q.d))), .second, iv (0 : Int32), iv (1 : Int32)] [(.ref ak)])
    refine go (fun _ => XS.iload X600.here hx rfl (hb hby d3_98) rfl) ?_
    show Ends p e below _ T600 (mkF m 100 #[rv a, iv (cf q.a), iv (cf q.d), .val (.double (FP.l2d (kf q.d))), .second, iv (0 : Int32), iv (1 : Int32)] [(.int (1 : Int32)), (.ref ak)])
    obtain ⟨cl601, A601, -, S601, M601, H601, -⟩ := id F540
    have B601 := inb_of S601 (j := (1 : Int32)) (by decide)
    refine go (fun _ => X600.daload hx (j := (1 : Int32)) (v := (.double (FP.l2d (kf q.b)))) (by rw [e600]; exact A601.1) (State.isArrayOf_alike hZ.alike A601.2.1) A601.2.2 B601 (H601.at B601 rfl) (g := (mkF m 100 #[rv a, iv (cf q.a), iv (cf q.d), .val (.double (FP.l2d (kf q.d))), .second, iv (0 : Int32), iv (1 : Int32)] [(.int (1 : Int32)), (.ref ak)])) rfl rfl (hb hby d3_100) _) ?_
    show Ends p e below _ T600 (mkF m 101 #[rv a, iv (cf q.a), iv (cf q.d), .val (.double (FP.l2d (kf q.d))), .second, iv (0 : Int32), iv (1 : Int32)] [(.double (FP.l2d (kf q.b)))])
    refine go (fun _ => XS.dloadN X600.here hx rfl (hb hby d3_101) rfl) ?_
    show Ends p e below _ T600 (mkF m 102 #[rv a, iv (cf q.a), iv (cf q.d), .val (.double (FP.l2d (kf q.d))), .second, iv (0 : Int32), iv (1 : Int32)] [(.double (FP.l2d (kf q.d))), (.double (FP.l2d (kf q.b)))])
    refine go (fun _ => XS.dcmpS X600.here hx rfl (hb hby d3_102) rfl ((dcmpV_w (hB _) (hB _) _).trans (own_lw _ _))) ?_
    show Ends p e below _ T600 (mkF m 103 #[rv a, iv (cf q.a), iv (cf q.d), .val (.double (FP.l2d (kf q.d))), .second, iv (0 : Int32), iv (1 : Int32)] [(.int (XT.cmpL (kf q.b) (kf q.d)))])
    by_cases c103_602 : (kf q.b) < (kf q.d)
    · refine go (fun _ => XS.ifYes X600.here hx rfl (pc0 := 103) (pc' := 109) rfl (hb hby d3_103) rfl (XT.ll_lt_t c103_602) (by decide) (by decide)) ?_
      show Ends p e below _ T600 (mkF m 109 #[rv a, iv (cf q.a), iv (cf q.d), .val (.double (FP.l2d (kf q.d))), .second, iv (0 : Int32), iv (1 : Int32)] [])
      refine go (fun _ => XS.aloadN X600.here hx rfl (hb hby d3_109) rfl rfl) ?_
      show Ends p e below _ T600 (mkF m 110 #[rv a, iv (cf q.a), iv (cf q.d), .val (.double (FP.l2d (kf q.d))), .second, iv (0 : Int32), iv (1 : Int32)] [(.ref a)])
      obtain ⟨T603, X603, e603, s603⟩ := getF X600 hx hZ hown (host := "") (Or.inl (hwi hw 14 rfl)) Via.refl e600 F531 (g := (mkF m 110 #[rv a, iv (cf q.a), iv (cf q.d), .val (.double (FP.l2d (kf q.d))), .second, iv (0 : Int32), iv (1 : Int32)] [(.ref a)])) rfl rfl (hb hby d3_110)
      refine go s603 ?_
      show Ends p e below _ T603 (mkF m 113 #[rv a, iv (cf q.a), iv (cf q.d), .val (.double (FP.l2d (kf q.d))), .second, iv (0 : Int32), iv (1 : Int32)] [(.ref ac)])
      refine go (fun _ => XS.iload X603.here hx rfl (hb hby d3_113) rfl) ?_
      refine go (fun _ => XS.aloadN X603.here hx rfl (hb hby d3_115) rfl rfl) ?_
      show Ends p e below _ T603 (mkF m 116 #[rv a, iv (cf q.a), iv (cf q.d), .val (.double (FP.l2d (kf q.d))), .second, iv (0 : Int32), iv (1 : Int32)] [(.ref a), (.int (0 : Int32)), (.ref ac)])
      obtain ⟨T604, X604, e604, s604⟩ := getF X603 hx hZ hown (host := "") (Or.inl (hwi hw 14 rfl)) Via.refl e603 F531 (g := (mkF m 116 #[rv a, iv (cf q.a), iv (cf q.d), .val (.double (FP.l2d (kf q.d))), .second, iv (0 : Int32), iv (1 : Int32)] [(.ref a), (.int (0 : Int32)), (.ref ac)])) rfl rfl (hb hby d3_116)
      refine go s604 ?_
      show Ends p e below _ T604 (mkF m 119 #[rv a, iv (cf q.a), iv (cf q.d), .val (.double (FP.l2d (kf q.d))), .second, iv (0 : Int32), iv (1 : Int32)] [(.ref ac), (.int (0 : Int32)), (.ref ac)])
      refine go (fun _ => XS.iload X604.here hx rfl (hb hby d3_119) rfl) ?_
      show Ends p e below _ T604 (mkF m 121 #[rv a, iv (cf q.a), iv (cf q.d), .val (.double (FP.l2d (kf q.d))), .second, iv (0 : Int32), iv (1 : Int32)] [(.int (1 : Int32)), (.ref ac), (.int (0 : Int32)), (.ref ac)])
      obtain ⟨cl605, A605, -, S605, M605, H605, -⟩ := id F535
      have B605 := inb_of S605 (j := (1 : Int32)) (by decide)
      refine go (fun _ => X604.iaload hx (j := (1 : Int32)) (v := (.int (cf q.b))) (by rw [e604]; exact A605.1) (State.isArrayOf_alike hZ.alike A605.2.1) A605.2.2 B605 (H605.at B605 rfl) (g := (mkF m 121 #[rv a, iv (cf q.a), iv (cf q.d), .val (.double (FP.l2d (kf q.d))), .second, iv (0 : Int32), iv (1 : Int32)] [(.int (1 : Int32)), (.ref ac), (.int (0 : Int32)), (.ref ac)])) rfl rfl (hb hby d3_121) _) ?_
      show Ends p e below _ T604 (mkF m 122 #[rv a, iv (cf q.a), iv (cf q.d), .val (.double (FP.l2d (kf q.d))), .second, iv (0 : Int32), iv (1 : Int32)] [(.int (cf q.b)), (.int (0 : Int32)), (.ref ac)])
      obtain ⟨cl606, A606, q606, S606, M606, H606, G606⟩ := id F535
      obtain ⟨T606, h606, X606, e606, W606, s606⟩ := stI X604 hx hZ e604 A606 (j := (0 : Int32)) (inb_of S606 (by decide)) (g := (mkF m 122 #[rv a, iv (cf q.a), iv (cf q.d), .val (.double (FP.l2d (kf q.d))), .second, iv (0 : Int32), iv (1 : Int32)] [(.int (cf q.b)), (.int (0 : Int32)), (.ref ac)])) rfl rfl (hb hby d3_122)
      have N606 := Fr.snoc X606 N529 fc
      have O607 : Ext Z.heap h606 := xw O530 W606 fc
      have V606 : Arv Z h606 ac kc .int (1024 : Int32) [(.int (cf q.b)), (.int (cf q.b)), (.int (cf q.c)), (.int (cf q.d)), (.int (cf q.e))] (.int 0) := Arv.set A606 q606 S606 M606 H606 G606 rfl W606 0 (by decide) (Nat.le_of_ble_eq_true rfl)
      refine go s606 ?_
      show Ends p e below _ T606 (mkF m 123 #[rv a, iv (cf q.a), iv (cf q.d), .val (.double (FP.l2d (kf q.d))), .second, iv (0 : Int32), iv (1 : Int32)] [])
      refine go (fun _ => XS.aloadN X606.here hx rfl (hb hby d3_123) rfl rfl) ?_
      show Ends p e below _ T606 (mkF m 124 #[rv a, iv (cf q.a), iv (cf q.d), .val (.double (FP.l2d (kf q.d))), .second, iv (0 : Int32), iv (1 : Int32)] [(.ref a)])
      have F608 := (Fld.other W606 F537 (Or.inl n1))
      obtain ⟨T609, X609, e609, s609⟩ := getF X606 hx hZ hown (host := "") (Or.inl (hwi hw 17 rfl)) Via.refl e606 F608 (g := (mkF m 124 #[rv a, iv (cf q.a), iv (cf q.d), .val (.double (FP.l2d (kf q.d))), .second, iv (0 : Int32), iv (1 : Int32)] [(.ref a)])) rfl rfl (hb hby d3_124)
      refine go s609 ?_
      show Ends p e below _ T609 (mkF m 127 #[rv a, iv (cf q.a), iv (cf q.d), .val (.double (FP.l2d (kf q.d))), .second, iv (0 : Int32), iv (1 : Int32)] [(.ref ak)])
      refine go (fun _ => XS.iload X609.here hx rfl (hb hby d3_127) rfl) ?_
      refine go (fun _ => XS.aloadN X609.here hx rfl (hb hby d3_129) rfl rfl) ?_
      show Ends p e below _ T609 (mkF m 130 #[rv a, iv (cf q.a), iv (cf q.d), .val (.double (FP.l2d (kf q.d))), .second, iv (0 : Int32), iv (1 : Int32)] [(.ref a), (.int (0 : Int32)), (.ref ak)])
      obtain ⟨T610, X610, e610, s610⟩ := getF X609 hx hZ hown (host := "") (Or.inl (hwi hw 17 rfl)) Via.refl e609 F608 (g := (mkF m 130 #[rv a, iv (cf q.a), iv (cf q.d), .val (.double (FP.l2d (kf q.d))), .second, iv (0 : Int32), iv (1 : Int32)] [(.ref a), (.int (0 : Int32)), (.ref ak)])) rfl rfl (hb hby d3_130)
      refine go s610 ?_
      show Ends p e below _ T610 (mkF m 133 #[rv a, iv (cf q.a), iv (cf q.d), .val (.double (FP.l2d (kf q.d))), .second, iv (0 : Int32), iv (1 : Int32)] [(.ref ak), (.int (0 : Int32)), (.ref ak)])
      refine go (fun _ => XS.iload X610.here hx rfl (hb hby d3_133) rfl) ?_
      show Ends p e below _ T610 (mkF m 135 #[rv a, iv (cf q.a), iv (cf q.d), .val (.double (FP.l2d (kf q.d))), .second, iv (0 : Int32), iv (1 : Int32)] [(.int (1 : Int32)), (.ref ak), (.int (0 : Int32)), (.ref ak)])
      have F611 := (Arv.other F540 W606 (Ne.symm n3))
      obtain ⟨cl612, A612, -, S612, M612, H612, -⟩ := id F611
      have B612 := inb_of S612 (j := (1 : Int32)) (by decide)
      refine go (fun _ => X610.daload hx (j := (1 : Int32)) (v := (.double (FP.l2d (kf q.b)))) (by rw [e610]; exact A612.1) (State.isArrayOf_alike hZ.alike A612.2.1) A612.2.2 B612 (H612.at B612 rfl) (g := (mkF m 135 #[rv a, iv (cf q.a), iv (cf q.d), .val (.double (FP.l2d (kf q.d))), .second, iv (0 : Int32), iv (1 : Int32)] [(.int (1 : Int32)), (.ref ak), (.int (0 : Int32)), (.ref ak)])) rfl rfl (hb hby d3_135) _) ?_
      show Ends p e below _ T610 (mkF m 136 #[rv a, iv (cf q.a), iv (cf q.d), .val (.double (FP.l2d (kf q.d))), .second, iv (0 : Int32), iv (1 : Int32)] [(.double (FP.l2d (kf q.b))), (.int (0 : Int32)), (.ref ak)])
      obtain ⟨cl613, A613, q613, S613, M613, H613, G613⟩ := id F611
      obtain ⟨T613, h613, X613, e613, W613, s613⟩ := stD X610 hx hZ e610 A613 (j := (0 : Int32)) (inb_of S613 (by decide)) (g := (mkF m 136 #[rv a, iv (cf q.a), iv (cf q.d), .val (.double (FP.l2d (kf q.d))), .second, iv (0 : Int32), iv (1 : Int32)] [(.double (FP.l2d (kf q.b))), (.int (0 : Int32)), (.ref ak)])) rfl rfl (hb hby d3_136)
      have N613 := Fr.snoc X613 N606 fk
      have O614 : Ext Z.heap h613 := xw O607 W613 fk
      have V613 : Arv Z h613 ak kk .double (1024 : Int32) [(.double (FP.l2d (kf q.b))), (.double (FP.l2d (kf q.b))), (.double (FP.l2d (kf q.c))), (.double (FP.l2d (kf q.d))), (.double (FP.l2d (kf q.e)))] (.double (FP.l2d 0)) := Arv.set A613 q613 S613 M613 H613 G613 rfl W613 0 (by decide) (Nat.le_of_ble_eq_true rfl)
      refine go s613 ?_
      show Ends p e below _ T613 (mkF m 137 #[rv a, iv (cf q.a), iv (cf q.d), .val (.double (FP.l2d (kf q.d))), .second, iv (0 : Int32), iv (1 : Int32)] [])
      refine go (fun _ => XS.iload X613.here hx rfl (hb hby d3_137) rfl) ?_
      refine go (fun _ => XS.istore X613.here hx rfl (hb hby d3_139) rfl (l' := #[rv a, iv (cf q.a), iv (cf q.d), .val (.double (FP.l2d (kf q.d))), .second, iv (1 : Int32), iv (1 : Int32)]) rfl) ?_
      refine go (fun _ => XS.goto X613.here hx rfl (pc0 := 141) (pc' := 40) rfl (hb hby d3_141) (by decide) (by decide)) ?_
      refine go (fun _ => XT.iconstV X613.here hx rfl (2 : Int32) (hb hby d3_40) (by decide)) ?_
      refine go (fun _ => XS.iload X613.here hx rfl (hb hby d3_41) rfl) ?_
      refine go (fun _ => XS.imul X613.here hx rfl (hb hby d3_43) rfl) ?_
      show Ends p e below _ T613 (mkF m 44 #[rv a, iv (cf q.a), iv (cf q.d), .val (.double (FP.l2d (kf q.d))), .second, iv (1 : Int32), iv (1 : Int32)] [(.int (2 : Int32))])
      refine go (fun _ => XT.iconstV X613.here hx rfl (1 : Int32) (hb hby d3_44) (by decide)) ?_
      refine go (fun _ => XS.iadd X613.here hx rfl (hb hby d3_45) rfl) ?_
      refine go (fun _ => XS.istore X613.here hx rfl (hb hby d3_46) rfl (l' := #[rv a, iv (cf q.a), iv (cf q.d), .val (.double (FP.l2d (kf q.d))), .second, iv (1 : Int32), iv (3 : Int32)]) rfl) ?_
      refine go (fun _ => XS.iload X613.here hx rfl (hb hby d3_48) rfl) ?_
      refine go (fun _ => XS.aloadN X613.here hx rfl (hb hby d3_50) rfl rfl) ?_
      show Ends p e below _ T613 (mkF m 51 #[rv a, iv (cf q.a), iv (cf q.d), .val (.double (FP.l2d (kf q.d))), .second, iv (1 : Int32), iv (3 : Int32)] [(.ref a), (.int (3 : Int32))])
      have F615 := (Fld.other W613 (Fld.other W606 F533 (Or.inl n1)) (Or.inl n2))
      obtain ⟨T616, X616, e616, s616⟩ := getF X613 hx hZ hown (host := "") (Or.inl (hwi hw 24 rfl)) Via.refl e613 F615 (g := (mkF m 51 #[rv a, iv (cf q.a), iv (cf q.d), .val (.double (FP.l2d (kf q.d))), .second, iv (1 : Int32), iv (3 : Int32)] [(.ref a), (.int (3 : Int32))])) rfl rfl (hb hby d3_51)
      refine go s616 ?_
      show Ends p e below _ T616 (mkF m 54 #[rv a, iv (cf q.a), iv (cf q.d), .val (.double (FP.l2d (kf q.d))), .second, iv (1 : Int32), iv (3 : Int32)] [(.int (3 : Int32)), (.int (3 : Int32))])
      refine go (fun _ => XS.icmpNo X616.here hx rfl (hb hby d3_54) rfl (XT.ii_lt_f ((by decide) : ¬ ((3 : Int32) < (3 : Int32))))) ?_
      show Ends p e below _ T616 (mkF m 57 #[rv a, iv (cf q.a), iv (cf q.d), .val (.double (FP.l2d (kf q.d))), .second, iv (1 : Int32), iv (3 : Int32)] [])
      refine go (fun _ => XS.goto X616.here hx rfl (pc0 := 57) (pc' := 144) rfl (hb hby d3_57) (by decide) (by decide)) ?_
      refine go (fun _ => XS.aloadN X616.here hx rfl (hb hby d3_144) rfl rfl) ?_
      show Ends p e below _ T616 (mkF m 145 #[rv a, iv (cf q.a), iv (cf q.d), .val (.double (FP.l2d (kf q.d))), .second, iv (1 : Int32), iv (3 : Int32)] [(.ref a)])
      have F617 := (Fld.other W613 (Fld.other W606 F531 (Or.inl n1)) (Or.inl n2))
      obtain ⟨T618, X618, e618, s618⟩ := getF X616 hx hZ hown (host := "") (Or.inl (hwi hw 14 rfl)) Via.refl e616 F617 (g := (mkF m 145 #[rv a, iv (cf q.a), iv (cf q.d), .val (.double (FP.l2d (kf q.d))), .second, iv (1 : Int32), iv (3 : Int32)] [(.ref a)])) rfl rfl (hb hby d3_145)
      refine go s618 ?_
      show Ends p e below _ T618 (mkF m 148 #[rv a, iv (cf q.a), iv (cf q.d), .val (.double (FP.l2d (kf q.d))), .second, iv (1 : Int32), iv (3 : Int32)] [(.ref ac)])
      refine go (fun _ => XS.iload X618.here hx rfl (hb hby d3_148) rfl) ?_
      refine go (fun _ => XS.iloadN X618.here hx rfl (hb hby d3_150) rfl) ?_
      show Ends p e below _ T618 (mkF m 151 #[rv a, iv (cf q.a), iv (cf q.d), .val (.double (FP.l2d (kf q.d))), .second, iv (1 : Int32), iv (3 : Int32)] [(.int (cf q.d)), (.int (1 : Int32)), (.ref ac)])
      have F619 := (Arv.other V606 W613 n3)
      obtain ⟨cl620, A620, q620, S620, M620, H620, G620⟩ := id F619
      obtain ⟨T620, h620, X620, e620, W620, s620⟩ := stI X618 hx hZ e618 A620 (j := (1 : Int32)) (inb_of S620 (by decide)) (g := (mkF m 151 #[rv a, iv (cf q.a), iv (cf q.d), .val (.double (FP.l2d (kf q.d))), .second, iv (1 : Int32), iv (3 : Int32)] [(.int (cf q.d)), (.int (1 : Int32)), (.ref ac)])) rfl rfl (hb hby d3_151)
      have N620 := Fr.snoc X620 N613 fc
      have O621 : Ext Z.heap h620 := xw O614 W620 fc
      have V620 : Arv Z h620 ac kc .int (1024 : Int32) [(.int (cf q.b)), (.int (cf q.d)), (.int (cf q.c)), (.int (cf q.d)), (.int (cf q.e))] (.int 0) := Arv.set A620 q620 S620 M620 H620 G620 rfl W620 1 (by decide) (Nat.le_of_ble_eq_true rfl)
      refine go s620 ?_
      show Ends p e below _ T620 (mkF m 152 #[rv a, iv (cf q.a), iv (cf q.d), .val (.double (FP.l2d (kf q.d))), .second, iv (1 : Int32), iv (3 : Int32)] [])
      refine go (fun _ => XS.aloadN X620.here hx rfl (hb hby d3_152) rfl rfl) ?_
      show Ends p e below _ T620 (mkF m 153 #[rv a, iv (cf q.a), iv (cf q.d), .val (.double (FP.l2d (kf q.d))), .second, iv (1 : Int32), iv (3 : Int32)] [(.ref a)])
      have F622 := (Fld.other W620 (Fld.other W613 F608 (Or.inl n2)) (Or.inl n1))
      obtain ⟨T623, X623, e623, s623⟩ := getF X620 hx hZ hown (host := "") (Or.inl (hwi hw 17 rfl)) Via.refl e620 F622 (g := (mkF m 153 #[rv a, iv (cf q.a), iv (cf q.d), .val (.double (FP.l2d (kf q.d))), .second, iv (1 : Int32), iv (3 : Int32)] [(.ref a)])) rfl rfl (hb hby d3_153)
      refine go s623 ?_
      show Ends p e below _ T623 (mkF m 156 #[rv a, iv (cf q.a), iv (cf q.d), .val (.double (FP.l2d (kf q.d))), .second, iv (1 : Int32), iv (3 : Int32)] [(.ref ak)])
      refine go (fun _ => XS.iload X623.here hx rfl (hb hby d3_156) rfl) ?_
      show Ends p e below _ T623 (mkF m 158 #[rv a, iv (cf q.a), iv (cf q.d), .val (.double (FP.l2d (kf q.d))), .second, iv (1 : Int32), iv (3 : Int32)] [(.int (1 : Int32)), (.ref ak)])
      refine go (fun _ => XS.dloadN X623.here hx rfl (hb hby d3_158) rfl) ?_
      show Ends p e below _ T623 (mkF m 159 #[rv a, iv (cf q.a), iv (cf q.d), .val (.double (FP.l2d (kf q.d))), .second, iv (1 : Int32), iv (3 : Int32)] [(.double (FP.l2d (kf q.d))), (.int (1 : Int32)), (.ref ak)])
      have F624 := (Arv.other V613 W620 (Ne.symm n3))
      obtain ⟨cl625, A625, q625, S625, M625, H625, G625⟩ := id F624
      obtain ⟨T625, h625, X625, e625, W625, s625⟩ := stD X623 hx hZ e623 A625 (j := (1 : Int32)) (inb_of S625 (by decide)) (g := (mkF m 159 #[rv a, iv (cf q.a), iv (cf q.d), .val (.double (FP.l2d (kf q.d))), .second, iv (1 : Int32), iv (3 : Int32)] [(.double (FP.l2d (kf q.d))), (.int (1 : Int32)), (.ref ak)])) rfl rfl (hb hby d3_159)
      have N625 := Fr.snoc X625 N620 fk
      have O626 : Ext Z.heap h625 := xw O621 W625 fk
      have V625 : Arv Z h625 ak kk .double (1024 : Int32) [(.double (FP.l2d (kf q.b))), (.double (FP.l2d (kf q.d))), (.double (FP.l2d (kf q.c))), (.double (FP.l2d (kf q.d))), (.double (FP.l2d (kf q.e)))] (.double (FP.l2d 0)) := Arv.set A625 q625 S625 M625 H625 G625 rfl W625 1 (by decide) (Nat.le_of_ble_eq_true rfl)
      refine go s625 ?_
      show Ends p e below _ T625 (mkF m 160 #[rv a, iv (cf q.a), iv (cf q.d), .val (.double (FP.l2d (kf q.d))), .second, iv (1 : Int32), iv (3 : Int32)] [])
      refine go (fun _ => XS.iloadN X625.here hx rfl (hb hby d3_160) rfl) ?_
      show Ends p e below _ T625 (mkF m 161 #[rv a, iv (cf q.a), iv (cf q.d), .val (.double (FP.l2d (kf q.d))), .second, iv (1 : Int32), iv (3 : Int32)] [(.int (cf q.a))])
      have u627 : ¬ lt q.c q.b = true := fun z => c88_548 ((hlt _ _ hqc hqb).mp z)
      have u628 : lt q.b q.d = true := (hlt _ _ hqb hqd).mpr c103_602
      have z629 : qn = (⟨q.b, q.d, q.c, q.d, q.e⟩ : L5) := hqn.symm.trans (by simp only [hpop4, u627, u628, if_true, if_false, Bool.false_eq_true])
      have F630 := (Arv.other V620 W625 n3)
      have K631 : Keep h0 h625 [a, ac, ak] := (Keep.wr (Keep.wr (Keep.wr (Keep.wr (Keep.wr (Keep.refl _ _) W529 (Or.inl (List.mem_of_getElem? (i := 0) rfl))) W606 (Or.inl (List.mem_of_getElem? (i := 1) rfl))) W613 (Or.inl (List.mem_of_getElem? (i := 2) rfl))) W620 (Or.inl (List.mem_of_getElem? (i := 1) rfl))) W625 (Or.inl (List.mem_of_getElem? (i := 2) rfl)))
      have F632 := (Fld.other W625 (Fld.other W620 F617 (Or.inl n1)) (Or.inl n2))
      have F633 := (Fld.other W625 F622 (Or.inl n2))
      have F634 := (Fld.other W625 (Fld.other W620 F615 (Or.inl n1)) (Or.inl n2))
      exact endI X625 hx hret (hb hby d3_161) (lvN X625 hlk e625 (fun h => by rw [hret] at h; cases h) ⟨rfl, N625, K631, F632, F633, F634, by rw [z629]; exact F630, by rw [z629]; exact V625⟩ (by decide) (by decide))
    · refine go (fun _ => XS.ifNo X600.here hx rfl (hb hby d3_103) rfl (XT.ll_lt_f c103_602)) ?_
      show Ends p e below _ T600 (mkF m 106 #[rv a, iv (cf q.a), iv (cf q.d), .val (.double (FP.l2d (kf q.d))), .second, iv (0 : Int32), iv (1 : Int32)] [])
      refine go (fun _ => XS.goto X600.here hx rfl (pc0 := 106) (pc' := 144) rfl (hb hby d3_106) (by decide) (by decide)) ?_
      refine go (fun _ => XS.aloadN X600.here hx rfl (hb hby d3_144) rfl rfl) ?_
      show Ends p e below _ T600 (mkF m 145 #[rv a, iv (cf q.a), iv (cf q.d), .val (.double (FP.l2d (kf q.d))), .second, iv (0 : Int32), iv (1 : Int32)] [(.ref a)])
      obtain ⟨T635, X635, e635, s635⟩ := getF X600 hx hZ hown (host := "") (Or.inl (hwi hw 14 rfl)) Via.refl e600 F531 (g := (mkF m 145 #[rv a, iv (cf q.a), iv (cf q.d), .val (.double (FP.l2d (kf q.d))), .second, iv (0 : Int32), iv (1 : Int32)] [(.ref a)])) rfl rfl (hb hby d3_145)
      refine go s635 ?_
      show Ends p e below _ T635 (mkF m 148 #[rv a, iv (cf q.a), iv (cf q.d), .val (.double (FP.l2d (kf q.d))), .second, iv (0 : Int32), iv (1 : Int32)] [(.ref ac)])
      refine go (fun _ => XS.iload X635.here hx rfl (hb hby d3_148) rfl) ?_
      refine go (fun _ => XS.iloadN X635.here hx rfl (hb hby d3_150) rfl) ?_
      show Ends p e below _ T635 (mkF m 151 #[rv a, iv (cf q.a), iv (cf q.d), .val (.double (FP.l2d (kf q.d))), .second, iv (0 : Int32), iv (1 : Int32)] [(.int (cf q.d)), (.int (0 : Int32)), (.ref ac)])
      obtain ⟨cl636, A636, q636, S636, M636, H636, G636⟩ := id F535
      obtain ⟨T636, h636, X636, e636, W636, s636⟩ := stI X635 hx hZ e635 A636 (j := (0 : Int32)) (inb_of S636 (by decide)) (g := (mkF m 151 #[rv a, iv (cf q.a), iv (cf q.d), .val (.double (FP.l2d (kf q.d))), .second, iv (0 : Int32), iv (1 : Int32)] [(.int (cf q.d)), (.int (0 : Int32)), (.ref ac)])) rfl rfl (hb hby d3_151)
      have N636 := Fr.snoc X636 N529 fc
      have O637 : Ext Z.heap h636 := xw O530 W636 fc
      have V636 : Arv Z h636 ac kc .int (1024 : Int32) [(.int (cf q.d)), (.int (cf q.b)), (.int (cf q.c)), (.int (cf q.d)), (.int (cf q.e))] (.int 0) := Arv.set A636 q636 S636 M636 H636 G636 rfl W636 0 (by decide) (Nat.le_of_ble_eq_true rfl)
      refine go s636 ?_
      show Ends p e below _ T636 (mkF m 152 #[rv a, iv (cf q.a), iv (cf q.d), .val (.double (FP.l2d (kf q.d))), .second, iv (0 : Int32), iv (1 : Int32)] [])
      refine go (fun _ => XS.aloadN X636.here hx rfl (hb hby d3_152) rfl rfl) ?_
      show Ends p e below _ T636 (mkF m 153 #[rv a, iv (cf q.a), iv (cf q.d), .val (.double (FP.l2d (kf q.d))), .second, iv (0 : Int32), iv (1 : Int32)] [(.ref a)])
      have F638 := (Fld.other W636 F537 (Or.inl n1))
      obtain ⟨T639, X639, e639, s639⟩ := getF X636 hx hZ hown (host := "") (Or.inl (hwi hw 17 rfl)) Via.refl e636 F638 (g := (mkF m 153 #[rv a, iv (cf q.a), iv (cf q.d), .val (.double (FP.l2d (kf q.d))), .second, iv (0 : Int32), iv (1 : Int32)] [(.ref a)])) rfl rfl (hb hby d3_153)
      refine go s639 ?_
      show Ends p e below _ T639 (mkF m 156 #[rv a, iv (cf q.a), iv (cf q.d), .val (.double (FP.l2d (kf q.d))), .second, iv (0 : Int32), iv (1 : Int32)] [(.ref ak)])
      refine go (fun _ => XS.iload X639.here hx rfl (hb hby d3_156) rfl) ?_
      show Ends p e below _ T639 (mkF m 158 #[rv a, iv (cf q.a), iv (cf q.d), .val (.double (FP.l2d (kf q.d))), .second, iv (0 : Int32), iv (1 : Int32)] [(.int (0 : Int32)), (.ref ak)])
      refine go (fun _ => XS.dloadN X639.here hx rfl (hb hby d3_158) rfl) ?_
      show Ends p e below _ T639 (mkF m 159 #[rv a, iv (cf q.a), iv (cf q.d), .val (.double (FP.l2d (kf q.d))), .second, iv (0 : Int32), iv (1 : Int32)] [(.double (FP.l2d (kf q.d))), (.int (0 : Int32)), (.ref ak)])
      have F640 := (Arv.other F540 W636 (Ne.symm n3))
      obtain ⟨cl641, A641, q641, S641, M641, H641, G641⟩ := id F640
      obtain ⟨T641, h641, X641, e641, W641, s641⟩ := stD X639 hx hZ e639 A641 (j := (0 : Int32)) (inb_of S641 (by decide)) (g := (mkF m 159 #[rv a, iv (cf q.a), iv (cf q.d), .val (.double (FP.l2d (kf q.d))), .second, iv (0 : Int32), iv (1 : Int32)] [(.double (FP.l2d (kf q.d))), (.int (0 : Int32)), (.ref ak)])) rfl rfl (hb hby d3_159)
      have N641 := Fr.snoc X641 N636 fk
      have O642 : Ext Z.heap h641 := xw O637 W641 fk
      have V641 : Arv Z h641 ak kk .double (1024 : Int32) [(.double (FP.l2d (kf q.d))), (.double (FP.l2d (kf q.b))), (.double (FP.l2d (kf q.c))), (.double (FP.l2d (kf q.d))), (.double (FP.l2d (kf q.e)))] (.double (FP.l2d 0)) := Arv.set A641 q641 S641 M641 H641 G641 rfl W641 0 (by decide) (Nat.le_of_ble_eq_true rfl)
      refine go s641 ?_
      show Ends p e below _ T641 (mkF m 160 #[rv a, iv (cf q.a), iv (cf q.d), .val (.double (FP.l2d (kf q.d))), .second, iv (0 : Int32), iv (1 : Int32)] [])
      refine go (fun _ => XS.iloadN X641.here hx rfl (hb hby d3_160) rfl) ?_
      show Ends p e below _ T641 (mkF m 161 #[rv a, iv (cf q.a), iv (cf q.d), .val (.double (FP.l2d (kf q.d))), .second, iv (0 : Int32), iv (1 : Int32)] [(.int (cf q.a))])
      have u643 : ¬ lt q.c q.b = true := fun z => c88_548 ((hlt _ _ hqc hqb).mp z)
      have u644 : ¬ lt q.b q.d = true := fun z => c103_602 ((hlt _ _ hqb hqd).mp z)
      have z645 : qn = (⟨q.d, q.b, q.c, q.d, q.e⟩ : L5) := hqn.symm.trans (by simp only [hpop4, u643, u644, if_true, if_false, Bool.false_eq_true])
      have F646 := (Arv.other V636 W641 n3)
      have K647 : Keep h0 h641 [a, ac, ak] := (Keep.wr (Keep.wr (Keep.wr (Keep.refl _ _) W529 (Or.inl (List.mem_of_getElem? (i := 0) rfl))) W636 (Or.inl (List.mem_of_getElem? (i := 1) rfl))) W641 (Or.inl (List.mem_of_getElem? (i := 2) rfl)))
      have F648 := (Fld.other W641 (Fld.other W636 F531 (Or.inl n1)) (Or.inl n2))
      have F649 := (Fld.other W641 F638 (Or.inl n2))
      have F650 := (Fld.other W641 (Fld.other W636 F533 (Or.inl n1)) (Or.inl n2))
      exact endI X641 hx hret (hb hby d3_161) (lvN X641 hlk e641 (fun h => by rw [hret] at h; cases h) ⟨rfl, N641, K647, F648, F649, F650, by rw [z645]; exact F646, by rw [z645]; exact V641⟩ (by decide) (by decide))
set_option maxRecDepth 65536 in
set_option maxHeartbeats 40000000 in
theorem rm_pop3 {l : Launch} {Z : State} {a0 : Array Value} (hw : ∀ d ∈ tables_1, d.before a0 Z = true) (a ac ak : Addr) (kc kk : ClassId) (cf : Nat → Int32) (kf : Nat → Int64) (lt : Nat → Nat → Bool) (q qn : L5) (h0 : Heap) (O0 : Ext Z.heap h0) (f0 : Z.heap.size ≤ a) (fc : Z.heap.size ≤ ac) (fk : Z.heap.size ≤ ak) (n1 : a ≠ ac) (n2 : a ≠ ak) (n3 : ac ≠ ak) (E0 : Exa Z h0 a "com/example/pedestrain/pedestrain/core/CellHeap") (F1 : Fld Z h0 a "com/example/pedestrain/pedestrain/core/CellHeap" "cells" "[I" (.ref ac)) (F2 : Fld Z h0 a "com/example/pedestrain/pedestrain/core/CellHeap" "keys" "[D" (.ref ak)) (F3 : Fld Z h0 a "com/example/pedestrain/pedestrain/core/CellHeap" "size" "I" (.int (3 : Int32))) (Vc : Arv Z h0 ac kc .int (1024 : Int32) [(.int (cf q.a)), (.int (cf q.b)), (.int (cf q.c)), (.int (cf q.d)), (.int (cf q.e))] (.int 0)) (Vk : Arv Z h0 ak kk .double (1024 : Int32) [(.double (FP.l2d (kf q.a))), (.double (FP.l2d (kf q.b))), (.double (FP.l2d (kf q.c))), (.double (FP.l2d (kf q.d))), (.double (FP.l2d (kf q.e)))] (.double (FP.l2d 0))) (hB : ∀ i, B53 (kf i)) (hlt : ∀ i j, i < 5 → j < 5 → (lt i j = true ↔ kf i < kf j)) (hqa : q.a < 5) (hqb : q.b < 5) (hqc : q.c < 5) (hqn : hpop3 lt q = qn) :
    Con l (⟨"com/example/pedestrain/pedestrain/core/CellHeap", "pop", "()I"⟩ : MethodName) prog_4_method_6_code 7 (some .int) ({ frames := 0, cells := 0, slots := 0, locals := 0 } : Room) Z #[(.ref a)] h0 (fun v h L => v = some (.int (cf q.a)) ∧ Fr Z.heap.size L ∧ Keep h0 h [a, ac, ak] ∧ Fld Z h a "com/example/pedestrain/pedestrain/core/CellHeap" "cells" "[I" (.ref ac) ∧ Fld Z h a "com/example/pedestrain/pedestrain/core/CellHeap" "keys" "[D" (.ref ak) ∧ Fld Z h a "com/example/pedestrain/pedestrain/core/CellHeap" "size" "I" (.int (2 : Int32)) ∧ Arv Z h ac kc .int (1024 : Int32) [(.int (cf qn.a)), (.int (cf qn.b)), (.int (cf qn.c)), (.int (cf qn.d)), (.int (cf qn.e))] (.int 0) ∧ Arv Z h ak kk .double (1024 : Int32) [(.double (FP.l2d (kf qn.a))), (.double (FP.l2d (kf qn.b))), (.double (FP.l2d (kf qn.c))), (.double (FP.l2d (kf qn.d))), (.double (FP.l2d (kf qn.e)))] (.double (FP.l2d 0))) := by
  refine Con.of (plainFor_of_name pn_1) (Ls := #[rv a, .unset, .unset, .unset, .unset, .unset, .unset]) (fun m => efOf rfl) ?_
  intro p e s m below meth c T0 X0 hx hZ hby hml hown hnm hret hlk e0
  refine go (fun _ => XS.aloadN X0.here hx rfl (hb hby d3_0) rfl rfl) ?_
  show Ends p e below _ T0 (mkF m 1 #[rv a, .unset, .unset, .unset, .unset, .unset, .unset] [(.ref a)])
  obtain ⟨T651, X651, e651, s651⟩ := getF X0 hx hZ hown (host := "") (Or.inl (hwi hw 14 rfl)) Via.refl e0 F1 (g := (mkF m 1 #[rv a, .unset, .unset, .unset, .unset, .unset, .unset] [(.ref a)])) rfl rfl (hb hby d3_1)
  refine go s651 ?_
  show Ends p e below _ T651 (mkF m 4 #[rv a, .unset, .unset, .unset, .unset, .unset, .unset] [(.ref ac)])
  refine go (fun _ => XT.iconstV X651.here hx rfl (0 : Int32) (hb hby d3_4) (by decide)) ?_
  show Ends p e below _ T651 (mkF m 5 #[rv a, .unset, .unset, .unset, .unset, .unset, .unset] [(.int (0 : Int32)), (.ref ac)])
  obtain ⟨cl652, A652, -, S652, M652, H652, -⟩ := id Vc
  have B652 := inb_of S652 (j := (0 : Int32)) (by decide)
  refine go (fun _ => X651.iaload hx (j := (0 : Int32)) (v := (.int (cf q.a))) (by rw [e651]; exact A652.1) (State.isArrayOf_alike hZ.alike A652.2.1) A652.2.2 B652 (H652.at B652 rfl) (g := (mkF m 5 #[rv a, .unset, .unset, .unset, .unset, .unset, .unset] [(.int (0 : Int32)), (.ref ac)])) rfl rfl (hb hby d3_5) _) ?_
  show Ends p e below _ T651 (mkF m 6 #[rv a, .unset, .unset, .unset, .unset, .unset, .unset] [(.int (cf q.a))])
  refine go (fun _ => XS.istoreN X651.here hx rfl (hb hby d3_6) rfl (l' := #[rv a, iv (cf q.a), .unset, .unset, .unset, .unset, .unset]) rfl) ?_
  refine go (fun _ => XS.aloadN X651.here hx rfl (hb hby d3_7) rfl rfl) ?_
  refine go (fun _ => XS.dup X651.here hx rfl (hb hby d3_8) rfl rfl) ?_
  show Ends p e below _ T651 (mkF m 9 #[rv a, iv (cf q.a), .unset, .unset, .unset, .unset, .unset] [(.ref a), (.ref a)])
  obtain ⟨T653, X653, e653, s653⟩ := getF X651 hx hZ hown (host := "") (Or.inl (hwi hw 24 rfl)) Via.refl e651 F3 (g := (mkF m 9 #[rv a, iv (cf q.a), .unset, .unset, .unset, .unset, .unset] [(.ref a), (.ref a)])) rfl rfl (hb hby d3_9)
  refine go s653 ?_
  show Ends p e below _ T653 (mkF m 12 #[rv a, iv (cf q.a), .unset, .unset, .unset, .unset, .unset] [(.int (3 : Int32)), (.ref a)])
  refine go (fun _ => XT.iconstV X653.here hx rfl (1 : Int32) (hb hby d3_12) (by decide)) ?_
  refine go (fun _ => XS.isub X653.here hx rfl (hb hby d3_13) rfl) ?_
  show Ends p e below _ T653 (mkF m 14 #[rv a, iv (cf q.a), .unset, .unset, .unset, .unset, .unset] [(.int (2 : Int32)), (.ref a)])
  obtain ⟨T654, h654, X654, e654, W654, s654⟩ := putF X653 hx hZ hown (host := "") (Or.inl (hwi hw 24 rfl)) Via.refl e653 F3 E0 (Or.inl (hwi hw 25 rfl)) (hwi hw 6 rfl) (ty := .int) (by decide) rfl rfl (g := (mkF m 14 #[rv a, iv (cf q.a), .unset, .unset, .unset, .unset, .unset] [(.int (2 : Int32)), (.ref a)])) rfl rfl (hb hby d3_14)
  have N654 := Fr.snoc X654 (Fr.nil _) f0
  have O655 : Ext Z.heap h654 := xw O0 W654 f0
  refine go s654 ?_
  show Ends p e below _ T654 (mkF m 17 #[rv a, iv (cf q.a), .unset, .unset, .unset, .unset, .unset] [])
  refine go (fun _ => XS.aloadN X654.here hx rfl (hb hby d3_17) rfl rfl) ?_
  show Ends p e below _ T654 (mkF m 18 #[rv a, iv (cf q.a), .unset, .unset, .unset, .unset, .unset] [(.ref a)])
  have F656 := (Fld.other W654 F1 (Or.inr (slot_ne (a0 := a0) (Or.inl (hwi hw 15 rfl)) (Or.inl (hwi hw 25 rfl)) (by decide) (t := (.array .int)) (t' := .int) (by decide) (by decide))))
  obtain ⟨T657, X657, e657, s657⟩ := getF X654 hx hZ hown (host := "") (Or.inl (hwi hw 14 rfl)) Via.refl e654 F656 (g := (mkF m 18 #[rv a, iv (cf q.a), .unset, .unset, .unset, .unset, .unset] [(.ref a)])) rfl rfl (hb hby d3_18)
  refine go s657 ?_
  show Ends p e below _ T657 (mkF m 21 #[rv a, iv (cf q.a), .unset, .unset, .unset, .unset, .unset] [(.ref ac)])
  refine go (fun _ => XS.aloadN X657.here hx rfl (hb hby d3_21) rfl rfl) ?_
  show Ends p e below _ T657 (mkF m 22 #[rv a, iv (cf q.a), .unset, .unset, .unset, .unset, .unset] [(.ref a), (.ref ac)])
  have F658 := (Fld.same W654 F3)
  obtain ⟨T659, X659, e659, s659⟩ := getF X657 hx hZ hown (host := "") (Or.inl (hwi hw 24 rfl)) Via.refl e657 F658 (g := (mkF m 22 #[rv a, iv (cf q.a), .unset, .unset, .unset, .unset, .unset] [(.ref a), (.ref ac)])) rfl rfl (hb hby d3_22)
  refine go s659 ?_
  show Ends p e below _ T659 (mkF m 25 #[rv a, iv (cf q.a), .unset, .unset, .unset, .unset, .unset] [(.int (2 : Int32)), (.ref ac)])
  have F660 := (Arv.other Vc W654 (Ne.symm n1))
  obtain ⟨cl661, A661, -, S661, M661, H661, -⟩ := id F660
  have B661 := inb_of S661 (j := (2 : Int32)) (by decide)
  refine go (fun _ => X659.iaload hx (j := (2 : Int32)) (v := (.int (cf q.c))) (by rw [e659]; exact A661.1) (State.isArrayOf_alike hZ.alike A661.2.1) A661.2.2 B661 (H661.at B661 rfl) (g := (mkF m 25 #[rv a, iv (cf q.a), .unset, .unset, .unset, .unset, .unset] [(.int (2 : Int32)), (.ref ac)])) rfl rfl (hb hby d3_25) _) ?_
  show Ends p e below _ T659 (mkF m 26 #[rv a, iv (cf q.a), .unset, .unset, .unset, .unset, .unset] [(.int (cf q.c))])
  refine go (fun _ => XS.istoreN X659.here hx rfl (hb hby d3_26) rfl (l' := #[rv a, iv (cf q.a), iv (cf q.c), .unset, .unset, .unset, .unset]) rfl) ?_
  refine go (fun _ => XS.aloadN X659.here hx rfl (hb hby d3_27) rfl rfl) ?_
  show Ends p e below _ T659 (mkF m 28 #[rv a, iv (cf q.a), iv (cf q.c), .unset, .unset, .unset, .unset] [(.ref a)])
  have F662 := (Fld.other W654 F2 (Or.inr (slot_ne (a0 := a0) (Or.inl (hwi hw 18 rfl)) (Or.inl (hwi hw 25 rfl)) (by decide) (t := (.array .double)) (t' := .int) (by decide) (by decide))))
  obtain ⟨T663, X663, e663, s663⟩ := getF X659 hx hZ hown (host := "") (Or.inl (hwi hw 17 rfl)) Via.refl e659 F662 (g := (mkF m 28 #[rv a, iv (cf q.a), iv (cf q.c), .unset, .unset, .unset, .unset] [(.ref a)])) rfl rfl (hb hby d3_28)
  refine go s663 ?_
  show Ends p e below _ T663 (mkF m 31 #[rv a, iv (cf q.a), iv (cf q.c), .unset, .unset, .unset, .unset] [(.ref ak)])
  refine go (fun _ => XS.aloadN X663.here hx rfl (hb hby d3_31) rfl rfl) ?_
  show Ends p e below _ T663 (mkF m 32 #[rv a, iv (cf q.a), iv (cf q.c), .unset, .unset, .unset, .unset] [(.ref a), (.ref ak)])
  obtain ⟨T664, X664, e664, s664⟩ := getF X663 hx hZ hown (host := "") (Or.inl (hwi hw 24 rfl)) Via.refl e663 F658 (g := (mkF m 32 #[rv a, iv (cf q.a), iv (cf q.c), .unset, .unset, .unset, .unset] [(.ref a), (.ref ak)])) rfl rfl (hb hby d3_32)
  refine go s664 ?_
  show Ends p e below _ T664 (mkF m 35 #[rv a, iv (cf q.a), iv (cf q.c), .unset, .unset, .unset, .unset] [(.int (2 : Int32)), (.ref ak)])
  have F665 := (Arv.other Vk W654 (Ne.symm n2))
  obtain ⟨cl666, A666, -, S666, M666, H666, -⟩ := id F665
  have B666 := inb_of S666 (j := (2 : Int32)) (by decide)
  refine go (fun _ => X664.daload hx (j := (2 : Int32)) (v := (.double (FP.l2d (kf q.c)))) (by rw [e664]; exact A666.1) (State.isArrayOf_alike hZ.alike A666.2.1) A666.2.2 B666 (H666.at B666 rfl) (g := (mkF m 35 #[rv a, iv (cf q.a), iv (cf q.c), .unset, .unset, .unset, .unset] [(.int (2 : Int32)), (.ref ak)])) rfl rfl (hb hby d3_35) _) ?_
  show Ends p e below _ T664 (mkF m 36 #[rv a, iv (cf q.a), iv (cf q.c), .unset, .unset, .unset, .unset] [(.double (FP.l2d (kf q.c)))])
  refine go (fun _ => XS.dstoreN X664.here hx rfl (hb hby d3_36) rfl (l' := #[rv a, iv (cf q.a), iv (cf q.c), .val (.double (FP.l2d (kf q.c))), .second, .unset, .unset]) rfl) ?_
  show Ends p e below _ T664 (mkF m 37 #[rv a, iv (cf q.a), iv (cf q.c), .val (.double (FP.l2d (kf q.c))), .second, .unset, .unset] [])
  refine go (fun _ => XT.iconstV X664.here hx rfl (0 : Int32) (hb hby d3_37) (by decide)) ?_
  refine go (fun _ => XS.istore X664.here hx rfl (hb hby d3_38) rfl (l' := #[rv a, iv (cf q.a), iv (cf q.c), .val (.double (FP.l2d (kf q.c))), .second, iv (0 : Int32), .unset]) rfl) ?_
  refine go (fun _ => XT.iconstV X664.here hx rfl (2 : Int32) (hb hby d3_40) (by decide)) ?_
  refine go (fun _ => XS.iload X664.here hx rfl (hb hby d3_41) rfl) ?_
  refine go (fun _ => XS.imul X664.here hx rfl (hb hby d3_43) rfl) ?_
  refine go (fun _ => XT.iconstV X664.here hx rfl (1 : Int32) (hb hby d3_44) (by decide)) ?_
  show Ends p e below _ T664 (mkF m 45 #[rv a, iv (cf q.a), iv (cf q.c), .val (.double (FP.l2d (kf q.c))), .second, iv (0 : Int32), .unset] [(.int (1 : Int32)), (.int (0 : Int32))])
  refine go (fun _ => XS.iadd X664.here hx rfl (hb hby d3_45) rfl) ?_
  refine go (fun _ => XS.istore X664.here hx rfl (hb hby d3_46) rfl (l' := #[rv a, iv (cf q.a), iv (cf q.c), .val (.double (FP.l2d (kf q.c))), .second, iv (0 : Int32), iv (1 : Int32)]) rfl) ?_
  refine go (fun _ => XS.iload X664.here hx rfl (hb hby d3_48) rfl) ?_
  refine go (fun _ => XS.aloadN X664.here hx rfl (hb hby d3_50) rfl rfl) ?_
  show Ends p e below _ T664 (mkF m 51 #[rv a, iv (cf q.a), iv (cf q.c), .val (.double (FP.l2d (kf q.c))), .second, iv (0 : Int32), iv (1 : Int32)] [(.ref a), (.int (1 : Int32))])
  obtain ⟨T667, X667, e667, s667⟩ := getF X664 hx hZ hown (host := "") (Or.inl (hwi hw 24 rfl)) Via.refl e664 F658 (g := (mkF m 51 #[rv a, iv (cf q.a), iv (cf q.c), .val (.double (FP.l2d (kf q.c))), .second, iv (0 : Int32), iv (1 : Int32)] [(.ref a), (.int (1 : Int32))])) rfl rfl (hb hby d3_51)
  refine go s667 ?_
  show Ends p e below _ T667 (mkF m 54 #[rv a, iv (cf q.a), iv (cf q.c), .val (.double (FP.l2d (kf q.c))), .second, iv (0 : Int32), iv (1 : Int32)] [(.int (2 : Int32)), (.int (1 : Int32))])
  refine go (fun _ => XS.icmpYes X667.here hx rfl (pc0 := 54) (pc' := 60) rfl (hb hby d3_54) rfl (XT.ii_lt_t ((by decide) : (1 : Int32) < (2 : Int32))) (by decide) (by decide)) ?_
  show Ends p e below _ T667 (mkF m 60 #[rv a, iv (cf q.a), iv (cf q.c), .val (.double (FP.l2d (kf q.c))), .second, iv (0 : Int32), iv (1 : Int32)] [])
  refine go (fun _ => XS.iload X667.here hx rfl (hb hby d3_60) rfl) ?_
  refine go (fun _ => XT.iconstV X667.here hx rfl (1 : Int32) (hb hby d3_62) (by decide)) ?_
  refine go (fun _ => XS.iadd X667.here hx rfl (hb hby d3_63) rfl) ?_
  refine go (fun _ => XS.aloadN X667.here hx rfl (hb hby d3_64) rfl rfl) ?_
  show Ends p e below _ T667 (mkF m 65 #[rv a, iv (cf q.a), iv (cf q.c), .val (.double (FP.l2d (kf q.c))), .second, iv (0 : Int32), iv (1 : Int32)] [(.ref a), (.int (2 : Int32))])
  obtain ⟨T668, X668, e668, s668⟩ := getF X667 hx hZ hown (host := "") (Or.inl (hwi hw 24 rfl)) Via.refl e667 F658 (g := (mkF m 65 #[rv a, iv (cf q.a), iv (cf q.c), .val (.double (FP.l2d (kf q.c))), .second, iv (0 : Int32), iv (1 : Int32)] [(.ref a), (.int (2 : Int32))])) rfl rfl (hb hby d3_65)
  refine go s668 ?_
  show Ends p e below _ T668 (mkF m 68 #[rv a, iv (cf q.a), iv (cf q.c), .val (.double (FP.l2d (kf q.c))), .second, iv (0 : Int32), iv (1 : Int32)] [(.int (2 : Int32)), (.int (2 : Int32))])
  refine go (fun _ => XS.icmpYes X668.here hx rfl (pc0 := 68) (pc' := 94) rfl (hb hby d3_68) rfl (XT.ii_ge_t ((by decide) : ¬ ((2 : Int32) < (2 : Int32)))) (by decide) (by decide)) ?_
  show Ends p e below _ T668 (mkF m 94 #[rv a, iv (cf q.a), iv (cf q.c), .val (.double (FP.l2d (kf q.c))), .second, iv (0 : Int32), iv (1 : Int32)] [])
  refine go (fun _ => XS.aloadN X668.here hx rfl (hb hby d3_94) rfl rfl) ?_
  show Ends p e below _ T668 (mkF m 95 #[rv a, iv (cf q.a), iv (cf q.c), .val (.double (FP.l2d (kf q.c))), .second, iv (0 : Int32), iv (1 : Int32)] [(.ref a)])
  obtain ⟨T669, X669, e669, s669⟩ := getF X668 hx hZ hown (host := "") (Or.inl (hwi hw 17 rfl)) Via.refl e668 F662 (g := (mkF m 95 #[rv a, iv (cf q.a), iv (cf q.c), .val (.double (FP.l2d (kf q.c))), .second, iv (0 : Int32), iv (1 : Int32)] [(.ref a)])) rfl rfl (hb hby d3_95)
  refine go s669 ?_
  show Ends p e below _ T669 (mkF m 98 #[rv a, iv (cf q.a), iv (cf q.c), .val (.double (FP.l2d (kf q.c))), .second, iv (0 : Int32), iv (1 : Int32)] [(.ref ak)])
  refine go (fun _ => XS.iload X669.here hx rfl (hb hby d3_98) rfl) ?_
  show Ends p e below _ T669 (mkF m 100 #[rv a, iv (cf q.a), iv (cf q.c), .val (.double (FP.l2d (kf q.c))), .second, iv (0 : Int32), iv (1 : Int32)] [(.int (1 : Int32)), (.ref ak)])
  obtain ⟨cl670, A670, -, S670, M670, H670, -⟩ := id F665
  have B670 := inb_of S670 (j := (1 : Int32)) (by decide)
  refine go (fun _ => X669.daload hx (j := (1 : Int32)) (v := (.double (FP.l2d (kf q.b)))) (by rw [e669]; exact A670.1) (State.isArrayOf_alike hZ.alike A670.2.1) A670.2.2 B670 (H670.at B670 rfl) (g := (mkF m 100 #[rv a, iv (cf q.a), iv (cf q.c), .val (.double (FP.l2d (kf q.c))), .second, iv (0 : Int32), iv (1 : Int32)] [(.int (1 : Int32)), (.ref ak)])) rfl rfl (hb hby d3_100) _) ?_
  show Ends p e below _ T669 (mkF m 101 #[rv a, iv (cf q.a), iv (cf q.c), .val (.double (FP.l2d (kf q.c))), .second, iv (0 : Int32), iv (1 : Int32)] [(.double (FP.l2d (kf q.b)))])
  refine go (fun _ => XS.dloadN X669.here hx rfl (hb hby d3_101) rfl) ?_
  show Ends p e below _ T669 (mkF m 102 #[rv a, iv (cf q.a), iv (cf q.c), .val (.double (FP.l2d (kf q.c))), .second, iv (0 : Int32), iv (1 : Int32)] [(.double (FP.l2d (kf q.c))), (.double (FP.l2d (kf q.b)))])
  refine go (fun _ => XS.dcmpS X669.here hx rfl (hb hby d3_102) rfl ((dcmpV_w (hB _) (hB _) _).trans (own_lw _ _))) ?_
  show Ends p e below _ T669 (mkF m 103 #[rv a, iv (cf q.a), iv (cf q.c), .val (.double (FP.l2d (kf q.c))), .second, iv (0 : Int32), iv (1 : Int32)] [(.int (XT.cmpL (kf q.b) (kf q.c)))])
  by_cases c103_671 : (kf q.b) < (kf q.c)
  · refine go (fun _ => XS.ifYes X669.here hx rfl (pc0 := 103) (pc' := 109) rfl (hb hby d3_103) rfl (XT.ll_lt_t c103_671) (by decide) (by decide)) ?_
    show Ends p e below _ T669 (mkF m 109 #[rv a, iv (cf q.a), iv (cf q.c), .val (.double (FP.l2d (kf q.c))), .second, iv (0 : Int32), iv (1 : Int32)] [])
    refine go (fun _ => XS.aloadN X669.here hx rfl (hb hby d3_109) rfl rfl) ?_
    show Ends p e below _ T669 (mkF m 110 #[rv a, iv (cf q.a), iv (cf q.c), .val (.double (FP.l2d (kf q.c))), .second, iv (0 : Int32), iv (1 : Int32)] [(.ref a)])
    obtain ⟨T672, X672, e672, s672⟩ := getF X669 hx hZ hown (host := "") (Or.inl (hwi hw 14 rfl)) Via.refl e669 F656 (g := (mkF m 110 #[rv a, iv (cf q.a), iv (cf q.c), .val (.double (FP.l2d (kf q.c))), .second, iv (0 : Int32), iv (1 : Int32)] [(.ref a)])) rfl rfl (hb hby d3_110)
    refine go s672 ?_
    show Ends p e below _ T672 (mkF m 113 #[rv a, iv (cf q.a), iv (cf q.c), .val (.double (FP.l2d (kf q.c))), .second, iv (0 : Int32), iv (1 : Int32)] [(.ref ac)])
    refine go (fun _ => XS.iload X672.here hx rfl (hb hby d3_113) rfl) ?_
    refine go (fun _ => XS.aloadN X672.here hx rfl (hb hby d3_115) rfl rfl) ?_
    show Ends p e below _ T672 (mkF m 116 #[rv a, iv (cf q.a), iv (cf q.c), .val (.double (FP.l2d (kf q.c))), .second, iv (0 : Int32), iv (1 : Int32)] [(.ref a), (.int (0 : Int32)), (.ref ac)])
    obtain ⟨T673, X673, e673, s673⟩ := getF X672 hx hZ hown (host := "") (Or.inl (hwi hw 14 rfl)) Via.refl e672 F656 (g := (mkF m 116 #[rv a, iv (cf q.a), iv (cf q.c), .val (.double (FP.l2d (kf q.c))), .second, iv (0 : Int32), iv (1 : Int32)] [(.ref a), (.int (0 : Int32)), (.ref ac)])) rfl rfl (hb hby d3_116)
    refine go s673 ?_
    show Ends p e below _ T673 (mkF m 119 #[rv a, iv (cf q.a), iv (cf q.c), .val (.double (FP.l2d (kf q.c))), .second, iv (0 : Int32), iv (1 : Int32)] [(.ref ac), (.int (0 : Int32)), (.ref ac)])
    refine go (fun _ => XS.iload X673.here hx rfl (hb hby d3_119) rfl) ?_
    show Ends p e below _ T673 (mkF m 121 #[rv a, iv (cf q.a), iv (cf q.c), .val (.double (FP.l2d (kf q.c))), .second, iv (0 : Int32), iv (1 : Int32)] [(.int (1 : Int32)), (.ref ac), (.int (0 : Int32)), (.ref ac)])
    obtain ⟨cl674, A674, -, S674, M674, H674, -⟩ := id F660
    have B674 := inb_of S674 (j := (1 : Int32)) (by decide)
    refine go (fun _ => X673.iaload hx (j := (1 : Int32)) (v := (.int (cf q.b))) (by rw [e673]; exact A674.1) (State.isArrayOf_alike hZ.alike A674.2.1) A674.2.2 B674 (H674.at B674 rfl) (g := (mkF m 121 #[rv a, iv (cf q.a), iv (cf q.c), .val (.double (FP.l2d (kf q.c))), .second, iv (0 : Int32), iv (1 : Int32)] [(.int (1 : Int32)), (.ref ac), (.int (0 : Int32)), (.ref ac)])) rfl rfl (hb hby d3_121) _) ?_
    show Ends p e below _ T673 (mkF m 122 #[rv a, iv (cf q.a), iv (cf q.c), .val (.double (FP.l2d (kf q.c))), .second, iv (0 : Int32), iv (1 : Int32)] [(.int (cf q.b)), (.int (0 : Int32)), (.ref ac)])
    obtain ⟨cl675, A675, q675, S675, M675, H675, G675⟩ := id F660
    obtain ⟨T675, h675, X675, e675, W675, s675⟩ := stI X673 hx hZ e673 A675 (j := (0 : Int32)) (inb_of S675 (by decide)) (g := (mkF m 122 #[rv a, iv (cf q.a), iv (cf q.c), .val (.double (FP.l2d (kf q.c))), .second, iv (0 : Int32), iv (1 : Int32)] [(.int (cf q.b)), (.int (0 : Int32)), (.ref ac)])) rfl rfl (hb hby d3_122)
    have N675 := Fr.snoc X675 N654 fc
    have O676 : Ext Z.heap h675 := xw O655 W675 fc
    have V675 : Arv Z h675 ac kc .int (1024 : Int32) [(.int (cf q.b)), (.int (cf q.b)), (.int (cf q.c)), (.int (cf q.d)), (.int (cf q.e))] (.int 0) := Arv.set A675 q675 S675 M675 H675 G675 rfl W675 0 (by decide) (Nat.le_of_ble_eq_true rfl)
    refine go s675 ?_
    show Ends p e below _ T675 (mkF m 123 #[rv a, iv (cf q.a), iv (cf q.c), .val (.double (FP.l2d (kf q.c))), .second, iv (0 : Int32), iv (1 : Int32)] [])
    refine go (fun _ => XS.aloadN X675.here hx rfl (hb hby d3_123) rfl rfl) ?_
    show Ends p e below _ T675 (mkF m 124 #[rv a, iv (cf q.a), iv (cf q.c), .val (.double (FP.l2d (kf q.c))), .second, iv (0 : Int32), iv (1 : Int32)] [(.ref a)])
    have F677 := (Fld.other W675 F662 (Or.inl n1))
    obtain ⟨T678, X678, e678, s678⟩ := getF X675 hx hZ hown (host := "") (Or.inl (hwi hw 17 rfl)) Via.refl e675 F677 (g := (mkF m 124 #[rv a, iv (cf q.a), iv (cf q.c), .val (.double (FP.l2d (kf q.c))), .second, iv (0 : Int32), iv (1 : Int32)] [(.ref a)])) rfl rfl (hb hby d3_124)
    refine go s678 ?_
    show Ends p e below _ T678 (mkF m 127 #[rv a, iv (cf q.a), iv (cf q.c), .val (.double (FP.l2d (kf q.c))), .second, iv (0 : Int32), iv (1 : Int32)] [(.ref ak)])
    refine go (fun _ => XS.iload X678.here hx rfl (hb hby d3_127) rfl) ?_
    refine go (fun _ => XS.aloadN X678.here hx rfl (hb hby d3_129) rfl rfl) ?_
    show Ends p e below _ T678 (mkF m 130 #[rv a, iv (cf q.a), iv (cf q.c), .val (.double (FP.l2d (kf q.c))), .second, iv (0 : Int32), iv (1 : Int32)] [(.ref a), (.int (0 : Int32)), (.ref ak)])
    obtain ⟨T679, X679, e679, s679⟩ := getF X678 hx hZ hown (host := "") (Or.inl (hwi hw 17 rfl)) Via.refl e678 F677 (g := (mkF m 130 #[rv a, iv (cf q.a), iv (cf q.c), .val (.double (FP.l2d (kf q.c))), .second, iv (0 : Int32), iv (1 : Int32)] [(.ref a), (.int (0 : Int32)), (.ref ak)])) rfl rfl (hb hby d3_130)
    refine go s679 ?_
    show Ends p e below _ T679 (mkF m 133 #[rv a, iv (cf q.a), iv (cf q.c), .val (.double (FP.l2d (kf q.c))), .second, iv (0 : Int32), iv (1 : Int32)] [(.ref ak), (.int (0 : Int32)), (.ref ak)])
    refine go (fun _ => XS.iload X679.here hx rfl (hb hby d3_133) rfl) ?_
    show Ends p e below _ T679 (mkF m 135 #[rv a, iv (cf q.a), iv (cf q.c), .val (.double (FP.l2d (kf q.c))), .second, iv (0 : Int32), iv (1 : Int32)] [(.int (1 : Int32)), (.ref ak), (.int (0 : Int32)), (.ref ak)])
    have F680 := (Arv.other F665 W675 (Ne.symm n3))
    obtain ⟨cl681, A681, -, S681, M681, H681, -⟩ := id F680
    have B681 := inb_of S681 (j := (1 : Int32)) (by decide)
    refine go (fun _ => X679.daload hx (j := (1 : Int32)) (v := (.double (FP.l2d (kf q.b)))) (by rw [e679]; exact A681.1) (State.isArrayOf_alike hZ.alike A681.2.1) A681.2.2 B681 (H681.at B681 rfl) (g := (mkF m 135 #[rv a, iv (cf q.a), iv (cf q.c), .val (.double (FP.l2d (kf q.c))), .second, iv (0 : Int32), iv (1 : Int32)] [(.int (1 : Int32)), (.ref ak), (.int (0 : Int32)), (.ref ak)])) rfl rfl (hb hby d3_135) _) ?_
    show Ends p e below _ T679 (mkF m 136 #[rv a, iv (cf q.a), iv (cf q.c), .val (.double (FP.l2d (kf q.c))), .second, iv (0 : Int32), iv (1 : Int32)] [(.double (FP.l2d (kf q.b))), (.int (0 : Int32)), (.ref ak)])
    obtain ⟨cl682, A682, q682, S682, M682, H682, G682⟩ := id F680
    obtain ⟨T682, h682, X682, e682, W682, s682⟩ := stD X679 hx hZ e679 A682 (j := (0 : Int32)) (inb_of S682 (by decide)) (g := (mkF m 136 #[rv a, iv (cf q.a), iv (cf q.c), .val (.double (FP.l2d (kf q.c))), .second, iv (0 : Int32), iv (1 : Int32)] [(.double (FP.l2d (kf q.b))), (.int (0 : Int32)), (.ref ak)])) rfl rfl (hb hby d3_136)
    have N682 := Fr.snoc X682 N675 fk
    have O683 : Ext Z.heap h682 := xw O676 W682 fk
    have V682 : Arv Z h682 ak kk .double (1024 : Int32) [(.double (FP.l2d (kf q.b))), (.double (FP.l2d (kf q.b))), (.double (FP.l2d (kf q.c))), (.double (FP.l2d (kf q.d))), (.double (FP.l2d (kf q.e)))] (.double (FP.l2d 0)) := Arv.set A682 q682 S682 M682 H682 G682 rfl W682 0 (by decide) (Nat.le_of_ble_eq_true rfl)
    refine go s682 ?_
    show Ends p e below _ T682 (mkF m 137 #[rv a, iv (cf q.a), iv (cf q.c), .val (.double (FP.l2d (kf q.c))), .second, iv (0 : Int32), iv (1 : Int32)] [])
    refine go (fun _ => XS.iload X682.here hx rfl (hb hby d3_137) rfl) ?_
    refine go (fun _ => XS.istore X682.here hx rfl (hb hby d3_139) rfl (l' := #[rv a, iv (cf q.a), iv (cf q.c), .val (.double (FP.l2d (kf q.c))), .second, iv (1 : Int32), iv (1 : Int32)]) rfl) ?_
    refine go (fun _ => XS.goto X682.here hx rfl (pc0 := 141) (pc' := 40) rfl (hb hby d3_141) (by decide) (by decide)) ?_
    refine go (fun _ => XT.iconstV X682.here hx rfl (2 : Int32) (hb hby d3_40) (by decide)) ?_
    refine go (fun _ => XS.iload X682.here hx rfl (hb hby d3_41) rfl) ?_
    refine go (fun _ => XS.imul X682.here hx rfl (hb hby d3_43) rfl) ?_
    show Ends p e below _ T682 (mkF m 44 #[rv a, iv (cf q.a), iv (cf q.c), .val (.double (FP.l2d (kf q.c))), .second, iv (1 : Int32), iv (1 : Int32)] [(.int (2 : Int32))])
    refine go (fun _ => XT.iconstV X682.here hx rfl (1 : Int32) (hb hby d3_44) (by decide)) ?_
    refine go (fun _ => XS.iadd X682.here hx rfl (hb hby d3_45) rfl) ?_
    refine go (fun _ => XS.istore X682.here hx rfl (hb hby d3_46) rfl (l' := #[rv a, iv (cf q.a), iv (cf q.c), .val (.double (FP.l2d (kf q.c))), .second, iv (1 : Int32), iv (3 : Int32)]) rfl) ?_
    refine go (fun _ => XS.iload X682.here hx rfl (hb hby d3_48) rfl) ?_
    refine go (fun _ => XS.aloadN X682.here hx rfl (hb hby d3_50) rfl rfl) ?_
    show Ends p e below _ T682 (mkF m 51 #[rv a, iv (cf q.a), iv (cf q.c), .val (.double (FP.l2d (kf q.c))), .second, iv (1 : Int32), iv (3 : Int32)] [(.ref a), (.int (3 : Int32))])
    have F684 := (Fld.other W682 (Fld.other W675 F658 (Or.inl n1)) (Or.inl n2))
    obtain ⟨T685, X685, e685, s685⟩ := getF X682 hx hZ hown (host := "") (Or.inl (hwi hw 24 rfl)) Via.refl e682 F684 (g := (mkF m 51 #[rv a, iv (cf q.a), iv (cf q.c), .val (.double (FP.l2d (kf q.c))), .second, iv (1 : Int32), iv (3 : Int32)] [(.ref a), (.int (3 : Int32))])) rfl rfl (hb hby d3_51)
    refine go s685 ?_
    show Ends p e below _ T685 (mkF m 54 #[rv a, iv (cf q.a), iv (cf q.c), .val (.double (FP.l2d (kf q.c))), .second, iv (1 : Int32), iv (3 : Int32)] [(.int (2 : Int32)), (.int (3 : Int32))])
    refine go (fun _ => XS.icmpNo X685.here hx rfl (hb hby d3_54) rfl (XT.ii_lt_f ((by decide) : ¬ ((3 : Int32) < (2 : Int32))))) ?_
    show Ends p e below _ T685 (mkF m 57 #[rv a, iv (cf q.a), iv (cf q.c), .val (.double (FP.l2d (kf q.c))), .second, iv (1 : Int32), iv (3 : Int32)] [])
    refine go (fun _ => XS.goto X685.here hx rfl (pc0 := 57) (pc' := 144) rfl (hb hby d3_57) (by decide) (by decide)) ?_
    refine go (fun _ => XS.aloadN X685.here hx rfl (hb hby d3_144) rfl rfl) ?_
    show Ends p e below _ T685 (mkF m 145 #[rv a, iv (cf q.a), iv (cf q.c), .val (.double (FP.l2d (kf q.c))), .second, iv (1 : Int32), iv (3 : Int32)] [(.ref a)])
    have F686 := (Fld.other W682 (Fld.other W675 F656 (Or.inl n1)) (Or.inl n2))
    obtain ⟨T687, X687, e687, s687⟩ := getF X685 hx hZ hown (host := "") (Or.inl (hwi hw 14 rfl)) Via.refl e685 F686 (g := (mkF m 145 #[rv a, iv (cf q.a), iv (cf q.c), .val (.double (FP.l2d (kf q.c))), .second, iv (1 : Int32), iv (3 : Int32)] [(.ref a)])) rfl rfl (hb hby d3_145)
    refine go s687 ?_
    show Ends p e below _ T687 (mkF m 148 #[rv a, iv (cf q.a), iv (cf q.c), .val (.double (FP.l2d (kf q.c))), .second, iv (1 : Int32), iv (3 : Int32)] [(.ref ac)])
    refine go (fun _ => XS.iload X687.here hx rfl (hb hby d3_148) rfl) ?_
    refine go (fun _ => XS.iloadN X687.here hx rfl (hb hby d3_150) rfl) ?_
    show Ends p e below _ T687 (mkF m 151 #[rv a, iv (cf q.a), iv (cf q.c), .val (.double (FP.l2d (kf q.c))), .second, iv (1 : Int32), iv (3 : Int32)] [(.int (cf q.c)), (.int (1 : Int32)), (.ref ac)])
    have F688 := (Arv.other V675 W682 n3)
    obtain ⟨cl689, A689, q689, S689, M689, H689, G689⟩ := id F688
    obtain ⟨T689, h689, X689, e689, W689, s689⟩ := stI X687 hx hZ e687 A689 (j := (1 : Int32)) (inb_of S689 (by decide)) (g := (mkF m 151 #[rv a, iv (cf q.a), iv (cf q.c), .val (.double (FP.l2d (kf q.c))), .second, iv (1 : Int32), iv (3 : Int32)] [(.int (cf q.c)), (.int (1 : Int32)), (.ref ac)])) rfl rfl (hb hby d3_151)
    have N689 := Fr.snoc X689 N682 fc
    have O690 : Ext Z.heap h689 := xw O683 W689 fc
    have V689 : Arv Z h689 ac kc .int (1024 : Int32) [(.int (cf q.b)), (.int (cf q.c)), (.int (cf q.c)), (.int (cf q.d)), (.int (cf q.e))] (.int 0) := Arv.set A689 q689 S689 M689 H689 G689 rfl W689 1 (by decide) (Nat.le_of_ble_eq_true rfl)
    refine go s689 ?_
    show Ends p e below _ T689 (mkF m 152 #[rv a, iv (cf q.a), iv (cf q.c), .val (.double (FP.l2d (kf q.c))), .second, iv (1 : Int32), iv (3 : Int32)] [])
    refine go (fun _ => XS.aloadN X689.here hx rfl (hb hby d3_152) rfl rfl) ?_
    show Ends p e below _ T689 (mkF m 153 #[rv a, iv (cf q.a), iv (cf q.c), .val (.double (FP.l2d (kf q.c))), .second, iv (1 : Int32), iv (3 : Int32)] [(.ref a)])
    have F691 := (Fld.other W689 (Fld.other W682 F677 (Or.inl n2)) (Or.inl n1))
    obtain ⟨T692, X692, e692, s692⟩ := getF X689 hx hZ hown (host := "") (Or.inl (hwi hw 17 rfl)) Via.refl e689 F691 (g := (mkF m 153 #[rv a, iv (cf q.a), iv (cf q.c), .val (.double (FP.l2d (kf q.c))), .second, iv (1 : Int32), iv (3 : Int32)] [(.ref a)])) rfl rfl (hb hby d3_153)
    refine go s692 ?_
    show Ends p e below _ T692 (mkF m 156 #[rv a, iv (cf q.a), iv (cf q.c), .val (.double (FP.l2d (kf q.c))), .second, iv (1 : Int32), iv (3 : Int32)] [(.ref ak)])
    refine go (fun _ => XS.iload X692.here hx rfl (hb hby d3_156) rfl) ?_
    show Ends p e below _ T692 (mkF m 158 #[rv a, iv (cf q.a), iv (cf q.c), .val (.double (FP.l2d (kf q.c))), .second, iv (1 : Int32), iv (3 : Int32)] [(.int (1 : Int32)), (.ref ak)])
    refine go (fun _ => XS.dloadN X692.here hx rfl (hb hby d3_158) rfl) ?_
    show Ends p e below _ T692 (mkF m 159 #[rv a, iv (cf q.a), iv (cf q.c), .val (.double (FP.l2d (kf q.c))), .second, iv (1 : Int32), iv (3 : Int32)] [(.double (FP.l2d (kf q.c))), (.int (1 : Int32)), (.ref ak)])
    have F693 := (Arv.other V682 W689 (Ne.symm n3))
    obtain ⟨cl694, A694, q694, S694, M694, H694, G694⟩ := id F693
    obtain ⟨T694, h694, X694, e694, W694, s694⟩ := stD X692 hx hZ e692 A694 (j := (1 : Int32)) (inb_of S694 (by decide)) (g := (mkF m 159 #[rv a, iv (cf q.a), iv (cf q.c), .val (.double (FP.l2d (kf q.c))), .second, iv (1 : Int32), iv (3 : Int32)] [(.double (FP.l2d (kf q.c))), (.int (1 : Int32)), (.ref ak)])) rfl rfl (hb hby d3_159)
    have N694 := Fr.snoc X694 N689 fk
    have O695 : Ext Z.heap h694 := xw O690 W694 fk
    have V694 : Arv Z h694 ak kk .double (1024 : Int32) [(.double (FP.l2d (kf q.b))), (.double (FP.l2d (kf q.c))), (.double (FP.l2d (kf q.c))), (.double (FP.l2d (kf q.d))), (.double (FP.l2d (kf q.e)))] (.double (FP.l2d 0)) := Arv.set A694 q694 S694 M694 H694 G694 rfl W694 1 (by decide) (Nat.le_of_ble_eq_true rfl)
    refine go s694 ?_
    show Ends p e below _ T694 (mkF m 160 #[rv a, iv (cf q.a), iv (cf q.c), .val (.double (FP.l2d (kf q.c))), .second, iv (1 : Int32), iv (3 : Int32)] [])
    refine go (fun _ => XS.iloadN X694.here hx rfl (hb hby d3_160) rfl) ?_
    show Ends p e below _ T694 (mkF m 161 #[rv a, iv (cf q.a), iv (cf q.c), .val (.double (FP.l2d (kf q.c))), .second, iv (1 : Int32), iv (3 : Int32)] [(.int (cf q.a))])
    have u696 : lt q.b q.c = true := (hlt _ _ hqb hqc).mpr c103_671
    have z697 : qn = (⟨q.b, q.c, q.c, q.d, q.e⟩ : L5) := hqn.symm.trans (by simp only [hpop3, u696, if_true, if_false, Bool.false_eq_true])
    have F698 := (Arv.other V689 W694 n3)
    have K699 : Keep h0 h694 [a, ac, ak] := (Keep.wr (Keep.wr (Keep.wr (Keep.wr (Keep.wr (Keep.refl _ _) W654 (Or.inl (List.mem_of_getElem? (i := 0) rfl))) W675 (Or.inl (List.mem_of_getElem? (i := 1) rfl))) W682 (Or.inl (List.mem_of_getElem? (i := 2) rfl))) W689 (Or.inl (List.mem_of_getElem? (i := 1) rfl))) W694 (Or.inl (List.mem_of_getElem? (i := 2) rfl)))
    have F700 := (Fld.other W694 (Fld.other W689 F686 (Or.inl n1)) (Or.inl n2))
    have F701 := (Fld.other W694 F691 (Or.inl n2))
    have F702 := (Fld.other W694 (Fld.other W689 F684 (Or.inl n1)) (Or.inl n2))
    exact endI X694 hx hret (hb hby d3_161) (lvN X694 hlk e694 (fun h => by rw [hret] at h; cases h) ⟨rfl, N694, K699, F700, F701, F702, by rw [z697]; exact F698, by rw [z697]; exact V694⟩ (by decide) (by decide))
  · refine go (fun _ => XS.ifNo X669.here hx rfl (hb hby d3_103) rfl (XT.ll_lt_f c103_671)) ?_
    show Ends p e below _ T669 (mkF m 106 #[rv a, iv (cf q.a), iv (cf q.c), .val (.double (FP.l2d (kf q.c))), .second, iv (0 : Int32), iv (1 : Int32)] [])
    refine go (fun _ => XS.goto X669.here hx rfl (pc0 := 106) (pc' := 144) rfl (hb hby d3_106) (by decide) (by decide)) ?_
    refine go (fun _ => XS.aloadN X669.here hx rfl (hb hby d3_144) rfl rfl) ?_
    show Ends p e below _ T669 (mkF m 145 #[rv a, iv (cf q.a), iv (cf q.c), .val (.double (FP.l2d (kf q.c))), .second, iv (0 : Int32), iv (1 : Int32)] [(.ref a)])
    obtain ⟨T703, X703, e703, s703⟩ := getF X669 hx hZ hown (host := "") (Or.inl (hwi hw 14 rfl)) Via.refl e669 F656 (g := (mkF m 145 #[rv a, iv (cf q.a), iv (cf q.c), .val (.double (FP.l2d (kf q.c))), .second, iv (0 : Int32), iv (1 : Int32)] [(.ref a)])) rfl rfl (hb hby d3_145)
    refine go s703 ?_
    show Ends p e below _ T703 (mkF m 148 #[rv a, iv (cf q.a), iv (cf q.c), .val (.double (FP.l2d (kf q.c))), .second, iv (0 : Int32), iv (1 : Int32)] [(.ref ac)])
    refine go (fun _ => XS.iload X703.here hx rfl (hb hby d3_148) rfl) ?_
    refine go (fun _ => XS.iloadN X703.here hx rfl (hb hby d3_150) rfl) ?_
    show Ends p e below _ T703 (mkF m 151 #[rv a, iv (cf q.a), iv (cf q.c), .val (.double (FP.l2d (kf q.c))), .second, iv (0 : Int32), iv (1 : Int32)] [(.int (cf q.c)), (.int (0 : Int32)), (.ref ac)])
    obtain ⟨cl704, A704, q704, S704, M704, H704, G704⟩ := id F660
    obtain ⟨T704, h704, X704, e704, W704, s704⟩ := stI X703 hx hZ e703 A704 (j := (0 : Int32)) (inb_of S704 (by decide)) (g := (mkF m 151 #[rv a, iv (cf q.a), iv (cf q.c), .val (.double (FP.l2d (kf q.c))), .second, iv (0 : Int32), iv (1 : Int32)] [(.int (cf q.c)), (.int (0 : Int32)), (.ref ac)])) rfl rfl (hb hby d3_151)
    have N704 := Fr.snoc X704 N654 fc
    have O705 : Ext Z.heap h704 := xw O655 W704 fc
    have V704 : Arv Z h704 ac kc .int (1024 : Int32) [(.int (cf q.c)), (.int (cf q.b)), (.int (cf q.c)), (.int (cf q.d)), (.int (cf q.e))] (.int 0) := Arv.set A704 q704 S704 M704 H704 G704 rfl W704 0 (by decide) (Nat.le_of_ble_eq_true rfl)
    refine go s704 ?_
    show Ends p e below _ T704 (mkF m 152 #[rv a, iv (cf q.a), iv (cf q.c), .val (.double (FP.l2d (kf q.c))), .second, iv (0 : Int32), iv (1 : Int32)] [])
    refine go (fun _ => XS.aloadN X704.here hx rfl (hb hby d3_152) rfl rfl) ?_
    show Ends p e below _ T704 (mkF m 153 #[rv a, iv (cf q.a), iv (cf q.c), .val (.double (FP.l2d (kf q.c))), .second, iv (0 : Int32), iv (1 : Int32)] [(.ref a)])
    have F706 := (Fld.other W704 F662 (Or.inl n1))
    obtain ⟨T707, X707, e707, s707⟩ := getF X704 hx hZ hown (host := "") (Or.inl (hwi hw 17 rfl)) Via.refl e704 F706 (g := (mkF m 153 #[rv a, iv (cf q.a), iv (cf q.c), .val (.double (FP.l2d (kf q.c))), .second, iv (0 : Int32), iv (1 : Int32)] [(.ref a)])) rfl rfl (hb hby d3_153)
    refine go s707 ?_
    show Ends p e below _ T707 (mkF m 156 #[rv a, iv (cf q.a), iv (cf q.c), .val (.double (FP.l2d (kf q.c))), .second, iv (0 : Int32), iv (1 : Int32)] [(.ref ak)])
    refine go (fun _ => XS.iload X707.here hx rfl (hb hby d3_156) rfl) ?_
    show Ends p e below _ T707 (mkF m 158 #[rv a, iv (cf q.a), iv (cf q.c), .val (.double (FP.l2d (kf q.c))), .second, iv (0 : Int32), iv (1 : Int32)] [(.int (0 : Int32)), (.ref ak)])
    refine go (fun _ => XS.dloadN X707.here hx rfl (hb hby d3_158) rfl) ?_
    show Ends p e below _ T707 (mkF m 159 #[rv a, iv (cf q.a), iv (cf q.c), .val (.double (FP.l2d (kf q.c))), .second, iv (0 : Int32), iv (1 : Int32)] [(.double (FP.l2d (kf q.c))), (.int (0 : Int32)), (.ref ak)])
    have F708 := (Arv.other F665 W704 (Ne.symm n3))
    obtain ⟨cl709, A709, q709, S709, M709, H709, G709⟩ := id F708
    obtain ⟨T709, h709, X709, e709, W709, s709⟩ := stD X707 hx hZ e707 A709 (j := (0 : Int32)) (inb_of S709 (by decide)) (g := (mkF m 159 #[rv a, iv (cf q.a), iv (cf q.c), .val (.double (FP.l2d (kf q.c))), .second, iv (0 : Int32), iv (1 : Int32)] [(.double (FP.l2d (kf q.c))), (.int (0 : Int32)), (.ref ak)])) rfl rfl (hb hby d3_159)
    have N709 := Fr.snoc X709 N704 fk
    have O710 : Ext Z.heap h709 := xw O705 W709 fk
    have V709 : Arv Z h709 ak kk .double (1024 : Int32) [(.double (FP.l2d (kf q.c))), (.double (FP.l2d (kf q.b))), (.double (FP.l2d (kf q.c))), (.double (FP.l2d (kf q.d))), (.double (FP.l2d (kf q.e)))] (.double (FP.l2d 0)) := Arv.set A709 q709 S709 M709 H709 G709 rfl W709 0 (by decide) (Nat.le_of_ble_eq_true rfl)
    refine go s709 ?_
    show Ends p e below _ T709 (mkF m 160 #[rv a, iv (cf q.a), iv (cf q.c), .val (.double (FP.l2d (kf q.c))), .second, iv (0 : Int32), iv (1 : Int32)] [])
    refine go (fun _ => XS.iloadN X709.here hx rfl (hb hby d3_160) rfl) ?_
    show Ends p e below _ T709 (mkF m 161 #[rv a, iv (cf q.a), iv (cf q.c), .val (.double (FP.l2d (kf q.c))), .second, iv (0 : Int32), iv (1 : Int32)] [(.int (cf q.a))])
    have u711 : ¬ lt q.b q.c = true := fun z => c103_671 ((hlt _ _ hqb hqc).mp z)
    have z712 : qn = (⟨q.c, q.b, q.c, q.d, q.e⟩ : L5) := hqn.symm.trans (by simp only [hpop3, u711, if_true, if_false, Bool.false_eq_true])
    have F713 := (Arv.other V704 W709 n3)
    have K714 : Keep h0 h709 [a, ac, ak] := (Keep.wr (Keep.wr (Keep.wr (Keep.refl _ _) W654 (Or.inl (List.mem_of_getElem? (i := 0) rfl))) W704 (Or.inl (List.mem_of_getElem? (i := 1) rfl))) W709 (Or.inl (List.mem_of_getElem? (i := 2) rfl)))
    have F715 := (Fld.other W709 (Fld.other W704 F656 (Or.inl n1)) (Or.inl n2))
    have F716 := (Fld.other W709 F706 (Or.inl n2))
    have F717 := (Fld.other W709 (Fld.other W704 F658 (Or.inl n1)) (Or.inl n2))
    exact endI X709 hx hret (hb hby d3_161) (lvN X709 hlk e709 (fun h => by rw [hret] at h; cases h) ⟨rfl, N709, K714, F715, F716, F717, by rw [z712]; exact F713, by rw [z712]; exact V709⟩ (by decide) (by decide))
set_option maxRecDepth 65536 in
set_option maxHeartbeats 40000000 in
theorem rm_pop2 {l : Launch} {Z : State} {a0 : Array Value} (hw : ∀ d ∈ tables_1, d.before a0 Z = true) (a ac ak : Addr) (kc kk : ClassId) (cf : Nat → Int32) (kf : Nat → Int64) (lt : Nat → Nat → Bool) (q qn : L5) (h0 : Heap) (O0 : Ext Z.heap h0) (f0 : Z.heap.size ≤ a) (fc : Z.heap.size ≤ ac) (fk : Z.heap.size ≤ ak) (n1 : a ≠ ac) (n2 : a ≠ ak) (n3 : ac ≠ ak) (E0 : Exa Z h0 a "com/example/pedestrain/pedestrain/core/CellHeap") (F1 : Fld Z h0 a "com/example/pedestrain/pedestrain/core/CellHeap" "cells" "[I" (.ref ac)) (F2 : Fld Z h0 a "com/example/pedestrain/pedestrain/core/CellHeap" "keys" "[D" (.ref ak)) (F3 : Fld Z h0 a "com/example/pedestrain/pedestrain/core/CellHeap" "size" "I" (.int (2 : Int32))) (Vc : Arv Z h0 ac kc .int (1024 : Int32) [(.int (cf q.a)), (.int (cf q.b)), (.int (cf q.c)), (.int (cf q.d)), (.int (cf q.e))] (.int 0)) (Vk : Arv Z h0 ak kk .double (1024 : Int32) [(.double (FP.l2d (kf q.a))), (.double (FP.l2d (kf q.b))), (.double (FP.l2d (kf q.c))), (.double (FP.l2d (kf q.d))), (.double (FP.l2d (kf q.e)))] (.double (FP.l2d 0))) (hB : ∀ i, B53 (kf i)) (hlt : ∀ i j, i < 5 → j < 5 → (lt i j = true ↔ kf i < kf j)) (hqa : q.a < 5) (hqb : q.b < 5) (hqn : hpop2 lt q = qn) :
    Con l (⟨"com/example/pedestrain/pedestrain/core/CellHeap", "pop", "()I"⟩ : MethodName) prog_4_method_6_code 7 (some .int) ({ frames := 0, cells := 0, slots := 0, locals := 0 } : Room) Z #[(.ref a)] h0 (fun v h L => v = some (.int (cf q.a)) ∧ Fr Z.heap.size L ∧ Keep h0 h [a, ac, ak] ∧ Fld Z h a "com/example/pedestrain/pedestrain/core/CellHeap" "cells" "[I" (.ref ac) ∧ Fld Z h a "com/example/pedestrain/pedestrain/core/CellHeap" "keys" "[D" (.ref ak) ∧ Fld Z h a "com/example/pedestrain/pedestrain/core/CellHeap" "size" "I" (.int (1 : Int32)) ∧ Arv Z h ac kc .int (1024 : Int32) [(.int (cf qn.a)), (.int (cf qn.b)), (.int (cf qn.c)), (.int (cf qn.d)), (.int (cf qn.e))] (.int 0) ∧ Arv Z h ak kk .double (1024 : Int32) [(.double (FP.l2d (kf qn.a))), (.double (FP.l2d (kf qn.b))), (.double (FP.l2d (kf qn.c))), (.double (FP.l2d (kf qn.d))), (.double (FP.l2d (kf qn.e)))] (.double (FP.l2d 0))) := by
  refine Con.of (plainFor_of_name pn_1) (Ls := #[rv a, .unset, .unset, .unset, .unset, .unset, .unset]) (fun m => efOf rfl) ?_
  intro p e s m below meth c T0 X0 hx hZ hby hml hown hnm hret hlk e0
  refine go (fun _ => XS.aloadN X0.here hx rfl (hb hby d3_0) rfl rfl) ?_
  show Ends p e below _ T0 (mkF m 1 #[rv a, .unset, .unset, .unset, .unset, .unset, .unset] [(.ref a)])
  obtain ⟨T718, X718, e718, s718⟩ := getF X0 hx hZ hown (host := "") (Or.inl (hwi hw 14 rfl)) Via.refl e0 F1 (g := (mkF m 1 #[rv a, .unset, .unset, .unset, .unset, .unset, .unset] [(.ref a)])) rfl rfl (hb hby d3_1)
  refine go s718 ?_
  show Ends p e below _ T718 (mkF m 4 #[rv a, .unset, .unset, .unset, .unset, .unset, .unset] [(.ref ac)])
  refine go (fun _ => XT.iconstV X718.here hx rfl (0 : Int32) (hb hby d3_4) (by decide)) ?_
  show Ends p e below _ T718 (mkF m 5 #[rv a, .unset, .unset, .unset, .unset, .unset, .unset] [(.int (0 : Int32)), (.ref ac)])
  obtain ⟨cl719, A719, -, S719, M719, H719, -⟩ := id Vc
  have B719 := inb_of S719 (j := (0 : Int32)) (by decide)
  refine go (fun _ => X718.iaload hx (j := (0 : Int32)) (v := (.int (cf q.a))) (by rw [e718]; exact A719.1) (State.isArrayOf_alike hZ.alike A719.2.1) A719.2.2 B719 (H719.at B719 rfl) (g := (mkF m 5 #[rv a, .unset, .unset, .unset, .unset, .unset, .unset] [(.int (0 : Int32)), (.ref ac)])) rfl rfl (hb hby d3_5) _) ?_
  show Ends p e below _ T718 (mkF m 6 #[rv a, .unset, .unset, .unset, .unset, .unset, .unset] [(.int (cf q.a))])
  refine go (fun _ => XS.istoreN X718.here hx rfl (hb hby d3_6) rfl (l' := #[rv a, iv (cf q.a), .unset, .unset, .unset, .unset, .unset]) rfl) ?_
  refine go (fun _ => XS.aloadN X718.here hx rfl (hb hby d3_7) rfl rfl) ?_
  refine go (fun _ => XS.dup X718.here hx rfl (hb hby d3_8) rfl rfl) ?_
  show Ends p e below _ T718 (mkF m 9 #[rv a, iv (cf q.a), .unset, .unset, .unset, .unset, .unset] [(.ref a), (.ref a)])
  obtain ⟨T720, X720, e720, s720⟩ := getF X718 hx hZ hown (host := "") (Or.inl (hwi hw 24 rfl)) Via.refl e718 F3 (g := (mkF m 9 #[rv a, iv (cf q.a), .unset, .unset, .unset, .unset, .unset] [(.ref a), (.ref a)])) rfl rfl (hb hby d3_9)
  refine go s720 ?_
  show Ends p e below _ T720 (mkF m 12 #[rv a, iv (cf q.a), .unset, .unset, .unset, .unset, .unset] [(.int (2 : Int32)), (.ref a)])
  refine go (fun _ => XT.iconstV X720.here hx rfl (1 : Int32) (hb hby d3_12) (by decide)) ?_
  refine go (fun _ => XS.isub X720.here hx rfl (hb hby d3_13) rfl) ?_
  show Ends p e below _ T720 (mkF m 14 #[rv a, iv (cf q.a), .unset, .unset, .unset, .unset, .unset] [(.int (1 : Int32)), (.ref a)])
  obtain ⟨T721, h721, X721, e721, W721, s721⟩ := putF X720 hx hZ hown (host := "") (Or.inl (hwi hw 24 rfl)) Via.refl e720 F3 E0 (Or.inl (hwi hw 25 rfl)) (hwi hw 6 rfl) (ty := .int) (by decide) rfl rfl (g := (mkF m 14 #[rv a, iv (cf q.a), .unset, .unset, .unset, .unset, .unset] [(.int (1 : Int32)), (.ref a)])) rfl rfl (hb hby d3_14)
  have N721 := Fr.snoc X721 (Fr.nil _) f0
  have O722 : Ext Z.heap h721 := xw O0 W721 f0
  refine go s721 ?_
  show Ends p e below _ T721 (mkF m 17 #[rv a, iv (cf q.a), .unset, .unset, .unset, .unset, .unset] [])
  refine go (fun _ => XS.aloadN X721.here hx rfl (hb hby d3_17) rfl rfl) ?_
  show Ends p e below _ T721 (mkF m 18 #[rv a, iv (cf q.a), .unset, .unset, .unset, .unset, .unset] [(.ref a)])
  have F723 := (Fld.other W721 F1 (Or.inr (slot_ne (a0 := a0) (Or.inl (hwi hw 15 rfl)) (Or.inl (hwi hw 25 rfl)) (by decide) (t := (.array .int)) (t' := .int) (by decide) (by decide))))
  obtain ⟨T724, X724, e724, s724⟩ := getF X721 hx hZ hown (host := "") (Or.inl (hwi hw 14 rfl)) Via.refl e721 F723 (g := (mkF m 18 #[rv a, iv (cf q.a), .unset, .unset, .unset, .unset, .unset] [(.ref a)])) rfl rfl (hb hby d3_18)
  refine go s724 ?_
  show Ends p e below _ T724 (mkF m 21 #[rv a, iv (cf q.a), .unset, .unset, .unset, .unset, .unset] [(.ref ac)])
  refine go (fun _ => XS.aloadN X724.here hx rfl (hb hby d3_21) rfl rfl) ?_
  show Ends p e below _ T724 (mkF m 22 #[rv a, iv (cf q.a), .unset, .unset, .unset, .unset, .unset] [(.ref a), (.ref ac)])
  have F725 := (Fld.same W721 F3)
  obtain ⟨T726, X726, e726, s726⟩ := getF X724 hx hZ hown (host := "") (Or.inl (hwi hw 24 rfl)) Via.refl e724 F725 (g := (mkF m 22 #[rv a, iv (cf q.a), .unset, .unset, .unset, .unset, .unset] [(.ref a), (.ref ac)])) rfl rfl (hb hby d3_22)
  refine go s726 ?_
  show Ends p e below _ T726 (mkF m 25 #[rv a, iv (cf q.a), .unset, .unset, .unset, .unset, .unset] [(.int (1 : Int32)), (.ref ac)])
  have F727 := (Arv.other Vc W721 (Ne.symm n1))
  obtain ⟨cl728, A728, -, S728, M728, H728, -⟩ := id F727
  have B728 := inb_of S728 (j := (1 : Int32)) (by decide)
  refine go (fun _ => X726.iaload hx (j := (1 : Int32)) (v := (.int (cf q.b))) (by rw [e726]; exact A728.1) (State.isArrayOf_alike hZ.alike A728.2.1) A728.2.2 B728 (H728.at B728 rfl) (g := (mkF m 25 #[rv a, iv (cf q.a), .unset, .unset, .unset, .unset, .unset] [(.int (1 : Int32)), (.ref ac)])) rfl rfl (hb hby d3_25) _) ?_
  show Ends p e below _ T726 (mkF m 26 #[rv a, iv (cf q.a), .unset, .unset, .unset, .unset, .unset] [(.int (cf q.b))])
  refine go (fun _ => XS.istoreN X726.here hx rfl (hb hby d3_26) rfl (l' := #[rv a, iv (cf q.a), iv (cf q.b), .unset, .unset, .unset, .unset]) rfl) ?_
  refine go (fun _ => XS.aloadN X726.here hx rfl (hb hby d3_27) rfl rfl) ?_
  show Ends p e below _ T726 (mkF m 28 #[rv a, iv (cf q.a), iv (cf q.b), .unset, .unset, .unset, .unset] [(.ref a)])
  have F729 := (Fld.other W721 F2 (Or.inr (slot_ne (a0 := a0) (Or.inl (hwi hw 18 rfl)) (Or.inl (hwi hw 25 rfl)) (by decide) (t := (.array .double)) (t' := .int) (by decide) (by decide))))
  obtain ⟨T730, X730, e730, s730⟩ := getF X726 hx hZ hown (host := "") (Or.inl (hwi hw 17 rfl)) Via.refl e726 F729 (g := (mkF m 28 #[rv a, iv (cf q.a), iv (cf q.b), .unset, .unset, .unset, .unset] [(.ref a)])) rfl rfl (hb hby d3_28)
  refine go s730 ?_
  show Ends p e below _ T730 (mkF m 31 #[rv a, iv (cf q.a), iv (cf q.b), .unset, .unset, .unset, .unset] [(.ref ak)])
  refine go (fun _ => XS.aloadN X730.here hx rfl (hb hby d3_31) rfl rfl) ?_
  show Ends p e below _ T730 (mkF m 32 #[rv a, iv (cf q.a), iv (cf q.b), .unset, .unset, .unset, .unset] [(.ref a), (.ref ak)])
  obtain ⟨T731, X731, e731, s731⟩ := getF X730 hx hZ hown (host := "") (Or.inl (hwi hw 24 rfl)) Via.refl e730 F725 (g := (mkF m 32 #[rv a, iv (cf q.a), iv (cf q.b), .unset, .unset, .unset, .unset] [(.ref a), (.ref ak)])) rfl rfl (hb hby d3_32)
  refine go s731 ?_
  show Ends p e below _ T731 (mkF m 35 #[rv a, iv (cf q.a), iv (cf q.b), .unset, .unset, .unset, .unset] [(.int (1 : Int32)), (.ref ak)])
  have F732 := (Arv.other Vk W721 (Ne.symm n2))
  obtain ⟨cl733, A733, -, S733, M733, H733, -⟩ := id F732
  have B733 := inb_of S733 (j := (1 : Int32)) (by decide)
  refine go (fun _ => X731.daload hx (j := (1 : Int32)) (v := (.double (FP.l2d (kf q.b)))) (by rw [e731]; exact A733.1) (State.isArrayOf_alike hZ.alike A733.2.1) A733.2.2 B733 (H733.at B733 rfl) (g := (mkF m 35 #[rv a, iv (cf q.a), iv (cf q.b), .unset, .unset, .unset, .unset] [(.int (1 : Int32)), (.ref ak)])) rfl rfl (hb hby d3_35) _) ?_
  show Ends p e below _ T731 (mkF m 36 #[rv a, iv (cf q.a), iv (cf q.b), .unset, .unset, .unset, .unset] [(.double (FP.l2d (kf q.b)))])
  refine go (fun _ => XS.dstoreN X731.here hx rfl (hb hby d3_36) rfl (l' := #[rv a, iv (cf q.a), iv (cf q.b), .val (.double (FP.l2d (kf q.b))), .second, .unset, .unset]) rfl) ?_
  show Ends p e below _ T731 (mkF m 37 #[rv a, iv (cf q.a), iv (cf q.b), .val (.double (FP.l2d (kf q.b))), .second, .unset, .unset] [])
  refine go (fun _ => XT.iconstV X731.here hx rfl (0 : Int32) (hb hby d3_37) (by decide)) ?_
  refine go (fun _ => XS.istore X731.here hx rfl (hb hby d3_38) rfl (l' := #[rv a, iv (cf q.a), iv (cf q.b), .val (.double (FP.l2d (kf q.b))), .second, iv (0 : Int32), .unset]) rfl) ?_
  refine go (fun _ => XT.iconstV X731.here hx rfl (2 : Int32) (hb hby d3_40) (by decide)) ?_
  refine go (fun _ => XS.iload X731.here hx rfl (hb hby d3_41) rfl) ?_
  refine go (fun _ => XS.imul X731.here hx rfl (hb hby d3_43) rfl) ?_
  refine go (fun _ => XT.iconstV X731.here hx rfl (1 : Int32) (hb hby d3_44) (by decide)) ?_
  show Ends p e below _ T731 (mkF m 45 #[rv a, iv (cf q.a), iv (cf q.b), .val (.double (FP.l2d (kf q.b))), .second, iv (0 : Int32), .unset] [(.int (1 : Int32)), (.int (0 : Int32))])
  refine go (fun _ => XS.iadd X731.here hx rfl (hb hby d3_45) rfl) ?_
  refine go (fun _ => XS.istore X731.here hx rfl (hb hby d3_46) rfl (l' := #[rv a, iv (cf q.a), iv (cf q.b), .val (.double (FP.l2d (kf q.b))), .second, iv (0 : Int32), iv (1 : Int32)]) rfl) ?_
  refine go (fun _ => XS.iload X731.here hx rfl (hb hby d3_48) rfl) ?_
  refine go (fun _ => XS.aloadN X731.here hx rfl (hb hby d3_50) rfl rfl) ?_
  show Ends p e below _ T731 (mkF m 51 #[rv a, iv (cf q.a), iv (cf q.b), .val (.double (FP.l2d (kf q.b))), .second, iv (0 : Int32), iv (1 : Int32)] [(.ref a), (.int (1 : Int32))])
  obtain ⟨T734, X734, e734, s734⟩ := getF X731 hx hZ hown (host := "") (Or.inl (hwi hw 24 rfl)) Via.refl e731 F725 (g := (mkF m 51 #[rv a, iv (cf q.a), iv (cf q.b), .val (.double (FP.l2d (kf q.b))), .second, iv (0 : Int32), iv (1 : Int32)] [(.ref a), (.int (1 : Int32))])) rfl rfl (hb hby d3_51)
  refine go s734 ?_
  show Ends p e below _ T734 (mkF m 54 #[rv a, iv (cf q.a), iv (cf q.b), .val (.double (FP.l2d (kf q.b))), .second, iv (0 : Int32), iv (1 : Int32)] [(.int (1 : Int32)), (.int (1 : Int32))])
  refine go (fun _ => XS.icmpNo X734.here hx rfl (hb hby d3_54) rfl (XT.ii_lt_f ((by decide) : ¬ ((1 : Int32) < (1 : Int32))))) ?_
  show Ends p e below _ T734 (mkF m 57 #[rv a, iv (cf q.a), iv (cf q.b), .val (.double (FP.l2d (kf q.b))), .second, iv (0 : Int32), iv (1 : Int32)] [])
  refine go (fun _ => XS.goto X734.here hx rfl (pc0 := 57) (pc' := 144) rfl (hb hby d3_57) (by decide) (by decide)) ?_
  refine go (fun _ => XS.aloadN X734.here hx rfl (hb hby d3_144) rfl rfl) ?_
  show Ends p e below _ T734 (mkF m 145 #[rv a, iv (cf q.a), iv (cf q.b), .val (.double (FP.l2d (kf q.b))), .second, iv (0 : Int32), iv (1 : Int32)] [(.ref a)])
  obtain ⟨T735, X735, e735, s735⟩ := getF X734 hx hZ hown (host := "") (Or.inl (hwi hw 14 rfl)) Via.refl e734 F723 (g := (mkF m 145 #[rv a, iv (cf q.a), iv (cf q.b), .val (.double (FP.l2d (kf q.b))), .second, iv (0 : Int32), iv (1 : Int32)] [(.ref a)])) rfl rfl (hb hby d3_145)
  refine go s735 ?_
  show Ends p e below _ T735 (mkF m 148 #[rv a, iv (cf q.a), iv (cf q.b), .val (.double (FP.l2d (kf q.b))), .second, iv (0 : Int32), iv (1 : Int32)] [(.ref ac)])
  refine go (fun _ => XS.iload X735.here hx rfl (hb hby d3_148) rfl) ?_
  refine go (fun _ => XS.iloadN X735.here hx rfl (hb hby d3_150) rfl) ?_
  show Ends p e below _ T735 (mkF m 151 #[rv a, iv (cf q.a), iv (cf q.b), .val (.double (FP.l2d (kf q.b))), .second, iv (0 : Int32), iv (1 : Int32)] [(.int (cf q.b)), (.int (0 : Int32)), (.ref ac)])
  obtain ⟨cl736, A736, q736, S736, M736, H736, G736⟩ := id F727
  obtain ⟨T736, h736, X736, e736, W736, s736⟩ := stI X735 hx hZ e735 A736 (j := (0 : Int32)) (inb_of S736 (by decide)) (g := (mkF m 151 #[rv a, iv (cf q.a), iv (cf q.b), .val (.double (FP.l2d (kf q.b))), .second, iv (0 : Int32), iv (1 : Int32)] [(.int (cf q.b)), (.int (0 : Int32)), (.ref ac)])) rfl rfl (hb hby d3_151)
  have N736 := Fr.snoc X736 N721 fc
  have O737 : Ext Z.heap h736 := xw O722 W736 fc
  have V736 : Arv Z h736 ac kc .int (1024 : Int32) [(.int (cf q.b)), (.int (cf q.b)), (.int (cf q.c)), (.int (cf q.d)), (.int (cf q.e))] (.int 0) := Arv.set A736 q736 S736 M736 H736 G736 rfl W736 0 (by decide) (Nat.le_of_ble_eq_true rfl)
  refine go s736 ?_
  show Ends p e below _ T736 (mkF m 152 #[rv a, iv (cf q.a), iv (cf q.b), .val (.double (FP.l2d (kf q.b))), .second, iv (0 : Int32), iv (1 : Int32)] [])
  refine go (fun _ => XS.aloadN X736.here hx rfl (hb hby d3_152) rfl rfl) ?_
  show Ends p e below _ T736 (mkF m 153 #[rv a, iv (cf q.a), iv (cf q.b), .val (.double (FP.l2d (kf q.b))), .second, iv (0 : Int32), iv (1 : Int32)] [(.ref a)])
  have F738 := (Fld.other W736 F729 (Or.inl n1))
  obtain ⟨T739, X739, e739, s739⟩ := getF X736 hx hZ hown (host := "") (Or.inl (hwi hw 17 rfl)) Via.refl e736 F738 (g := (mkF m 153 #[rv a, iv (cf q.a), iv (cf q.b), .val (.double (FP.l2d (kf q.b))), .second, iv (0 : Int32), iv (1 : Int32)] [(.ref a)])) rfl rfl (hb hby d3_153)
  refine go s739 ?_
  show Ends p e below _ T739 (mkF m 156 #[rv a, iv (cf q.a), iv (cf q.b), .val (.double (FP.l2d (kf q.b))), .second, iv (0 : Int32), iv (1 : Int32)] [(.ref ak)])
  refine go (fun _ => XS.iload X739.here hx rfl (hb hby d3_156) rfl) ?_
  show Ends p e below _ T739 (mkF m 158 #[rv a, iv (cf q.a), iv (cf q.b), .val (.double (FP.l2d (kf q.b))), .second, iv (0 : Int32), iv (1 : Int32)] [(.int (0 : Int32)), (.ref ak)])
  refine go (fun _ => XS.dloadN X739.here hx rfl (hb hby d3_158) rfl) ?_
  show Ends p e below _ T739 (mkF m 159 #[rv a, iv (cf q.a), iv (cf q.b), .val (.double (FP.l2d (kf q.b))), .second, iv (0 : Int32), iv (1 : Int32)] [(.double (FP.l2d (kf q.b))), (.int (0 : Int32)), (.ref ak)])
  have F740 := (Arv.other F732 W736 (Ne.symm n3))
  obtain ⟨cl741, A741, q741, S741, M741, H741, G741⟩ := id F740
  obtain ⟨T741, h741, X741, e741, W741, s741⟩ := stD X739 hx hZ e739 A741 (j := (0 : Int32)) (inb_of S741 (by decide)) (g := (mkF m 159 #[rv a, iv (cf q.a), iv (cf q.b), .val (.double (FP.l2d (kf q.b))), .second, iv (0 : Int32), iv (1 : Int32)] [(.double (FP.l2d (kf q.b))), (.int (0 : Int32)), (.ref ak)])) rfl rfl (hb hby d3_159)
  have N741 := Fr.snoc X741 N736 fk
  have O742 : Ext Z.heap h741 := xw O737 W741 fk
  have V741 : Arv Z h741 ak kk .double (1024 : Int32) [(.double (FP.l2d (kf q.b))), (.double (FP.l2d (kf q.b))), (.double (FP.l2d (kf q.c))), (.double (FP.l2d (kf q.d))), (.double (FP.l2d (kf q.e)))] (.double (FP.l2d 0)) := Arv.set A741 q741 S741 M741 H741 G741 rfl W741 0 (by decide) (Nat.le_of_ble_eq_true rfl)
  refine go s741 ?_
  show Ends p e below _ T741 (mkF m 160 #[rv a, iv (cf q.a), iv (cf q.b), .val (.double (FP.l2d (kf q.b))), .second, iv (0 : Int32), iv (1 : Int32)] [])
  refine go (fun _ => XS.iloadN X741.here hx rfl (hb hby d3_160) rfl) ?_
  show Ends p e below _ T741 (mkF m 161 #[rv a, iv (cf q.a), iv (cf q.b), .val (.double (FP.l2d (kf q.b))), .second, iv (0 : Int32), iv (1 : Int32)] [(.int (cf q.a))])
  have z743 : qn = (⟨q.b, q.b, q.c, q.d, q.e⟩ : L5) := hqn.symm.trans (by simp only [hpop2, if_true, if_false, Bool.false_eq_true])
  have F744 := (Arv.other V736 W741 n3)
  have K745 : Keep h0 h741 [a, ac, ak] := (Keep.wr (Keep.wr (Keep.wr (Keep.refl _ _) W721 (Or.inl (List.mem_of_getElem? (i := 0) rfl))) W736 (Or.inl (List.mem_of_getElem? (i := 1) rfl))) W741 (Or.inl (List.mem_of_getElem? (i := 2) rfl)))
  have F746 := (Fld.other W741 (Fld.other W736 F723 (Or.inl n1)) (Or.inl n2))
  have F747 := (Fld.other W741 F738 (Or.inl n2))
  have F748 := (Fld.other W741 (Fld.other W736 F725 (Or.inl n1)) (Or.inl n2))
  exact endI X741 hx hret (hb hby d3_161) (lvN X741 hlk e741 (fun h => by rw [hret] at h; cases h) ⟨rfl, N741, K745, F746, F747, F748, by rw [z743]; exact F744, by rw [z743]; exact V741⟩ (by decide) (by decide))
set_option maxRecDepth 65536 in
set_option maxHeartbeats 40000000 in
theorem rm_pop1 {l : Launch} {Z : State} {a0 : Array Value} (hw : ∀ d ∈ tables_1, d.before a0 Z = true) (a ac ak : Addr) (kc kk : ClassId) (cf : Nat → Int32) (kf : Nat → Int64) (lt : Nat → Nat → Bool) (q qn : L5) (h0 : Heap) (O0 : Ext Z.heap h0) (f0 : Z.heap.size ≤ a) (fc : Z.heap.size ≤ ac) (fk : Z.heap.size ≤ ak) (n1 : a ≠ ac) (n2 : a ≠ ak) (n3 : ac ≠ ak) (E0 : Exa Z h0 a "com/example/pedestrain/pedestrain/core/CellHeap") (F1 : Fld Z h0 a "com/example/pedestrain/pedestrain/core/CellHeap" "cells" "[I" (.ref ac)) (F2 : Fld Z h0 a "com/example/pedestrain/pedestrain/core/CellHeap" "keys" "[D" (.ref ak)) (F3 : Fld Z h0 a "com/example/pedestrain/pedestrain/core/CellHeap" "size" "I" (.int (1 : Int32))) (Vc : Arv Z h0 ac kc .int (1024 : Int32) [(.int (cf q.a)), (.int (cf q.b)), (.int (cf q.c)), (.int (cf q.d)), (.int (cf q.e))] (.int 0)) (Vk : Arv Z h0 ak kk .double (1024 : Int32) [(.double (FP.l2d (kf q.a))), (.double (FP.l2d (kf q.b))), (.double (FP.l2d (kf q.c))), (.double (FP.l2d (kf q.d))), (.double (FP.l2d (kf q.e)))] (.double (FP.l2d 0))) (hB : ∀ i, B53 (kf i)) (hlt : ∀ i j, i < 5 → j < 5 → (lt i j = true ↔ kf i < kf j)) (hqa : q.a < 5) (hqn : hpop1 lt q = qn) :
    Con l (⟨"com/example/pedestrain/pedestrain/core/CellHeap", "pop", "()I"⟩ : MethodName) prog_4_method_6_code 7 (some .int) ({ frames := 0, cells := 0, slots := 0, locals := 0 } : Room) Z #[(.ref a)] h0 (fun v h L => v = some (.int (cf q.a)) ∧ Fr Z.heap.size L ∧ Keep h0 h [a, ac, ak] ∧ Fld Z h a "com/example/pedestrain/pedestrain/core/CellHeap" "cells" "[I" (.ref ac) ∧ Fld Z h a "com/example/pedestrain/pedestrain/core/CellHeap" "keys" "[D" (.ref ak) ∧ Fld Z h a "com/example/pedestrain/pedestrain/core/CellHeap" "size" "I" (.int (0 : Int32)) ∧ Arv Z h ac kc .int (1024 : Int32) [(.int (cf qn.a)), (.int (cf qn.b)), (.int (cf qn.c)), (.int (cf qn.d)), (.int (cf qn.e))] (.int 0) ∧ Arv Z h ak kk .double (1024 : Int32) [(.double (FP.l2d (kf qn.a))), (.double (FP.l2d (kf qn.b))), (.double (FP.l2d (kf qn.c))), (.double (FP.l2d (kf qn.d))), (.double (FP.l2d (kf qn.e)))] (.double (FP.l2d 0))) := by
  refine Con.of (plainFor_of_name pn_1) (Ls := #[rv a, .unset, .unset, .unset, .unset, .unset, .unset]) (fun m => efOf rfl) ?_
  intro p e s m below meth c T0 X0 hx hZ hby hml hown hnm hret hlk e0
  refine go (fun _ => XS.aloadN X0.here hx rfl (hb hby d3_0) rfl rfl) ?_
  show Ends p e below _ T0 (mkF m 1 #[rv a, .unset, .unset, .unset, .unset, .unset, .unset] [(.ref a)])
  obtain ⟨T749, X749, e749, s749⟩ := getF X0 hx hZ hown (host := "") (Or.inl (hwi hw 14 rfl)) Via.refl e0 F1 (g := (mkF m 1 #[rv a, .unset, .unset, .unset, .unset, .unset, .unset] [(.ref a)])) rfl rfl (hb hby d3_1)
  refine go s749 ?_
  show Ends p e below _ T749 (mkF m 4 #[rv a, .unset, .unset, .unset, .unset, .unset, .unset] [(.ref ac)])
  refine go (fun _ => XT.iconstV X749.here hx rfl (0 : Int32) (hb hby d3_4) (by decide)) ?_
  show Ends p e below _ T749 (mkF m 5 #[rv a, .unset, .unset, .unset, .unset, .unset, .unset] [(.int (0 : Int32)), (.ref ac)])
  obtain ⟨cl750, A750, -, S750, M750, H750, -⟩ := id Vc
  have B750 := inb_of S750 (j := (0 : Int32)) (by decide)
  refine go (fun _ => X749.iaload hx (j := (0 : Int32)) (v := (.int (cf q.a))) (by rw [e749]; exact A750.1) (State.isArrayOf_alike hZ.alike A750.2.1) A750.2.2 B750 (H750.at B750 rfl) (g := (mkF m 5 #[rv a, .unset, .unset, .unset, .unset, .unset, .unset] [(.int (0 : Int32)), (.ref ac)])) rfl rfl (hb hby d3_5) _) ?_
  show Ends p e below _ T749 (mkF m 6 #[rv a, .unset, .unset, .unset, .unset, .unset, .unset] [(.int (cf q.a))])
  refine go (fun _ => XS.istoreN X749.here hx rfl (hb hby d3_6) rfl (l' := #[rv a, iv (cf q.a), .unset, .unset, .unset, .unset, .unset]) rfl) ?_
  refine go (fun _ => XS.aloadN X749.here hx rfl (hb hby d3_7) rfl rfl) ?_
  refine go (fun _ => XS.dup X749.here hx rfl (hb hby d3_8) rfl rfl) ?_
  show Ends p e below _ T749 (mkF m 9 #[rv a, iv (cf q.a), .unset, .unset, .unset, .unset, .unset] [(.ref a), (.ref a)])
  obtain ⟨T751, X751, e751, s751⟩ := getF X749 hx hZ hown (host := "") (Or.inl (hwi hw 24 rfl)) Via.refl e749 F3 (g := (mkF m 9 #[rv a, iv (cf q.a), .unset, .unset, .unset, .unset, .unset] [(.ref a), (.ref a)])) rfl rfl (hb hby d3_9)
  refine go s751 ?_
  show Ends p e below _ T751 (mkF m 12 #[rv a, iv (cf q.a), .unset, .unset, .unset, .unset, .unset] [(.int (1 : Int32)), (.ref a)])
  refine go (fun _ => XT.iconstV X751.here hx rfl (1 : Int32) (hb hby d3_12) (by decide)) ?_
  refine go (fun _ => XS.isub X751.here hx rfl (hb hby d3_13) rfl) ?_
  show Ends p e below _ T751 (mkF m 14 #[rv a, iv (cf q.a), .unset, .unset, .unset, .unset, .unset] [(.int (0 : Int32)), (.ref a)])
  obtain ⟨T752, h752, X752, e752, W752, s752⟩ := putF X751 hx hZ hown (host := "") (Or.inl (hwi hw 24 rfl)) Via.refl e751 F3 E0 (Or.inl (hwi hw 25 rfl)) (hwi hw 6 rfl) (ty := .int) (by decide) rfl rfl (g := (mkF m 14 #[rv a, iv (cf q.a), .unset, .unset, .unset, .unset, .unset] [(.int (0 : Int32)), (.ref a)])) rfl rfl (hb hby d3_14)
  have N752 := Fr.snoc X752 (Fr.nil _) f0
  have O753 : Ext Z.heap h752 := xw O0 W752 f0
  refine go s752 ?_
  show Ends p e below _ T752 (mkF m 17 #[rv a, iv (cf q.a), .unset, .unset, .unset, .unset, .unset] [])
  refine go (fun _ => XS.aloadN X752.here hx rfl (hb hby d3_17) rfl rfl) ?_
  show Ends p e below _ T752 (mkF m 18 #[rv a, iv (cf q.a), .unset, .unset, .unset, .unset, .unset] [(.ref a)])
  have F754 := (Fld.other W752 F1 (Or.inr (slot_ne (a0 := a0) (Or.inl (hwi hw 15 rfl)) (Or.inl (hwi hw 25 rfl)) (by decide) (t := (.array .int)) (t' := .int) (by decide) (by decide))))
  obtain ⟨T755, X755, e755, s755⟩ := getF X752 hx hZ hown (host := "") (Or.inl (hwi hw 14 rfl)) Via.refl e752 F754 (g := (mkF m 18 #[rv a, iv (cf q.a), .unset, .unset, .unset, .unset, .unset] [(.ref a)])) rfl rfl (hb hby d3_18)
  refine go s755 ?_
  show Ends p e below _ T755 (mkF m 21 #[rv a, iv (cf q.a), .unset, .unset, .unset, .unset, .unset] [(.ref ac)])
  refine go (fun _ => XS.aloadN X755.here hx rfl (hb hby d3_21) rfl rfl) ?_
  show Ends p e below _ T755 (mkF m 22 #[rv a, iv (cf q.a), .unset, .unset, .unset, .unset, .unset] [(.ref a), (.ref ac)])
  have F756 := (Fld.same W752 F3)
  obtain ⟨T757, X757, e757, s757⟩ := getF X755 hx hZ hown (host := "") (Or.inl (hwi hw 24 rfl)) Via.refl e755 F756 (g := (mkF m 22 #[rv a, iv (cf q.a), .unset, .unset, .unset, .unset, .unset] [(.ref a), (.ref ac)])) rfl rfl (hb hby d3_22)
  refine go s757 ?_
  show Ends p e below _ T757 (mkF m 25 #[rv a, iv (cf q.a), .unset, .unset, .unset, .unset, .unset] [(.int (0 : Int32)), (.ref ac)])
  have F758 := (Arv.other Vc W752 (Ne.symm n1))
  obtain ⟨cl759, A759, -, S759, M759, H759, -⟩ := id F758
  have B759 := inb_of S759 (j := (0 : Int32)) (by decide)
  refine go (fun _ => X757.iaload hx (j := (0 : Int32)) (v := (.int (cf q.a))) (by rw [e757]; exact A759.1) (State.isArrayOf_alike hZ.alike A759.2.1) A759.2.2 B759 (H759.at B759 rfl) (g := (mkF m 25 #[rv a, iv (cf q.a), .unset, .unset, .unset, .unset, .unset] [(.int (0 : Int32)), (.ref ac)])) rfl rfl (hb hby d3_25) _) ?_
  show Ends p e below _ T757 (mkF m 26 #[rv a, iv (cf q.a), .unset, .unset, .unset, .unset, .unset] [(.int (cf q.a))])
  refine go (fun _ => XS.istoreN X757.here hx rfl (hb hby d3_26) rfl (l' := #[rv a, iv (cf q.a), iv (cf q.a), .unset, .unset, .unset, .unset]) rfl) ?_
  refine go (fun _ => XS.aloadN X757.here hx rfl (hb hby d3_27) rfl rfl) ?_
  show Ends p e below _ T757 (mkF m 28 #[rv a, iv (cf q.a), iv (cf q.a), .unset, .unset, .unset, .unset] [(.ref a)])
  have F760 := (Fld.other W752 F2 (Or.inr (slot_ne (a0 := a0) (Or.inl (hwi hw 18 rfl)) (Or.inl (hwi hw 25 rfl)) (by decide) (t := (.array .double)) (t' := .int) (by decide) (by decide))))
  obtain ⟨T761, X761, e761, s761⟩ := getF X757 hx hZ hown (host := "") (Or.inl (hwi hw 17 rfl)) Via.refl e757 F760 (g := (mkF m 28 #[rv a, iv (cf q.a), iv (cf q.a), .unset, .unset, .unset, .unset] [(.ref a)])) rfl rfl (hb hby d3_28)
  refine go s761 ?_
  show Ends p e below _ T761 (mkF m 31 #[rv a, iv (cf q.a), iv (cf q.a), .unset, .unset, .unset, .unset] [(.ref ak)])
  refine go (fun _ => XS.aloadN X761.here hx rfl (hb hby d3_31) rfl rfl) ?_
  show Ends p e below _ T761 (mkF m 32 #[rv a, iv (cf q.a), iv (cf q.a), .unset, .unset, .unset, .unset] [(.ref a), (.ref ak)])
  obtain ⟨T762, X762, e762, s762⟩ := getF X761 hx hZ hown (host := "") (Or.inl (hwi hw 24 rfl)) Via.refl e761 F756 (g := (mkF m 32 #[rv a, iv (cf q.a), iv (cf q.a), .unset, .unset, .unset, .unset] [(.ref a), (.ref ak)])) rfl rfl (hb hby d3_32)
  refine go s762 ?_
  show Ends p e below _ T762 (mkF m 35 #[rv a, iv (cf q.a), iv (cf q.a), .unset, .unset, .unset, .unset] [(.int (0 : Int32)), (.ref ak)])
  have F763 := (Arv.other Vk W752 (Ne.symm n2))
  obtain ⟨cl764, A764, -, S764, M764, H764, -⟩ := id F763
  have B764 := inb_of S764 (j := (0 : Int32)) (by decide)
  refine go (fun _ => X762.daload hx (j := (0 : Int32)) (v := (.double (FP.l2d (kf q.a)))) (by rw [e762]; exact A764.1) (State.isArrayOf_alike hZ.alike A764.2.1) A764.2.2 B764 (H764.at B764 rfl) (g := (mkF m 35 #[rv a, iv (cf q.a), iv (cf q.a), .unset, .unset, .unset, .unset] [(.int (0 : Int32)), (.ref ak)])) rfl rfl (hb hby d3_35) _) ?_
  show Ends p e below _ T762 (mkF m 36 #[rv a, iv (cf q.a), iv (cf q.a), .unset, .unset, .unset, .unset] [(.double (FP.l2d (kf q.a)))])
  refine go (fun _ => XS.dstoreN X762.here hx rfl (hb hby d3_36) rfl (l' := #[rv a, iv (cf q.a), iv (cf q.a), .val (.double (FP.l2d (kf q.a))), .second, .unset, .unset]) rfl) ?_
  show Ends p e below _ T762 (mkF m 37 #[rv a, iv (cf q.a), iv (cf q.a), .val (.double (FP.l2d (kf q.a))), .second, .unset, .unset] [])
  refine go (fun _ => XT.iconstV X762.here hx rfl (0 : Int32) (hb hby d3_37) (by decide)) ?_
  refine go (fun _ => XS.istore X762.here hx rfl (hb hby d3_38) rfl (l' := #[rv a, iv (cf q.a), iv (cf q.a), .val (.double (FP.l2d (kf q.a))), .second, iv (0 : Int32), .unset]) rfl) ?_
  refine go (fun _ => XT.iconstV X762.here hx rfl (2 : Int32) (hb hby d3_40) (by decide)) ?_
  refine go (fun _ => XS.iload X762.here hx rfl (hb hby d3_41) rfl) ?_
  refine go (fun _ => XS.imul X762.here hx rfl (hb hby d3_43) rfl) ?_
  refine go (fun _ => XT.iconstV X762.here hx rfl (1 : Int32) (hb hby d3_44) (by decide)) ?_
  show Ends p e below _ T762 (mkF m 45 #[rv a, iv (cf q.a), iv (cf q.a), .val (.double (FP.l2d (kf q.a))), .second, iv (0 : Int32), .unset] [(.int (1 : Int32)), (.int (0 : Int32))])
  refine go (fun _ => XS.iadd X762.here hx rfl (hb hby d3_45) rfl) ?_
  refine go (fun _ => XS.istore X762.here hx rfl (hb hby d3_46) rfl (l' := #[rv a, iv (cf q.a), iv (cf q.a), .val (.double (FP.l2d (kf q.a))), .second, iv (0 : Int32), iv (1 : Int32)]) rfl) ?_
  refine go (fun _ => XS.iload X762.here hx rfl (hb hby d3_48) rfl) ?_
  refine go (fun _ => XS.aloadN X762.here hx rfl (hb hby d3_50) rfl rfl) ?_
  show Ends p e below _ T762 (mkF m 51 #[rv a, iv (cf q.a), iv (cf q.a), .val (.double (FP.l2d (kf q.a))), .second, iv (0 : Int32), iv (1 : Int32)] [(.ref a), (.int (1 : Int32))])
  obtain ⟨T765, X765, e765, s765⟩ := getF X762 hx hZ hown (host := "") (Or.inl (hwi hw 24 rfl)) Via.refl e762 F756 (g := (mkF m 51 #[rv a, iv (cf q.a), iv (cf q.a), .val (.double (FP.l2d (kf q.a))), .second, iv (0 : Int32), iv (1 : Int32)] [(.ref a), (.int (1 : Int32))])) rfl rfl (hb hby d3_51)
  refine go s765 ?_
  show Ends p e below _ T765 (mkF m 54 #[rv a, iv (cf q.a), iv (cf q.a), .val (.double (FP.l2d (kf q.a))), .second, iv (0 : Int32), iv (1 : Int32)] [(.int (0 : Int32)), (.int (1 : Int32))])
  refine go (fun _ => XS.icmpNo X765.here hx rfl (hb hby d3_54) rfl (XT.ii_lt_f ((by decide) : ¬ ((1 : Int32) < (0 : Int32))))) ?_
  show Ends p e below _ T765 (mkF m 57 #[rv a, iv (cf q.a), iv (cf q.a), .val (.double (FP.l2d (kf q.a))), .second, iv (0 : Int32), iv (1 : Int32)] [])
  refine go (fun _ => XS.goto X765.here hx rfl (pc0 := 57) (pc' := 144) rfl (hb hby d3_57) (by decide) (by decide)) ?_
  refine go (fun _ => XS.aloadN X765.here hx rfl (hb hby d3_144) rfl rfl) ?_
  show Ends p e below _ T765 (mkF m 145 #[rv a, iv (cf q.a), iv (cf q.a), .val (.double (FP.l2d (kf q.a))), .second, iv (0 : Int32), iv (1 : Int32)] [(.ref a)])
  obtain ⟨T766, X766, e766, s766⟩ := getF X765 hx hZ hown (host := "") (Or.inl (hwi hw 14 rfl)) Via.refl e765 F754 (g := (mkF m 145 #[rv a, iv (cf q.a), iv (cf q.a), .val (.double (FP.l2d (kf q.a))), .second, iv (0 : Int32), iv (1 : Int32)] [(.ref a)])) rfl rfl (hb hby d3_145)
  refine go s766 ?_
  show Ends p e below _ T766 (mkF m 148 #[rv a, iv (cf q.a), iv (cf q.a), .val (.double (FP.l2d (kf q.a))), .second, iv (0 : Int32), iv (1 : Int32)] [(.ref ac)])
  refine go (fun _ => XS.iload X766.here hx rfl (hb hby d3_148) rfl) ?_
  refine go (fun _ => XS.iloadN X766.here hx rfl (hb hby d3_150) rfl) ?_
  show Ends p e below _ T766 (mkF m 151 #[rv a, iv (cf q.a), iv (cf q.a), .val (.double (FP.l2d (kf q.a))), .second, iv (0 : Int32), iv (1 : Int32)] [(.int (cf q.a)), (.int (0 : Int32)), (.ref ac)])
  obtain ⟨cl767, A767, q767, S767, M767, H767, G767⟩ := id F758
  obtain ⟨T767, h767, X767, e767, W767, s767⟩ := stI X766 hx hZ e766 A767 (j := (0 : Int32)) (inb_of S767 (by decide)) (g := (mkF m 151 #[rv a, iv (cf q.a), iv (cf q.a), .val (.double (FP.l2d (kf q.a))), .second, iv (0 : Int32), iv (1 : Int32)] [(.int (cf q.a)), (.int (0 : Int32)), (.ref ac)])) rfl rfl (hb hby d3_151)
  have N767 := Fr.snoc X767 N752 fc
  have O768 : Ext Z.heap h767 := xw O753 W767 fc
  have V767 : Arv Z h767 ac kc .int (1024 : Int32) [(.int (cf q.a)), (.int (cf q.b)), (.int (cf q.c)), (.int (cf q.d)), (.int (cf q.e))] (.int 0) := Arv.set A767 q767 S767 M767 H767 G767 rfl W767 0 (by decide) (Nat.le_of_ble_eq_true rfl)
  refine go s767 ?_
  show Ends p e below _ T767 (mkF m 152 #[rv a, iv (cf q.a), iv (cf q.a), .val (.double (FP.l2d (kf q.a))), .second, iv (0 : Int32), iv (1 : Int32)] [])
  refine go (fun _ => XS.aloadN X767.here hx rfl (hb hby d3_152) rfl rfl) ?_
  show Ends p e below _ T767 (mkF m 153 #[rv a, iv (cf q.a), iv (cf q.a), .val (.double (FP.l2d (kf q.a))), .second, iv (0 : Int32), iv (1 : Int32)] [(.ref a)])
  have F769 := (Fld.other W767 F760 (Or.inl n1))
  obtain ⟨T770, X770, e770, s770⟩ := getF X767 hx hZ hown (host := "") (Or.inl (hwi hw 17 rfl)) Via.refl e767 F769 (g := (mkF m 153 #[rv a, iv (cf q.a), iv (cf q.a), .val (.double (FP.l2d (kf q.a))), .second, iv (0 : Int32), iv (1 : Int32)] [(.ref a)])) rfl rfl (hb hby d3_153)
  refine go s770 ?_
  show Ends p e below _ T770 (mkF m 156 #[rv a, iv (cf q.a), iv (cf q.a), .val (.double (FP.l2d (kf q.a))), .second, iv (0 : Int32), iv (1 : Int32)] [(.ref ak)])
  refine go (fun _ => XS.iload X770.here hx rfl (hb hby d3_156) rfl) ?_
  show Ends p e below _ T770 (mkF m 158 #[rv a, iv (cf q.a), iv (cf q.a), .val (.double (FP.l2d (kf q.a))), .second, iv (0 : Int32), iv (1 : Int32)] [(.int (0 : Int32)), (.ref ak)])
  refine go (fun _ => XS.dloadN X770.here hx rfl (hb hby d3_158) rfl) ?_
  show Ends p e below _ T770 (mkF m 159 #[rv a, iv (cf q.a), iv (cf q.a), .val (.double (FP.l2d (kf q.a))), .second, iv (0 : Int32), iv (1 : Int32)] [(.double (FP.l2d (kf q.a))), (.int (0 : Int32)), (.ref ak)])
  have F771 := (Arv.other F763 W767 (Ne.symm n3))
  obtain ⟨cl772, A772, q772, S772, M772, H772, G772⟩ := id F771
  obtain ⟨T772, h772, X772, e772, W772, s772⟩ := stD X770 hx hZ e770 A772 (j := (0 : Int32)) (inb_of S772 (by decide)) (g := (mkF m 159 #[rv a, iv (cf q.a), iv (cf q.a), .val (.double (FP.l2d (kf q.a))), .second, iv (0 : Int32), iv (1 : Int32)] [(.double (FP.l2d (kf q.a))), (.int (0 : Int32)), (.ref ak)])) rfl rfl (hb hby d3_159)
  have N772 := Fr.snoc X772 N767 fk
  have O773 : Ext Z.heap h772 := xw O768 W772 fk
  have V772 : Arv Z h772 ak kk .double (1024 : Int32) [(.double (FP.l2d (kf q.a))), (.double (FP.l2d (kf q.b))), (.double (FP.l2d (kf q.c))), (.double (FP.l2d (kf q.d))), (.double (FP.l2d (kf q.e)))] (.double (FP.l2d 0)) := Arv.set A772 q772 S772 M772 H772 G772 rfl W772 0 (by decide) (Nat.le_of_ble_eq_true rfl)
  refine go s772 ?_
  show Ends p e below _ T772 (mkF m 160 #[rv a, iv (cf q.a), iv (cf q.a), .val (.double (FP.l2d (kf q.a))), .second, iv (0 : Int32), iv (1 : Int32)] [])
  refine go (fun _ => XS.iloadN X772.here hx rfl (hb hby d3_160) rfl) ?_
  show Ends p e below _ T772 (mkF m 161 #[rv a, iv (cf q.a), iv (cf q.a), .val (.double (FP.l2d (kf q.a))), .second, iv (0 : Int32), iv (1 : Int32)] [(.int (cf q.a))])
  have z774 : qn = (⟨q.a, q.b, q.c, q.d, q.e⟩ : L5) := hqn.symm.trans (by simp only [hpop1, if_true, if_false, Bool.false_eq_true])
  have F775 := (Arv.other V767 W772 n3)
  have K776 : Keep h0 h772 [a, ac, ak] := (Keep.wr (Keep.wr (Keep.wr (Keep.refl _ _) W752 (Or.inl (List.mem_of_getElem? (i := 0) rfl))) W767 (Or.inl (List.mem_of_getElem? (i := 1) rfl))) W772 (Or.inl (List.mem_of_getElem? (i := 2) rfl)))
  have F777 := (Fld.other W772 (Fld.other W767 F754 (Or.inl n1)) (Or.inl n2))
  have F778 := (Fld.other W772 F769 (Or.inl n2))
  have F779 := (Fld.other W772 (Fld.other W767 F756 (Or.inl n1)) (Or.inl n2))
  exact endI X772 hx hret (hb hby d3_161) (lvN X772 hlk e772 (fun h => by rw [hret] at h; cases h) ⟨rfl, N772, K776, F777, F778, F779, by rw [z774]; exact F775, by rw [z774]; exact V772⟩ (by decide) (by decide))
set_option maxRecDepth 65536 in
set_option maxHeartbeats 40000000 in
theorem rm_chie {l : Launch} {Z : State} {a0 : Array Value} (hw : ∀ d ∈ tables_1, d.before a0 Z = true) (a : Addr) (h0 : Heap) (F3 : Fld Z h0 a "com/example/pedestrain/pedestrain/core/CellHeap" "size" "I" (.int (0 : Int32))) :
    Con l (⟨"com/example/pedestrain/pedestrain/core/CellHeap", "isEmpty", "()Z"⟩ : MethodName) prog_4_method_2_code 1 (some .boolean) ({ frames := 0, cells := 0, slots := 0, locals := 0 } : Room) Z #[(.ref a)] h0 (fun v h L => v = some (.int 1) ∧ Fr Z.heap.size L ∧ h0 = h) := by
  refine Con.of (plainFor_of_name pn_1) (Ls := #[rv a]) (fun m => efOf rfl) ?_
  intro p e s m below meth c T0 X0 hx hZ hby hml hown hnm hret hlk e0
  refine go (fun _ => XS.aloadN X0.here hx rfl (hb hby d4_0) rfl rfl) ?_
  show Ends p e below _ T0 (mkF m 1 #[rv a] [(.ref a)])
  obtain ⟨T780, X780, e780, s780⟩ := getF X0 hx hZ hown (host := "") (Or.inl (hwi hw 24 rfl)) Via.refl e0 F3 (g := (mkF m 1 #[rv a] [(.ref a)])) rfl rfl (hb hby d4_1)
  refine go s780 ?_
  show Ends p e below _ T780 (mkF m 4 #[rv a] [(.int (0 : Int32))])
  refine go (fun _ => XS.ifNo X780.here hx rfl (hb hby d4_4) rfl (XT.i0_ne_f ((by decide) : (0 : Int32) = (0 : Int32)))) ?_
  show Ends p e below _ T780 (mkF m 7 #[rv a] [])
  refine go (fun _ => XT.iconstV X780.here hx rfl (1 : Int32) (hb hby d4_7) (by decide)) ?_
  refine go (fun _ => XS.goto X780.here hx rfl (pc0 := 8) (pc' := 12) rfl (hb hby d4_8) (by decide) (by decide)) ?_
  show Ends p e below _ T780 (mkF m 12 #[rv a] [(.int (1 : Int32))])
  exact endN X780 hx hret (by simp) (hb hby d4_12) (lvN X780 hlk e780 (fun h => by rw [hret] at h; cases h) ⟨by simp [nar], (Fr.nil _), rfl⟩ (by decide) (by decide))
set_option maxRecDepth 65536 in
set_option maxHeartbeats 40000000 in
theorem rm_law {l : Launch} {Z : State} {a0 : Array Value} (hw : ∀ d ∈ tables_1, d.before a0 Z = true) (i0 i1 i2 i3 i4 i5 : Int32) (h0 : Heap) (O0 : Ext Z.heap h0) :
    Con l x code maxLocals ret room_1 Z #[(.int i0), (.int i1), (.int i2), (.int i3), (.int i4), (.int i5)] h0 (fun v h L => v = some (.int 1) ∧ Fr Z.heap.size L) := by
  refine Con.of (plainFor_of_name pn_0) (Ls := #[iv i0, iv i1, iv i2, iv i3, iv i4, iv i5, .unset, .unset, .unset, .unset, .unset, .unset, .unset, .unset, .unset, .unset, .unset, .unset, .unset, .unset, .unset, .unset, .unset]) (fun m => efOf rfl) ?_
  intro p e s m below meth c T0 X0 hx hZ hby hml hown hnm hret hlk e0
  have hml : c.maxLocals = 23 := hml
  refine go (fun _ => XS.iload X0.here hx rfl (hb hby at_0) rfl) ?_
  refine go (fun _ => XT.bipushV X0.here hx rfl (7 : Int32) (hb hby at_2) (by decide)) ?_
  refine go (fun _ => XS.iand X0.here hx rfl (hb hby at_4) rfl) ?_
  refine go (fun _ => XT.iconstV X0.here hx rfl (3 : Int32) (hb hby at_5) (by decide)) ?_
  refine go (fun _ => XT.ishl X0.here hx rfl (hb hby at_6) rfl) ?_
  refine go (fun _ => XT.iconstV X0.here hx rfl (0 : Int32) (hb hby at_7) (by decide)) ?_
  show Ends p e below _ T0 (mkF m 8 #[iv i0, iv i1, iv i2, iv i3, iv i4, iv i5, .unset, .unset, .unset, .unset, .unset, .unset, .unset, .unset, .unset, .unset, .unset, .unset, .unset, .unset, .unset, .unset, .unset] [(.int (0 : Int32)), (.int ((i5 &&& (7 : Int32)) <<< ((3 : Int32) &&& 31)))])
  refine go (fun _ => XT.ior X0.here hx rfl (hb hby at_8) rfl) ?_
  show Ends p e below _ T0 (mkF m 9 #[iv i0, iv i1, iv i2, iv i3, iv i4, iv i5, .unset, .unset, .unset, .unset, .unset, .unset, .unset, .unset, .unset, .unset, .unset, .unset, .unset, .unset, .unset, .unset, .unset] [(.int (((i5 &&& (7 : Int32)) <<< ((3 : Int32) &&& 31)) ||| (0 : Int32)))])
  obtain ⟨k0, hk0⟩ : ∃ z : Int32, z = (((i5 &&& (7 : Int32)) <<< ((3 : Int32) &&& 31)) ||| (0 : Int32)) := ⟨_, rfl⟩
  rw [← hk0]
  show Ends p e below _ T0 (mkF m 9 #[iv i0, iv i1, iv i2, iv i3, iv i4, iv i5, .unset, .unset, .unset, .unset, .unset, .unset, .unset, .unset, .unset, .unset, .unset, .unset, .unset, .unset, .unset, .unset, .unset] [(.int k0)])
  refine go (fun _ => XS.istore X0.here hx rfl (hb hby at_9) rfl (l' := #[iv i0, iv i1, iv i2, iv i3, iv i4, iv i5, iv k0, .unset, .unset, .unset, .unset, .unset, .unset, .unset, .unset, .unset, .unset, .unset, .unset, .unset, .unset, .unset, .unset]) rfl) ?_
  refine go (fun _ => XS.iload X0.here hx rfl (hb hby at_11) rfl) ?_
  refine go (fun _ => XT.iconstV X0.here hx rfl (3 : Int32) (hb hby at_13) (by decide)) ?_
  refine go (fun _ => XT.iushr X0.here hx rfl (hb hby at_14) rfl) ?_
  refine go (fun _ => XT.bipushV X0.here hx rfl (7 : Int32) (hb hby at_15) (by decide)) ?_
  refine go (fun _ => XS.iand X0.here hx rfl (hb hby at_17) rfl) ?_
  show Ends p e below _ T0 (mkF m 18 #[iv i0, iv i1, iv i2, iv i3, iv i4, iv i5, iv k0, .unset, .unset, .unset, .unset, .unset, .unset, .unset, .unset, .unset, .unset, .unset, .unset, .unset, .unset, .unset, .unset] [(.int ((XT.ushr i5 (3 : Int32)) &&& (7 : Int32)))])
  refine go (fun _ => XT.iconstV X0.here hx rfl (3 : Int32) (hb hby at_18) (by decide)) ?_
  refine go (fun _ => XT.ishl X0.here hx rfl (hb hby at_19) rfl) ?_
  refine go (fun _ => XT.iconstV X0.here hx rfl (1 : Int32) (hb hby at_20) (by decide)) ?_
  refine go (fun _ => XT.ior X0.here hx rfl (hb hby at_21) rfl) ?_
  show Ends p e below _ T0 (mkF m 22 #[iv i0, iv i1, iv i2, iv i3, iv i4, iv i5, iv k0, .unset, .unset, .unset, .unset, .unset, .unset, .unset, .unset, .unset, .unset, .unset, .unset, .unset, .unset, .unset, .unset] [(.int ((((XT.ushr i5 (3 : Int32)) &&& (7 : Int32)) <<< ((3 : Int32) &&& 31)) ||| (1 : Int32)))])
  obtain ⟨k1, hk1⟩ : ∃ z : Int32, z = ((((XT.ushr i5 (3 : Int32)) &&& (7 : Int32)) <<< ((3 : Int32) &&& 31)) ||| (1 : Int32)) := ⟨_, rfl⟩
  rw [← hk1]
  show Ends p e below _ T0 (mkF m 22 #[iv i0, iv i1, iv i2, iv i3, iv i4, iv i5, iv k0, .unset, .unset, .unset, .unset, .unset, .unset, .unset, .unset, .unset, .unset, .unset, .unset, .unset, .unset, .unset, .unset] [(.int k1)])
  refine go (fun _ => XS.istore X0.here hx rfl (hb hby at_22) rfl (l' := #[iv i0, iv i1, iv i2, iv i3, iv i4, iv i5, iv k0, iv k1, .unset, .unset, .unset, .unset, .unset, .unset, .unset, .unset, .unset, .unset, .unset, .unset, .unset, .unset, .unset]) rfl) ?_
  refine go (fun _ => XS.iload X0.here hx rfl (hb hby at_24) rfl) ?_
  refine go (fun _ => XT.bipushV X0.here hx rfl (6 : Int32) (hb hby at_26) (by decide)) ?_
  refine go (fun _ => XT.iushr X0.here hx rfl (hb hby at_28) rfl) ?_
  refine go (fun _ => XT.bipushV X0.here hx rfl (7 : Int32) (hb hby at_29) (by decide)) ?_
  refine go (fun _ => XS.iand X0.here hx rfl (hb hby at_31) rfl) ?_
  show Ends p e below _ T0 (mkF m 32 #[iv i0, iv i1, iv i2, iv i3, iv i4, iv i5, iv k0, iv k1, .unset, .unset, .unset, .unset, .unset, .unset, .unset, .unset, .unset, .unset, .unset, .unset, .unset, .unset, .unset] [(.int ((XT.ushr i5 (6 : Int32)) &&& (7 : Int32)))])
  refine go (fun _ => XT.iconstV X0.here hx rfl (3 : Int32) (hb hby at_32) (by decide)) ?_
  refine go (fun _ => XT.ishl X0.here hx rfl (hb hby at_33) rfl) ?_
  refine go (fun _ => XT.iconstV X0.here hx rfl (2 : Int32) (hb hby at_34) (by decide)) ?_
  refine go (fun _ => XT.ior X0.here hx rfl (hb hby at_35) rfl) ?_
  show Ends p e below _ T0 (mkF m 36 #[iv i0, iv i1, iv i2, iv i3, iv i4, iv i5, iv k0, iv k1, .unset, .unset, .unset, .unset, .unset, .unset, .unset, .unset, .unset, .unset, .unset, .unset, .unset, .unset, .unset] [(.int ((((XT.ushr i5 (6 : Int32)) &&& (7 : Int32)) <<< ((3 : Int32) &&& 31)) ||| (2 : Int32)))])
  obtain ⟨k2, hk2⟩ : ∃ z : Int32, z = ((((XT.ushr i5 (6 : Int32)) &&& (7 : Int32)) <<< ((3 : Int32) &&& 31)) ||| (2 : Int32)) := ⟨_, rfl⟩
  rw [← hk2]
  show Ends p e below _ T0 (mkF m 36 #[iv i0, iv i1, iv i2, iv i3, iv i4, iv i5, iv k0, iv k1, .unset, .unset, .unset, .unset, .unset, .unset, .unset, .unset, .unset, .unset, .unset, .unset, .unset, .unset, .unset] [(.int k2)])
  refine go (fun _ => XS.istore X0.here hx rfl (hb hby at_36) rfl (l' := #[iv i0, iv i1, iv i2, iv i3, iv i4, iv i5, iv k0, iv k1, iv k2, .unset, .unset, .unset, .unset, .unset, .unset, .unset, .unset, .unset, .unset, .unset, .unset, .unset, .unset]) rfl) ?_
  refine go (fun _ => XS.iload X0.here hx rfl (hb hby at_38) rfl) ?_
  refine go (fun _ => XT.bipushV X0.here hx rfl (9 : Int32) (hb hby at_40) (by decide)) ?_
  refine go (fun _ => XT.iushr X0.here hx rfl (hb hby at_42) rfl) ?_
  refine go (fun _ => XT.bipushV X0.here hx rfl (7 : Int32) (hb hby at_43) (by decide)) ?_
  refine go (fun _ => XS.iand X0.here hx rfl (hb hby at_45) rfl) ?_
  show Ends p e below _ T0 (mkF m 46 #[iv i0, iv i1, iv i2, iv i3, iv i4, iv i5, iv k0, iv k1, iv k2, .unset, .unset, .unset, .unset, .unset, .unset, .unset, .unset, .unset, .unset, .unset, .unset, .unset, .unset] [(.int ((XT.ushr i5 (9 : Int32)) &&& (7 : Int32)))])
  refine go (fun _ => XT.iconstV X0.here hx rfl (3 : Int32) (hb hby at_46) (by decide)) ?_
  refine go (fun _ => XT.ishl X0.here hx rfl (hb hby at_47) rfl) ?_
  refine go (fun _ => XT.iconstV X0.here hx rfl (3 : Int32) (hb hby at_48) (by decide)) ?_
  refine go (fun _ => XT.ior X0.here hx rfl (hb hby at_49) rfl) ?_
  show Ends p e below _ T0 (mkF m 50 #[iv i0, iv i1, iv i2, iv i3, iv i4, iv i5, iv k0, iv k1, iv k2, .unset, .unset, .unset, .unset, .unset, .unset, .unset, .unset, .unset, .unset, .unset, .unset, .unset, .unset] [(.int ((((XT.ushr i5 (9 : Int32)) &&& (7 : Int32)) <<< ((3 : Int32) &&& 31)) ||| (3 : Int32)))])
  obtain ⟨k3, hk3⟩ : ∃ z : Int32, z = ((((XT.ushr i5 (9 : Int32)) &&& (7 : Int32)) <<< ((3 : Int32) &&& 31)) ||| (3 : Int32)) := ⟨_, rfl⟩
  rw [← hk3]
  show Ends p e below _ T0 (mkF m 50 #[iv i0, iv i1, iv i2, iv i3, iv i4, iv i5, iv k0, iv k1, iv k2, .unset, .unset, .unset, .unset, .unset, .unset, .unset, .unset, .unset, .unset, .unset, .unset, .unset, .unset] [(.int k3)])
  refine go (fun _ => XS.istore X0.here hx rfl (hb hby at_50) rfl (l' := #[iv i0, iv i1, iv i2, iv i3, iv i4, iv i5, iv k0, iv k1, iv k2, iv k3, .unset, .unset, .unset, .unset, .unset, .unset, .unset, .unset, .unset, .unset, .unset, .unset, .unset]) rfl) ?_
  refine go (fun _ => XS.iload X0.here hx rfl (hb hby at_52) rfl) ?_
  refine go (fun _ => XT.bipushV X0.here hx rfl (12 : Int32) (hb hby at_54) (by decide)) ?_
  refine go (fun _ => XT.iushr X0.here hx rfl (hb hby at_56) rfl) ?_
  refine go (fun _ => XT.bipushV X0.here hx rfl (7 : Int32) (hb hby at_57) (by decide)) ?_
  refine go (fun _ => XS.iand X0.here hx rfl (hb hby at_59) rfl) ?_
  show Ends p e below _ T0 (mkF m 60 #[iv i0, iv i1, iv i2, iv i3, iv i4, iv i5, iv k0, iv k1, iv k2, iv k3, .unset, .unset, .unset, .unset, .unset, .unset, .unset, .unset, .unset, .unset, .unset, .unset, .unset] [(.int ((XT.ushr i5 (12 : Int32)) &&& (7 : Int32)))])
  refine go (fun _ => XT.iconstV X0.here hx rfl (3 : Int32) (hb hby at_60) (by decide)) ?_
  refine go (fun _ => XT.ishl X0.here hx rfl (hb hby at_61) rfl) ?_
  refine go (fun _ => XT.iconstV X0.here hx rfl (4 : Int32) (hb hby at_62) (by decide)) ?_
  refine go (fun _ => XT.ior X0.here hx rfl (hb hby at_63) rfl) ?_
  show Ends p e below _ T0 (mkF m 64 #[iv i0, iv i1, iv i2, iv i3, iv i4, iv i5, iv k0, iv k1, iv k2, iv k3, .unset, .unset, .unset, .unset, .unset, .unset, .unset, .unset, .unset, .unset, .unset, .unset, .unset] [(.int ((((XT.ushr i5 (12 : Int32)) &&& (7 : Int32)) <<< ((3 : Int32) &&& 31)) ||| (4 : Int32)))])
  obtain ⟨k4, hk4⟩ : ∃ z : Int32, z = ((((XT.ushr i5 (12 : Int32)) &&& (7 : Int32)) <<< ((3 : Int32) &&& 31)) ||| (4 : Int32)) := ⟨_, rfl⟩
  rw [← hk4]
  show Ends p e below _ T0 (mkF m 64 #[iv i0, iv i1, iv i2, iv i3, iv i4, iv i5, iv k0, iv k1, iv k2, iv k3, .unset, .unset, .unset, .unset, .unset, .unset, .unset, .unset, .unset, .unset, .unset, .unset, .unset] [(.int k4)])
  have m70 : k0 &&& (7 : Int32) = (0 : Int32) := by rw [hk0]; exact own_k7_0 _
  have m71 : k1 &&& (7 : Int32) = (1 : Int32) := by rw [hk1]; exact own_k7_1 _
  have m72 : k2 &&& (7 : Int32) = (2 : Int32) := by rw [hk2]; exact own_k7_2 _
  have m73 : k3 &&& (7 : Int32) = (3 : Int32) := by rw [hk3]; exact own_k7_3 _
  have m74 : k4 &&& (7 : Int32) = (4 : Int32) := by rw [hk4]; exact own_k7_4 _
  have n01 : ¬ k0 = k1 := fun z => absurd ((m70.symm.trans (congrArg (fun z : Int32 => z &&& (7 : Int32)) z)).trans m71) (by decide)
  have n02 : ¬ k0 = k2 := fun z => absurd ((m70.symm.trans (congrArg (fun z : Int32 => z &&& (7 : Int32)) z)).trans m72) (by decide)
  have n03 : ¬ k0 = k3 := fun z => absurd ((m70.symm.trans (congrArg (fun z : Int32 => z &&& (7 : Int32)) z)).trans m73) (by decide)
  have n04 : ¬ k0 = k4 := fun z => absurd ((m70.symm.trans (congrArg (fun z : Int32 => z &&& (7 : Int32)) z)).trans m74) (by decide)
  have n12 : ¬ k1 = k2 := fun z => absurd ((m71.symm.trans (congrArg (fun z : Int32 => z &&& (7 : Int32)) z)).trans m72) (by decide)
  have n13 : ¬ k1 = k3 := fun z => absurd ((m71.symm.trans (congrArg (fun z : Int32 => z &&& (7 : Int32)) z)).trans m73) (by decide)
  have n14 : ¬ k1 = k4 := fun z => absurd ((m71.symm.trans (congrArg (fun z : Int32 => z &&& (7 : Int32)) z)).trans m74) (by decide)
  have n23 : ¬ k2 = k3 := fun z => absurd ((m72.symm.trans (congrArg (fun z : Int32 => z &&& (7 : Int32)) z)).trans m73) (by decide)
  have n24 : ¬ k2 = k4 := fun z => absurd ((m72.symm.trans (congrArg (fun z : Int32 => z &&& (7 : Int32)) z)).trans m74) (by decide)
  have n34 : ¬ k3 = k4 := fun z => absurd ((m73.symm.trans (congrArg (fun z : Int32 => z &&& (7 : Int32)) z)).trans m74) (by decide)
  have hlt := own_hlt n01 n02 n03 n04 n12 n13 n14 n23 n24 n34
  refine go (fun _ => XS.istore X0.here hx rfl (hb hby at_64) rfl (l' := #[iv i0, iv i1, iv i2, iv i3, iv i4, iv i5, iv k0, iv k1, iv k2, iv k3, iv k4, .unset, .unset, .unset, .unset, .unset, .unset, .unset, .unset, .unset, .unset, .unset, .unset]) rfl) ?_
  refine go (fun _ => XS.iload X0.here hx rfl (hb hby at_66) rfl) ?_
  refine go (fun _ => XS.iload X0.here hx rfl (hb hby at_68) rfl) ?_
  show Ends p e below _ T0 (mkF m 70 #[iv i0, iv i1, iv i2, iv i3, iv i4, iv i5, iv k0, iv k1, iv k2, iv k3, iv k4, .unset, .unset, .unset, .unset, .unset, .unset, .unset, .unset, .unset, .unset, .unset, .unset] [(.int k0), (.int k1)])
  refine cStat X0 hx hZ hown (by rw [hml]; rfl) e0 (hwi hw 0 rfl) (hwi hw 1 rfl) (hwi hw 2 rfl) (hwi hw 3 rfl) [(.int k1), (.int k0)] [] rfl (rm_less hw k1 k0 _) (hb hby at_70) rfl (lenOf pd_2 rfl) (by decide) (by decide) (Nat.le_of_ble_eq_true rfl) (by decide) (by decide) ?_
  rintro v781 T781 h781 L781 X781 e781 ⟨rfl, N781, rfl⟩
  have N781a := Fr.app (Fr.nil _) N781
  show Ends p e below _ T781 (mkF m 73 #[iv i0, iv i1, iv i2, iv i3, iv i4, iv i5, iv k0, iv k1, iv k2, iv k3, iv k4, .unset, .unset, .unset, .unset, .unset, .unset, .unset, .unset, .unset, .unset, .unset, .unset] [(.int (own_less k1 k0))])
  refine go (fun _ => XS.iload X781.here hx rfl (hb hby at_73) rfl) ?_
  refine go (fun _ => XS.iload X781.here hx rfl (hb hby at_75) rfl) ?_
  show Ends p e below _ T781 (mkF m 77 #[iv i0, iv i1, iv i2, iv i3, iv i4, iv i5, iv k0, iv k1, iv k2, iv k3, iv k4, .unset, .unset, .unset, .unset, .unset, .unset, .unset, .unset, .unset, .unset, .unset, .unset] [(.int k0), (.int k2), (.int (own_less k1 k0))])
  refine cStat X781 hx hZ hown (by rw [hml]; rfl) e781 (hwi hw 0 rfl) (hwi hw 1 rfl) (hwi hw 2 rfl) (hwi hw 3 rfl) [(.int k2), (.int k0)] [(.int (own_less k1 k0))] rfl (rm_less hw k2 k0 _) (hb hby at_77) rfl (lenOf pd_2 rfl) (by decide) (by decide) (Nat.le_of_ble_eq_true rfl) (by decide) (by decide) ?_
  rintro v782 T782 h782 L782 X782 e782 ⟨rfl, N782, rfl⟩
  have N782a := Fr.app N781a N782
  show Ends p e below _ T782 (mkF m 80 #[iv i0, iv i1, iv i2, iv i3, iv i4, iv i5, iv k0, iv k1, iv k2, iv k3, iv k4, .unset, .unset, .unset, .unset, .unset, .unset, .unset, .unset, .unset, .unset, .unset, .unset] [(.int (own_less k2 k0)), (.int (own_less k1 k0))])
  refine go (fun _ => XS.iadd X782.here hx rfl (hb hby at_80) rfl) ?_
  refine go (fun _ => XS.iload X782.here hx rfl (hb hby at_81) rfl) ?_
  refine go (fun _ => XS.iload X782.here hx rfl (hb hby at_83) rfl) ?_
  show Ends p e below _ T782 (mkF m 85 #[iv i0, iv i1, iv i2, iv i3, iv i4, iv i5, iv k0, iv k1, iv k2, iv k3, iv k4, .unset, .unset, .unset, .unset, .unset, .unset, .unset, .unset, .unset, .unset, .unset, .unset] [(.int k0), (.int k3), (.int ((own_less k1 k0) + (own_less k2 k0)))])
  refine cStat X782 hx hZ hown (by rw [hml]; rfl) e782 (hwi hw 0 rfl) (hwi hw 1 rfl) (hwi hw 2 rfl) (hwi hw 3 rfl) [(.int k3), (.int k0)] [(.int ((own_less k1 k0) + (own_less k2 k0)))] rfl (rm_less hw k3 k0 _) (hb hby at_85) rfl (lenOf pd_2 rfl) (by decide) (by decide) (Nat.le_of_ble_eq_true rfl) (by decide) (by decide) ?_
  rintro v783 T783 h783 L783 X783 e783 ⟨rfl, N783, rfl⟩
  have N783a := Fr.app N782a N783
  show Ends p e below _ T783 (mkF m 88 #[iv i0, iv i1, iv i2, iv i3, iv i4, iv i5, iv k0, iv k1, iv k2, iv k3, iv k4, .unset, .unset, .unset, .unset, .unset, .unset, .unset, .unset, .unset, .unset, .unset, .unset] [(.int (own_less k3 k0)), (.int ((own_less k1 k0) + (own_less k2 k0)))])
  refine go (fun _ => XS.iadd X783.here hx rfl (hb hby at_88) rfl) ?_
  refine go (fun _ => XS.iload X783.here hx rfl (hb hby at_89) rfl) ?_
  refine go (fun _ => XS.iload X783.here hx rfl (hb hby at_91) rfl) ?_
  show Ends p e below _ T783 (mkF m 93 #[iv i0, iv i1, iv i2, iv i3, iv i4, iv i5, iv k0, iv k1, iv k2, iv k3, iv k4, .unset, .unset, .unset, .unset, .unset, .unset, .unset, .unset, .unset, .unset, .unset, .unset] [(.int k0), (.int k4), (.int (((own_less k1 k0) + (own_less k2 k0)) + (own_less k3 k0)))])
  refine cStat X783 hx hZ hown (by rw [hml]; rfl) e783 (hwi hw 0 rfl) (hwi hw 1 rfl) (hwi hw 2 rfl) (hwi hw 3 rfl) [(.int k4), (.int k0)] [(.int (((own_less k1 k0) + (own_less k2 k0)) + (own_less k3 k0)))] rfl (rm_less hw k4 k0 _) (hb hby at_93) rfl (lenOf pd_2 rfl) (by decide) (by decide) (Nat.le_of_ble_eq_true rfl) (by decide) (by decide) ?_
  rintro v784 T784 h784 L784 X784 e784 ⟨rfl, N784, rfl⟩
  have N784a := Fr.app N783a N784
  show Ends p e below _ T784 (mkF m 96 #[iv i0, iv i1, iv i2, iv i3, iv i4, iv i5, iv k0, iv k1, iv k2, iv k3, iv k4, .unset, .unset, .unset, .unset, .unset, .unset, .unset, .unset, .unset, .unset, .unset, .unset] [(.int (own_less k4 k0)), (.int (((own_less k1 k0) + (own_less k2 k0)) + (own_less k3 k0)))])
  refine go (fun _ => XS.iadd X784.here hx rfl (hb hby at_96) rfl) ?_
  show Ends p e below _ T784 (mkF m 97 #[iv i0, iv i1, iv i2, iv i3, iv i4, iv i5, iv k0, iv k1, iv k2, iv k3, iv k4, .unset, .unset, .unset, .unset, .unset, .unset, .unset, .unset, .unset, .unset, .unset, .unset] [(.int ((((own_less k1 k0) + (own_less k2 k0)) + (own_less k3 k0)) + (own_less k4 k0)))])
  obtain ⟨r0, hr0⟩ : ∃ z : Int32, z = ((((own_less k1 k0) + (own_less k2 k0)) + (own_less k3 k0)) + (own_less k4 k0)) := ⟨_, rfl⟩
  rw [← hr0]
  show Ends p e below _ T784 (mkF m 97 #[iv i0, iv i1, iv i2, iv i3, iv i4, iv i5, iv k0, iv k1, iv k2, iv k3, iv k4, .unset, .unset, .unset, .unset, .unset, .unset, .unset, .unset, .unset, .unset, .unset, .unset] [(.int r0)])
  have gr0 : ¬ r0 < 0 ∧ r0 < (5 : Int32) := by rw [hr0]; exact own_rkb _ _ _ _ _
  refine go (fun _ => XS.istore X784.here hx rfl (hb hby at_97) rfl (l' := #[iv i0, iv i1, iv i2, iv i3, iv i4, iv i5, iv k0, iv k1, iv k2, iv k3, iv k4, iv r0, .unset, .unset, .unset, .unset, .unset, .unset, .unset, .unset, .unset, .unset, .unset]) rfl) ?_
  refine go (fun _ => XS.iload X784.here hx rfl (hb hby at_99) rfl) ?_
  refine go (fun _ => XS.iload X784.here hx rfl (hb hby at_101) rfl) ?_
  show Ends p e below _ T784 (mkF m 103 #[iv i0, iv i1, iv i2, iv i3, iv i4, iv i5, iv k0, iv k1, iv k2, iv k3, iv k4, iv r0, .unset, .unset, .unset, .unset, .unset, .unset, .unset, .unset, .unset, .unset, .unset] [(.int k1), (.int k0)])
  refine cStat X784 hx hZ hown (by rw [hml]; rfl) e784 (hwi hw 0 rfl) (hwi hw 1 rfl) (hwi hw 2 rfl) (hwi hw 3 rfl) [(.int k0), (.int k1)] [] rfl (rm_less hw k0 k1 _) (hb hby at_103) rfl (lenOf pd_2 rfl) (by decide) (by decide) (Nat.le_of_ble_eq_true rfl) (by decide) (by decide) ?_
  rintro v785 T785 h785 L785 X785 e785 ⟨rfl, N785, rfl⟩
  have N785a := Fr.app N784a N785
  show Ends p e below _ T785 (mkF m 106 #[iv i0, iv i1, iv i2, iv i3, iv i4, iv i5, iv k0, iv k1, iv k2, iv k3, iv k4, iv r0, .unset, .unset, .unset, .unset, .unset, .unset, .unset, .unset, .unset, .unset, .unset] [(.int (own_less k0 k1))])
  refine go (fun _ => XS.iload X785.here hx rfl (hb hby at_106) rfl) ?_
  refine go (fun _ => XS.iload X785.here hx rfl (hb hby at_108) rfl) ?_
  show Ends p e below _ T785 (mkF m 110 #[iv i0, iv i1, iv i2, iv i3, iv i4, iv i5, iv k0, iv k1, iv k2, iv k3, iv k4, iv r0, .unset, .unset, .unset, .unset, .unset, .unset, .unset, .unset, .unset, .unset, .unset] [(.int k1), (.int k2), (.int (own_less k0 k1))])
  refine cStat X785 hx hZ hown (by rw [hml]; rfl) e785 (hwi hw 0 rfl) (hwi hw 1 rfl) (hwi hw 2 rfl) (hwi hw 3 rfl) [(.int k2), (.int k1)] [(.int (own_less k0 k1))] rfl (rm_less hw k2 k1 _) (hb hby at_110) rfl (lenOf pd_2 rfl) (by decide) (by decide) (Nat.le_of_ble_eq_true rfl) (by decide) (by decide) ?_
  rintro v786 T786 h786 L786 X786 e786 ⟨rfl, N786, rfl⟩
  have N786a := Fr.app N785a N786
  show Ends p e below _ T786 (mkF m 113 #[iv i0, iv i1, iv i2, iv i3, iv i4, iv i5, iv k0, iv k1, iv k2, iv k3, iv k4, iv r0, .unset, .unset, .unset, .unset, .unset, .unset, .unset, .unset, .unset, .unset, .unset] [(.int (own_less k2 k1)), (.int (own_less k0 k1))])
  refine go (fun _ => XS.iadd X786.here hx rfl (hb hby at_113) rfl) ?_
  refine go (fun _ => XS.iload X786.here hx rfl (hb hby at_114) rfl) ?_
  refine go (fun _ => XS.iload X786.here hx rfl (hb hby at_116) rfl) ?_
  show Ends p e below _ T786 (mkF m 118 #[iv i0, iv i1, iv i2, iv i3, iv i4, iv i5, iv k0, iv k1, iv k2, iv k3, iv k4, iv r0, .unset, .unset, .unset, .unset, .unset, .unset, .unset, .unset, .unset, .unset, .unset] [(.int k1), (.int k3), (.int ((own_less k0 k1) + (own_less k2 k1)))])
  refine cStat X786 hx hZ hown (by rw [hml]; rfl) e786 (hwi hw 0 rfl) (hwi hw 1 rfl) (hwi hw 2 rfl) (hwi hw 3 rfl) [(.int k3), (.int k1)] [(.int ((own_less k0 k1) + (own_less k2 k1)))] rfl (rm_less hw k3 k1 _) (hb hby at_118) rfl (lenOf pd_2 rfl) (by decide) (by decide) (Nat.le_of_ble_eq_true rfl) (by decide) (by decide) ?_
  rintro v787 T787 h787 L787 X787 e787 ⟨rfl, N787, rfl⟩
  have N787a := Fr.app N786a N787
  show Ends p e below _ T787 (mkF m 121 #[iv i0, iv i1, iv i2, iv i3, iv i4, iv i5, iv k0, iv k1, iv k2, iv k3, iv k4, iv r0, .unset, .unset, .unset, .unset, .unset, .unset, .unset, .unset, .unset, .unset, .unset] [(.int (own_less k3 k1)), (.int ((own_less k0 k1) + (own_less k2 k1)))])
  refine go (fun _ => XS.iadd X787.here hx rfl (hb hby at_121) rfl) ?_
  refine go (fun _ => XS.iload X787.here hx rfl (hb hby at_122) rfl) ?_
  refine go (fun _ => XS.iload X787.here hx rfl (hb hby at_124) rfl) ?_
  show Ends p e below _ T787 (mkF m 126 #[iv i0, iv i1, iv i2, iv i3, iv i4, iv i5, iv k0, iv k1, iv k2, iv k3, iv k4, iv r0, .unset, .unset, .unset, .unset, .unset, .unset, .unset, .unset, .unset, .unset, .unset] [(.int k1), (.int k4), (.int (((own_less k0 k1) + (own_less k2 k1)) + (own_less k3 k1)))])
  refine cStat X787 hx hZ hown (by rw [hml]; rfl) e787 (hwi hw 0 rfl) (hwi hw 1 rfl) (hwi hw 2 rfl) (hwi hw 3 rfl) [(.int k4), (.int k1)] [(.int (((own_less k0 k1) + (own_less k2 k1)) + (own_less k3 k1)))] rfl (rm_less hw k4 k1 _) (hb hby at_126) rfl (lenOf pd_2 rfl) (by decide) (by decide) (Nat.le_of_ble_eq_true rfl) (by decide) (by decide) ?_
  rintro v788 T788 h788 L788 X788 e788 ⟨rfl, N788, rfl⟩
  have N788a := Fr.app N787a N788
  show Ends p e below _ T788 (mkF m 129 #[iv i0, iv i1, iv i2, iv i3, iv i4, iv i5, iv k0, iv k1, iv k2, iv k3, iv k4, iv r0, .unset, .unset, .unset, .unset, .unset, .unset, .unset, .unset, .unset, .unset, .unset] [(.int (own_less k4 k1)), (.int (((own_less k0 k1) + (own_less k2 k1)) + (own_less k3 k1)))])
  refine go (fun _ => XS.iadd X788.here hx rfl (hb hby at_129) rfl) ?_
  show Ends p e below _ T788 (mkF m 130 #[iv i0, iv i1, iv i2, iv i3, iv i4, iv i5, iv k0, iv k1, iv k2, iv k3, iv k4, iv r0, .unset, .unset, .unset, .unset, .unset, .unset, .unset, .unset, .unset, .unset, .unset] [(.int ((((own_less k0 k1) + (own_less k2 k1)) + (own_less k3 k1)) + (own_less k4 k1)))])
  obtain ⟨r1, hr1⟩ : ∃ z : Int32, z = ((((own_less k0 k1) + (own_less k2 k1)) + (own_less k3 k1)) + (own_less k4 k1)) := ⟨_, rfl⟩
  rw [← hr1]
  show Ends p e below _ T788 (mkF m 130 #[iv i0, iv i1, iv i2, iv i3, iv i4, iv i5, iv k0, iv k1, iv k2, iv k3, iv k4, iv r0, .unset, .unset, .unset, .unset, .unset, .unset, .unset, .unset, .unset, .unset, .unset] [(.int r1)])
  have gr1 : ¬ r1 < 0 ∧ r1 < (5 : Int32) := by rw [hr1]; exact own_rkb _ _ _ _ _
  refine go (fun _ => XS.istore X788.here hx rfl (hb hby at_130) rfl (l' := #[iv i0, iv i1, iv i2, iv i3, iv i4, iv i5, iv k0, iv k1, iv k2, iv k3, iv k4, iv r0, iv r1, .unset, .unset, .unset, .unset, .unset, .unset, .unset, .unset, .unset, .unset]) rfl) ?_
  refine go (fun _ => XS.iload X788.here hx rfl (hb hby at_132) rfl) ?_
  refine go (fun _ => XS.iload X788.here hx rfl (hb hby at_134) rfl) ?_
  show Ends p e below _ T788 (mkF m 136 #[iv i0, iv i1, iv i2, iv i3, iv i4, iv i5, iv k0, iv k1, iv k2, iv k3, iv k4, iv r0, iv r1, .unset, .unset, .unset, .unset, .unset, .unset, .unset, .unset, .unset, .unset] [(.int k2), (.int k0)])
  refine cStat X788 hx hZ hown (by rw [hml]; rfl) e788 (hwi hw 0 rfl) (hwi hw 1 rfl) (hwi hw 2 rfl) (hwi hw 3 rfl) [(.int k0), (.int k2)] [] rfl (rm_less hw k0 k2 _) (hb hby at_136) rfl (lenOf pd_2 rfl) (by decide) (by decide) (Nat.le_of_ble_eq_true rfl) (by decide) (by decide) ?_
  rintro v789 T789 h789 L789 X789 e789 ⟨rfl, N789, rfl⟩
  have N789a := Fr.app N788a N789
  show Ends p e below _ T789 (mkF m 139 #[iv i0, iv i1, iv i2, iv i3, iv i4, iv i5, iv k0, iv k1, iv k2, iv k3, iv k4, iv r0, iv r1, .unset, .unset, .unset, .unset, .unset, .unset, .unset, .unset, .unset, .unset] [(.int (own_less k0 k2))])
  refine go (fun _ => XS.iload X789.here hx rfl (hb hby at_139) rfl) ?_
  refine go (fun _ => XS.iload X789.here hx rfl (hb hby at_141) rfl) ?_
  show Ends p e below _ T789 (mkF m 143 #[iv i0, iv i1, iv i2, iv i3, iv i4, iv i5, iv k0, iv k1, iv k2, iv k3, iv k4, iv r0, iv r1, .unset, .unset, .unset, .unset, .unset, .unset, .unset, .unset, .unset, .unset] [(.int k2), (.int k1), (.int (own_less k0 k2))])
  refine cStat X789 hx hZ hown (by rw [hml]; rfl) e789 (hwi hw 0 rfl) (hwi hw 1 rfl) (hwi hw 2 rfl) (hwi hw 3 rfl) [(.int k1), (.int k2)] [(.int (own_less k0 k2))] rfl (rm_less hw k1 k2 _) (hb hby at_143) rfl (lenOf pd_2 rfl) (by decide) (by decide) (Nat.le_of_ble_eq_true rfl) (by decide) (by decide) ?_
  rintro v790 T790 h790 L790 X790 e790 ⟨rfl, N790, rfl⟩
  have N790a := Fr.app N789a N790
  show Ends p e below _ T790 (mkF m 146 #[iv i0, iv i1, iv i2, iv i3, iv i4, iv i5, iv k0, iv k1, iv k2, iv k3, iv k4, iv r0, iv r1, .unset, .unset, .unset, .unset, .unset, .unset, .unset, .unset, .unset, .unset] [(.int (own_less k1 k2)), (.int (own_less k0 k2))])
  refine go (fun _ => XS.iadd X790.here hx rfl (hb hby at_146) rfl) ?_
  refine go (fun _ => XS.iload X790.here hx rfl (hb hby at_147) rfl) ?_
  refine go (fun _ => XS.iload X790.here hx rfl (hb hby at_149) rfl) ?_
  show Ends p e below _ T790 (mkF m 151 #[iv i0, iv i1, iv i2, iv i3, iv i4, iv i5, iv k0, iv k1, iv k2, iv k3, iv k4, iv r0, iv r1, .unset, .unset, .unset, .unset, .unset, .unset, .unset, .unset, .unset, .unset] [(.int k2), (.int k3), (.int ((own_less k0 k2) + (own_less k1 k2)))])
  refine cStat X790 hx hZ hown (by rw [hml]; rfl) e790 (hwi hw 0 rfl) (hwi hw 1 rfl) (hwi hw 2 rfl) (hwi hw 3 rfl) [(.int k3), (.int k2)] [(.int ((own_less k0 k2) + (own_less k1 k2)))] rfl (rm_less hw k3 k2 _) (hb hby at_151) rfl (lenOf pd_2 rfl) (by decide) (by decide) (Nat.le_of_ble_eq_true rfl) (by decide) (by decide) ?_
  rintro v791 T791 h791 L791 X791 e791 ⟨rfl, N791, rfl⟩
  have N791a := Fr.app N790a N791
  show Ends p e below _ T791 (mkF m 154 #[iv i0, iv i1, iv i2, iv i3, iv i4, iv i5, iv k0, iv k1, iv k2, iv k3, iv k4, iv r0, iv r1, .unset, .unset, .unset, .unset, .unset, .unset, .unset, .unset, .unset, .unset] [(.int (own_less k3 k2)), (.int ((own_less k0 k2) + (own_less k1 k2)))])
  refine go (fun _ => XS.iadd X791.here hx rfl (hb hby at_154) rfl) ?_
  refine go (fun _ => XS.iload X791.here hx rfl (hb hby at_155) rfl) ?_
  refine go (fun _ => XS.iload X791.here hx rfl (hb hby at_157) rfl) ?_
  show Ends p e below _ T791 (mkF m 159 #[iv i0, iv i1, iv i2, iv i3, iv i4, iv i5, iv k0, iv k1, iv k2, iv k3, iv k4, iv r0, iv r1, .unset, .unset, .unset, .unset, .unset, .unset, .unset, .unset, .unset, .unset] [(.int k2), (.int k4), (.int (((own_less k0 k2) + (own_less k1 k2)) + (own_less k3 k2)))])
  refine cStat X791 hx hZ hown (by rw [hml]; rfl) e791 (hwi hw 0 rfl) (hwi hw 1 rfl) (hwi hw 2 rfl) (hwi hw 3 rfl) [(.int k4), (.int k2)] [(.int (((own_less k0 k2) + (own_less k1 k2)) + (own_less k3 k2)))] rfl (rm_less hw k4 k2 _) (hb hby at_159) rfl (lenOf pd_2 rfl) (by decide) (by decide) (Nat.le_of_ble_eq_true rfl) (by decide) (by decide) ?_
  rintro v792 T792 h792 L792 X792 e792 ⟨rfl, N792, rfl⟩
  have N792a := Fr.app N791a N792
  show Ends p e below _ T792 (mkF m 162 #[iv i0, iv i1, iv i2, iv i3, iv i4, iv i5, iv k0, iv k1, iv k2, iv k3, iv k4, iv r0, iv r1, .unset, .unset, .unset, .unset, .unset, .unset, .unset, .unset, .unset, .unset] [(.int (own_less k4 k2)), (.int (((own_less k0 k2) + (own_less k1 k2)) + (own_less k3 k2)))])
  refine go (fun _ => XS.iadd X792.here hx rfl (hb hby at_162) rfl) ?_
  show Ends p e below _ T792 (mkF m 163 #[iv i0, iv i1, iv i2, iv i3, iv i4, iv i5, iv k0, iv k1, iv k2, iv k3, iv k4, iv r0, iv r1, .unset, .unset, .unset, .unset, .unset, .unset, .unset, .unset, .unset, .unset] [(.int ((((own_less k0 k2) + (own_less k1 k2)) + (own_less k3 k2)) + (own_less k4 k2)))])
  obtain ⟨r2, hr2⟩ : ∃ z : Int32, z = ((((own_less k0 k2) + (own_less k1 k2)) + (own_less k3 k2)) + (own_less k4 k2)) := ⟨_, rfl⟩
  rw [← hr2]
  show Ends p e below _ T792 (mkF m 163 #[iv i0, iv i1, iv i2, iv i3, iv i4, iv i5, iv k0, iv k1, iv k2, iv k3, iv k4, iv r0, iv r1, .unset, .unset, .unset, .unset, .unset, .unset, .unset, .unset, .unset, .unset] [(.int r2)])
  have gr2 : ¬ r2 < 0 ∧ r2 < (5 : Int32) := by rw [hr2]; exact own_rkb _ _ _ _ _
  refine go (fun _ => XS.istore X792.here hx rfl (hb hby at_163) rfl (l' := #[iv i0, iv i1, iv i2, iv i3, iv i4, iv i5, iv k0, iv k1, iv k2, iv k3, iv k4, iv r0, iv r1, iv r2, .unset, .unset, .unset, .unset, .unset, .unset, .unset, .unset, .unset]) rfl) ?_
  refine go (fun _ => XS.iload X792.here hx rfl (hb hby at_165) rfl) ?_
  refine go (fun _ => XS.iload X792.here hx rfl (hb hby at_167) rfl) ?_
  show Ends p e below _ T792 (mkF m 169 #[iv i0, iv i1, iv i2, iv i3, iv i4, iv i5, iv k0, iv k1, iv k2, iv k3, iv k4, iv r0, iv r1, iv r2, .unset, .unset, .unset, .unset, .unset, .unset, .unset, .unset, .unset] [(.int k3), (.int k0)])
  refine cStat X792 hx hZ hown (by rw [hml]; rfl) e792 (hwi hw 0 rfl) (hwi hw 1 rfl) (hwi hw 2 rfl) (hwi hw 3 rfl) [(.int k0), (.int k3)] [] rfl (rm_less hw k0 k3 _) (hb hby at_169) rfl (lenOf pd_2 rfl) (by decide) (by decide) (Nat.le_of_ble_eq_true rfl) (by decide) (by decide) ?_
  rintro v793 T793 h793 L793 X793 e793 ⟨rfl, N793, rfl⟩
  have N793a := Fr.app N792a N793
  show Ends p e below _ T793 (mkF m 172 #[iv i0, iv i1, iv i2, iv i3, iv i4, iv i5, iv k0, iv k1, iv k2, iv k3, iv k4, iv r0, iv r1, iv r2, .unset, .unset, .unset, .unset, .unset, .unset, .unset, .unset, .unset] [(.int (own_less k0 k3))])
  refine go (fun _ => XS.iload X793.here hx rfl (hb hby at_172) rfl) ?_
  refine go (fun _ => XS.iload X793.here hx rfl (hb hby at_174) rfl) ?_
  show Ends p e below _ T793 (mkF m 176 #[iv i0, iv i1, iv i2, iv i3, iv i4, iv i5, iv k0, iv k1, iv k2, iv k3, iv k4, iv r0, iv r1, iv r2, .unset, .unset, .unset, .unset, .unset, .unset, .unset, .unset, .unset] [(.int k3), (.int k1), (.int (own_less k0 k3))])
  refine cStat X793 hx hZ hown (by rw [hml]; rfl) e793 (hwi hw 0 rfl) (hwi hw 1 rfl) (hwi hw 2 rfl) (hwi hw 3 rfl) [(.int k1), (.int k3)] [(.int (own_less k0 k3))] rfl (rm_less hw k1 k3 _) (hb hby at_176) rfl (lenOf pd_2 rfl) (by decide) (by decide) (Nat.le_of_ble_eq_true rfl) (by decide) (by decide) ?_
  rintro v794 T794 h794 L794 X794 e794 ⟨rfl, N794, rfl⟩
  have N794a := Fr.app N793a N794
  show Ends p e below _ T794 (mkF m 179 #[iv i0, iv i1, iv i2, iv i3, iv i4, iv i5, iv k0, iv k1, iv k2, iv k3, iv k4, iv r0, iv r1, iv r2, .unset, .unset, .unset, .unset, .unset, .unset, .unset, .unset, .unset] [(.int (own_less k1 k3)), (.int (own_less k0 k3))])
  refine go (fun _ => XS.iadd X794.here hx rfl (hb hby at_179) rfl) ?_
  refine go (fun _ => XS.iload X794.here hx rfl (hb hby at_180) rfl) ?_
  refine go (fun _ => XS.iload X794.here hx rfl (hb hby at_182) rfl) ?_
  show Ends p e below _ T794 (mkF m 184 #[iv i0, iv i1, iv i2, iv i3, iv i4, iv i5, iv k0, iv k1, iv k2, iv k3, iv k4, iv r0, iv r1, iv r2, .unset, .unset, .unset, .unset, .unset, .unset, .unset, .unset, .unset] [(.int k3), (.int k2), (.int ((own_less k0 k3) + (own_less k1 k3)))])
  refine cStat X794 hx hZ hown (by rw [hml]; rfl) e794 (hwi hw 0 rfl) (hwi hw 1 rfl) (hwi hw 2 rfl) (hwi hw 3 rfl) [(.int k2), (.int k3)] [(.int ((own_less k0 k3) + (own_less k1 k3)))] rfl (rm_less hw k2 k3 _) (hb hby at_184) rfl (lenOf pd_2 rfl) (by decide) (by decide) (Nat.le_of_ble_eq_true rfl) (by decide) (by decide) ?_
  rintro v795 T795 h795 L795 X795 e795 ⟨rfl, N795, rfl⟩
  have N795a := Fr.app N794a N795
  show Ends p e below _ T795 (mkF m 187 #[iv i0, iv i1, iv i2, iv i3, iv i4, iv i5, iv k0, iv k1, iv k2, iv k3, iv k4, iv r0, iv r1, iv r2, .unset, .unset, .unset, .unset, .unset, .unset, .unset, .unset, .unset] [(.int (own_less k2 k3)), (.int ((own_less k0 k3) + (own_less k1 k3)))])
  refine go (fun _ => XS.iadd X795.here hx rfl (hb hby at_187) rfl) ?_
  refine go (fun _ => XS.iload X795.here hx rfl (hb hby at_188) rfl) ?_
  refine go (fun _ => XS.iload X795.here hx rfl (hb hby at_190) rfl) ?_
  show Ends p e below _ T795 (mkF m 192 #[iv i0, iv i1, iv i2, iv i3, iv i4, iv i5, iv k0, iv k1, iv k2, iv k3, iv k4, iv r0, iv r1, iv r2, .unset, .unset, .unset, .unset, .unset, .unset, .unset, .unset, .unset] [(.int k3), (.int k4), (.int (((own_less k0 k3) + (own_less k1 k3)) + (own_less k2 k3)))])
  refine cStat X795 hx hZ hown (by rw [hml]; rfl) e795 (hwi hw 0 rfl) (hwi hw 1 rfl) (hwi hw 2 rfl) (hwi hw 3 rfl) [(.int k4), (.int k3)] [(.int (((own_less k0 k3) + (own_less k1 k3)) + (own_less k2 k3)))] rfl (rm_less hw k4 k3 _) (hb hby at_192) rfl (lenOf pd_2 rfl) (by decide) (by decide) (Nat.le_of_ble_eq_true rfl) (by decide) (by decide) ?_
  rintro v796 T796 h796 L796 X796 e796 ⟨rfl, N796, rfl⟩
  have N796a := Fr.app N795a N796
  show Ends p e below _ T796 (mkF m 195 #[iv i0, iv i1, iv i2, iv i3, iv i4, iv i5, iv k0, iv k1, iv k2, iv k3, iv k4, iv r0, iv r1, iv r2, .unset, .unset, .unset, .unset, .unset, .unset, .unset, .unset, .unset] [(.int (own_less k4 k3)), (.int (((own_less k0 k3) + (own_less k1 k3)) + (own_less k2 k3)))])
  refine go (fun _ => XS.iadd X796.here hx rfl (hb hby at_195) rfl) ?_
  show Ends p e below _ T796 (mkF m 196 #[iv i0, iv i1, iv i2, iv i3, iv i4, iv i5, iv k0, iv k1, iv k2, iv k3, iv k4, iv r0, iv r1, iv r2, .unset, .unset, .unset, .unset, .unset, .unset, .unset, .unset, .unset] [(.int ((((own_less k0 k3) + (own_less k1 k3)) + (own_less k2 k3)) + (own_less k4 k3)))])
  obtain ⟨r3, hr3⟩ : ∃ z : Int32, z = ((((own_less k0 k3) + (own_less k1 k3)) + (own_less k2 k3)) + (own_less k4 k3)) := ⟨_, rfl⟩
  rw [← hr3]
  show Ends p e below _ T796 (mkF m 196 #[iv i0, iv i1, iv i2, iv i3, iv i4, iv i5, iv k0, iv k1, iv k2, iv k3, iv k4, iv r0, iv r1, iv r2, .unset, .unset, .unset, .unset, .unset, .unset, .unset, .unset, .unset] [(.int r3)])
  have gr3 : ¬ r3 < 0 ∧ r3 < (5 : Int32) := by rw [hr3]; exact own_rkb _ _ _ _ _
  refine go (fun _ => XS.istore X796.here hx rfl (hb hby at_196) rfl (l' := #[iv i0, iv i1, iv i2, iv i3, iv i4, iv i5, iv k0, iv k1, iv k2, iv k3, iv k4, iv r0, iv r1, iv r2, iv r3, .unset, .unset, .unset, .unset, .unset, .unset, .unset, .unset]) rfl) ?_
  refine go (fun _ => XS.iload X796.here hx rfl (hb hby at_198) rfl) ?_
  refine go (fun _ => XS.iload X796.here hx rfl (hb hby at_200) rfl) ?_
  show Ends p e below _ T796 (mkF m 202 #[iv i0, iv i1, iv i2, iv i3, iv i4, iv i5, iv k0, iv k1, iv k2, iv k3, iv k4, iv r0, iv r1, iv r2, iv r3, .unset, .unset, .unset, .unset, .unset, .unset, .unset, .unset] [(.int k4), (.int k0)])
  refine cStat X796 hx hZ hown (by rw [hml]; rfl) e796 (hwi hw 0 rfl) (hwi hw 1 rfl) (hwi hw 2 rfl) (hwi hw 3 rfl) [(.int k0), (.int k4)] [] rfl (rm_less hw k0 k4 _) (hb hby at_202) rfl (lenOf pd_2 rfl) (by decide) (by decide) (Nat.le_of_ble_eq_true rfl) (by decide) (by decide) ?_
  rintro v797 T797 h797 L797 X797 e797 ⟨rfl, N797, rfl⟩
  have N797a := Fr.app N796a N797
  show Ends p e below _ T797 (mkF m 205 #[iv i0, iv i1, iv i2, iv i3, iv i4, iv i5, iv k0, iv k1, iv k2, iv k3, iv k4, iv r0, iv r1, iv r2, iv r3, .unset, .unset, .unset, .unset, .unset, .unset, .unset, .unset] [(.int (own_less k0 k4))])
  refine go (fun _ => XS.iload X797.here hx rfl (hb hby at_205) rfl) ?_
  refine go (fun _ => XS.iload X797.here hx rfl (hb hby at_207) rfl) ?_
  show Ends p e below _ T797 (mkF m 209 #[iv i0, iv i1, iv i2, iv i3, iv i4, iv i5, iv k0, iv k1, iv k2, iv k3, iv k4, iv r0, iv r1, iv r2, iv r3, .unset, .unset, .unset, .unset, .unset, .unset, .unset, .unset] [(.int k4), (.int k1), (.int (own_less k0 k4))])
  refine cStat X797 hx hZ hown (by rw [hml]; rfl) e797 (hwi hw 0 rfl) (hwi hw 1 rfl) (hwi hw 2 rfl) (hwi hw 3 rfl) [(.int k1), (.int k4)] [(.int (own_less k0 k4))] rfl (rm_less hw k1 k4 _) (hb hby at_209) rfl (lenOf pd_2 rfl) (by decide) (by decide) (Nat.le_of_ble_eq_true rfl) (by decide) (by decide) ?_
  rintro v798 T798 h798 L798 X798 e798 ⟨rfl, N798, rfl⟩
  have N798a := Fr.app N797a N798
  show Ends p e below _ T798 (mkF m 212 #[iv i0, iv i1, iv i2, iv i3, iv i4, iv i5, iv k0, iv k1, iv k2, iv k3, iv k4, iv r0, iv r1, iv r2, iv r3, .unset, .unset, .unset, .unset, .unset, .unset, .unset, .unset] [(.int (own_less k1 k4)), (.int (own_less k0 k4))])
  refine go (fun _ => XS.iadd X798.here hx rfl (hb hby at_212) rfl) ?_
  refine go (fun _ => XS.iload X798.here hx rfl (hb hby at_213) rfl) ?_
  refine go (fun _ => XS.iload X798.here hx rfl (hb hby at_215) rfl) ?_
  show Ends p e below _ T798 (mkF m 217 #[iv i0, iv i1, iv i2, iv i3, iv i4, iv i5, iv k0, iv k1, iv k2, iv k3, iv k4, iv r0, iv r1, iv r2, iv r3, .unset, .unset, .unset, .unset, .unset, .unset, .unset, .unset] [(.int k4), (.int k2), (.int ((own_less k0 k4) + (own_less k1 k4)))])
  refine cStat X798 hx hZ hown (by rw [hml]; rfl) e798 (hwi hw 0 rfl) (hwi hw 1 rfl) (hwi hw 2 rfl) (hwi hw 3 rfl) [(.int k2), (.int k4)] [(.int ((own_less k0 k4) + (own_less k1 k4)))] rfl (rm_less hw k2 k4 _) (hb hby at_217) rfl (lenOf pd_2 rfl) (by decide) (by decide) (Nat.le_of_ble_eq_true rfl) (by decide) (by decide) ?_
  rintro v799 T799 h799 L799 X799 e799 ⟨rfl, N799, rfl⟩
  have N799a := Fr.app N798a N799
  show Ends p e below _ T799 (mkF m 220 #[iv i0, iv i1, iv i2, iv i3, iv i4, iv i5, iv k0, iv k1, iv k2, iv k3, iv k4, iv r0, iv r1, iv r2, iv r3, .unset, .unset, .unset, .unset, .unset, .unset, .unset, .unset] [(.int (own_less k2 k4)), (.int ((own_less k0 k4) + (own_less k1 k4)))])
  refine go (fun _ => XS.iadd X799.here hx rfl (hb hby at_220) rfl) ?_
  refine go (fun _ => XS.iload X799.here hx rfl (hb hby at_221) rfl) ?_
  refine go (fun _ => XS.iload X799.here hx rfl (hb hby at_223) rfl) ?_
  show Ends p e below _ T799 (mkF m 225 #[iv i0, iv i1, iv i2, iv i3, iv i4, iv i5, iv k0, iv k1, iv k2, iv k3, iv k4, iv r0, iv r1, iv r2, iv r3, .unset, .unset, .unset, .unset, .unset, .unset, .unset, .unset] [(.int k4), (.int k3), (.int (((own_less k0 k4) + (own_less k1 k4)) + (own_less k2 k4)))])
  refine cStat X799 hx hZ hown (by rw [hml]; rfl) e799 (hwi hw 0 rfl) (hwi hw 1 rfl) (hwi hw 2 rfl) (hwi hw 3 rfl) [(.int k3), (.int k4)] [(.int (((own_less k0 k4) + (own_less k1 k4)) + (own_less k2 k4)))] rfl (rm_less hw k3 k4 _) (hb hby at_225) rfl (lenOf pd_2 rfl) (by decide) (by decide) (Nat.le_of_ble_eq_true rfl) (by decide) (by decide) ?_
  rintro v800 T800 h800 L800 X800 e800 ⟨rfl, N800, rfl⟩
  have N800a := Fr.app N799a N800
  show Ends p e below _ T800 (mkF m 228 #[iv i0, iv i1, iv i2, iv i3, iv i4, iv i5, iv k0, iv k1, iv k2, iv k3, iv k4, iv r0, iv r1, iv r2, iv r3, .unset, .unset, .unset, .unset, .unset, .unset, .unset, .unset] [(.int (own_less k3 k4)), (.int (((own_less k0 k4) + (own_less k1 k4)) + (own_less k2 k4)))])
  refine go (fun _ => XS.iadd X800.here hx rfl (hb hby at_228) rfl) ?_
  show Ends p e below _ T800 (mkF m 229 #[iv i0, iv i1, iv i2, iv i3, iv i4, iv i5, iv k0, iv k1, iv k2, iv k3, iv k4, iv r0, iv r1, iv r2, iv r3, .unset, .unset, .unset, .unset, .unset, .unset, .unset, .unset] [(.int ((((own_less k0 k4) + (own_less k1 k4)) + (own_less k2 k4)) + (own_less k3 k4)))])
  obtain ⟨r4, hr4⟩ : ∃ z : Int32, z = ((((own_less k0 k4) + (own_less k1 k4)) + (own_less k2 k4)) + (own_less k3 k4)) := ⟨_, rfl⟩
  rw [← hr4]
  show Ends p e below _ T800 (mkF m 229 #[iv i0, iv i1, iv i2, iv i3, iv i4, iv i5, iv k0, iv k1, iv k2, iv k3, iv k4, iv r0, iv r1, iv r2, iv r3, .unset, .unset, .unset, .unset, .unset, .unset, .unset, .unset] [(.int r4)])
  have gr4 : ¬ r4 < 0 ∧ r4 < (5 : Int32) := by rw [hr4]; exact own_rkb _ _ _ _ _
  refine go (fun _ => XS.istore X800.here hx rfl (hb hby at_229) rfl (l' := #[iv i0, iv i1, iv i2, iv i3, iv i4, iv i5, iv k0, iv k1, iv k2, iv k3, iv k4, iv r0, iv r1, iv r2, iv r3, iv r4, .unset, .unset, .unset, .unset, .unset, .unset, .unset]) rfl) ?_
  refine go (fun _ => XT.iconstV X800.here hx rfl (5 : Int32) (hb hby at_231) (by decide)) ?_
  show Ends p e below _ T800 (mkF m 232 #[iv i0, iv i1, iv i2, iv i3, iv i4, iv i5, iv k0, iv k1, iv k2, iv k3, iv k4, iv r0, iv r1, iv r2, iv r3, iv r4, .unset, .unset, .unset, .unset, .unset, .unset, .unset] [(.int (5 : Int32))])
  obtain ⟨T801, h801, k801, X801, e801, E801, A801, s801⟩ := newP X800 hx hZ (hwi hw 4 rfl) e800 (g := (mkF m 232 #[iv i0, iv i1, iv i2, iv i3, iv i4, iv i5, iv k0, iv k1, iv k2, iv k3, iv k4, iv r0, iv r1, iv r2, iv r3, iv r4, .unset, .unset, .unset, .unset, .unset, .unset, .unset] [(.int (5 : Int32))])) rfl (hb hby at_232) rfl (by decide) (cap := 5) (by decide) (by decide) (by decide) (by decide)
  obtain ⟨a801, g801⟩ : ∃ z : Addr, z = h0.size := ⟨_, rfl⟩
  have f801 : Z.heap.size ≤ a801 := by rw [g801]; exact (O0).1
  rw [← g801] at A801 s801
  have O802 : Ext Z.heap h801 := xx O0 E801
  have V801 : Arv Z h801 a801 k801 .int (5 : Int32) [(.int (0 : Int32)), (.int (0 : Int32)), (.int (0 : Int32)), (.int (0 : Int32)), (.int (0 : Int32))] (.int 0) := Arv.pad (Arv.new A801 (by decide)) (pad_rep [] _ 5)
  refine go s801 ?_
  show Ends p e below _ T801 (mkF m 234 #[iv i0, iv i1, iv i2, iv i3, iv i4, iv i5, iv k0, iv k1, iv k2, iv k3, iv k4, iv r0, iv r1, iv r2, iv r3, iv r4, .unset, .unset, .unset, .unset, .unset, .unset, .unset] [(.ref a801)])
  refine go (fun _ => XS.astore X801.here hx rfl (hb hby at_234) rfl rfl (l' := #[iv i0, iv i1, iv i2, iv i3, iv i4, iv i5, iv k0, iv k1, iv k2, iv k3, iv k4, iv r0, iv r1, iv r2, iv r3, iv r4, rv a801, .unset, .unset, .unset, .unset, .unset, .unset]) rfl) ?_
  refine go (fun _ => XS.aload X801.here hx rfl (hb hby at_236) rfl rfl) ?_
  refine go (fun _ => XS.iload X801.here hx rfl (hb hby at_238) rfl) ?_
  refine go (fun _ => XS.iloadN X801.here hx rfl (hb hby at_240) rfl) ?_
  show Ends p e below _ T801 (mkF m 241 #[iv i0, iv i1, iv i2, iv i3, iv i4, iv i5, iv k0, iv k1, iv k2, iv k3, iv k4, iv r0, iv r1, iv r2, iv r3, iv r4, rv a801, .unset, .unset, .unset, .unset, .unset, .unset] [(.int i0), (.int r0), (.ref a801)])
  obtain ⟨cl803, A803, q803, S803, M803, H803, G803⟩ := id V801
  obtain ⟨T803, h803, X803, e803, W803, s803⟩ := stI X801 hx hZ e801 A803 (j := r0) (inb_of S803 gr0) (g := (mkF m 241 #[iv i0, iv i1, iv i2, iv i3, iv i4, iv i5, iv k0, iv k1, iv k2, iv k3, iv k4, iv r0, iv r1, iv r2, iv r3, iv r4, rv a801, .unset, .unset, .unset, .unset, .unset, .unset] [(.int i0), (.int r0), (.ref a801)])) rfl rfl (hb hby at_241)
  have N803 := Fr.snoc X803 N800a f801
  have O804 : Ext Z.heap h803 := xw O802 W803 f801
  have V803 : Arv Z h803 a801 k801 .int (5 : Int32) (([(.int (0 : Int32)), (.int (0 : Int32)), (.int (0 : Int32)), (.int (0 : Int32)), (.int (0 : Int32))] : List Value).set r0.toNatClampNeg (.int i0)) (.int 0) := Arv.set A803 q803 S803 M803 H803 G803 rfl W803 _ rfl (by simp only [List.length_set, List.length_cons, List.length_nil]; exact own_lt5 gr0)
  refine go s803 ?_
  show Ends p e below _ T803 (mkF m 242 #[iv i0, iv i1, iv i2, iv i3, iv i4, iv i5, iv k0, iv k1, iv k2, iv k3, iv k4, iv r0, iv r1, iv r2, iv r3, iv r4, rv a801, .unset, .unset, .unset, .unset, .unset, .unset] [])
  refine go (fun _ => XS.aload X803.here hx rfl (hb hby at_242) rfl rfl) ?_
  refine go (fun _ => XS.iload X803.here hx rfl (hb hby at_244) rfl) ?_
  refine go (fun _ => XS.iloadN X803.here hx rfl (hb hby at_246) rfl) ?_
  show Ends p e below _ T803 (mkF m 247 #[iv i0, iv i1, iv i2, iv i3, iv i4, iv i5, iv k0, iv k1, iv k2, iv k3, iv k4, iv r0, iv r1, iv r2, iv r3, iv r4, rv a801, .unset, .unset, .unset, .unset, .unset, .unset] [(.int i1), (.int r1), (.ref a801)])
  obtain ⟨cl805, A805, q805, S805, M805, H805, G805⟩ := id V803
  obtain ⟨T805, h805, X805, e805, W805, s805⟩ := stI X803 hx hZ e803 A805 (j := r1) (inb_of S805 gr1) (g := (mkF m 247 #[iv i0, iv i1, iv i2, iv i3, iv i4, iv i5, iv k0, iv k1, iv k2, iv k3, iv k4, iv r0, iv r1, iv r2, iv r3, iv r4, rv a801, .unset, .unset, .unset, .unset, .unset, .unset] [(.int i1), (.int r1), (.ref a801)])) rfl rfl (hb hby at_247)
  have N805 := Fr.snoc X805 N803 f801
  have O806 : Ext Z.heap h805 := xw O804 W805 f801
  have V805 : Arv Z h805 a801 k801 .int (5 : Int32) ((([(.int (0 : Int32)), (.int (0 : Int32)), (.int (0 : Int32)), (.int (0 : Int32)), (.int (0 : Int32))] : List Value).set r0.toNatClampNeg (.int i0)).set r1.toNatClampNeg (.int i1)) (.int 0) := Arv.set A805 q805 S805 M805 H805 G805 rfl W805 _ rfl (by simp only [List.length_set, List.length_cons, List.length_nil]; exact own_lt5 gr1)
  refine go s805 ?_
  show Ends p e below _ T805 (mkF m 248 #[iv i0, iv i1, iv i2, iv i3, iv i4, iv i5, iv k0, iv k1, iv k2, iv k3, iv k4, iv r0, iv r1, iv r2, iv r3, iv r4, rv a801, .unset, .unset, .unset, .unset, .unset, .unset] [])
  refine go (fun _ => XS.aload X805.here hx rfl (hb hby at_248) rfl rfl) ?_
  refine go (fun _ => XS.iload X805.here hx rfl (hb hby at_250) rfl) ?_
  refine go (fun _ => XS.iloadN X805.here hx rfl (hb hby at_252) rfl) ?_
  show Ends p e below _ T805 (mkF m 253 #[iv i0, iv i1, iv i2, iv i3, iv i4, iv i5, iv k0, iv k1, iv k2, iv k3, iv k4, iv r0, iv r1, iv r2, iv r3, iv r4, rv a801, .unset, .unset, .unset, .unset, .unset, .unset] [(.int i2), (.int r2), (.ref a801)])
  obtain ⟨cl807, A807, q807, S807, M807, H807, G807⟩ := id V805
  obtain ⟨T807, h807, X807, e807, W807, s807⟩ := stI X805 hx hZ e805 A807 (j := r2) (inb_of S807 gr2) (g := (mkF m 253 #[iv i0, iv i1, iv i2, iv i3, iv i4, iv i5, iv k0, iv k1, iv k2, iv k3, iv k4, iv r0, iv r1, iv r2, iv r3, iv r4, rv a801, .unset, .unset, .unset, .unset, .unset, .unset] [(.int i2), (.int r2), (.ref a801)])) rfl rfl (hb hby at_253)
  have N807 := Fr.snoc X807 N805 f801
  have O808 : Ext Z.heap h807 := xw O806 W807 f801
  have V807 : Arv Z h807 a801 k801 .int (5 : Int32) (((([(.int (0 : Int32)), (.int (0 : Int32)), (.int (0 : Int32)), (.int (0 : Int32)), (.int (0 : Int32))] : List Value).set r0.toNatClampNeg (.int i0)).set r1.toNatClampNeg (.int i1)).set r2.toNatClampNeg (.int i2)) (.int 0) := Arv.set A807 q807 S807 M807 H807 G807 rfl W807 _ rfl (by simp only [List.length_set, List.length_cons, List.length_nil]; exact own_lt5 gr2)
  refine go s807 ?_
  show Ends p e below _ T807 (mkF m 254 #[iv i0, iv i1, iv i2, iv i3, iv i4, iv i5, iv k0, iv k1, iv k2, iv k3, iv k4, iv r0, iv r1, iv r2, iv r3, iv r4, rv a801, .unset, .unset, .unset, .unset, .unset, .unset] [])
  refine go (fun _ => XS.aload X807.here hx rfl (hb hby at_254) rfl rfl) ?_
  refine go (fun _ => XS.iload X807.here hx rfl (hb hby at_256) rfl) ?_
  refine go (fun _ => XS.iloadN X807.here hx rfl (hb hby at_258) rfl) ?_
  show Ends p e below _ T807 (mkF m 259 #[iv i0, iv i1, iv i2, iv i3, iv i4, iv i5, iv k0, iv k1, iv k2, iv k3, iv k4, iv r0, iv r1, iv r2, iv r3, iv r4, rv a801, .unset, .unset, .unset, .unset, .unset, .unset] [(.int i3), (.int r3), (.ref a801)])
  obtain ⟨cl809, A809, q809, S809, M809, H809, G809⟩ := id V807
  obtain ⟨T809, h809, X809, e809, W809, s809⟩ := stI X807 hx hZ e807 A809 (j := r3) (inb_of S809 gr3) (g := (mkF m 259 #[iv i0, iv i1, iv i2, iv i3, iv i4, iv i5, iv k0, iv k1, iv k2, iv k3, iv k4, iv r0, iv r1, iv r2, iv r3, iv r4, rv a801, .unset, .unset, .unset, .unset, .unset, .unset] [(.int i3), (.int r3), (.ref a801)])) rfl rfl (hb hby at_259)
  have N809 := Fr.snoc X809 N807 f801
  have O810 : Ext Z.heap h809 := xw O808 W809 f801
  have V809 : Arv Z h809 a801 k801 .int (5 : Int32) ((((([(.int (0 : Int32)), (.int (0 : Int32)), (.int (0 : Int32)), (.int (0 : Int32)), (.int (0 : Int32))] : List Value).set r0.toNatClampNeg (.int i0)).set r1.toNatClampNeg (.int i1)).set r2.toNatClampNeg (.int i2)).set r3.toNatClampNeg (.int i3)) (.int 0) := Arv.set A809 q809 S809 M809 H809 G809 rfl W809 _ rfl (by simp only [List.length_set, List.length_cons, List.length_nil]; exact own_lt5 gr3)
  refine go s809 ?_
  show Ends p e below _ T809 (mkF m 260 #[iv i0, iv i1, iv i2, iv i3, iv i4, iv i5, iv k0, iv k1, iv k2, iv k3, iv k4, iv r0, iv r1, iv r2, iv r3, iv r4, rv a801, .unset, .unset, .unset, .unset, .unset, .unset] [])
  refine go (fun _ => XS.aload X809.here hx rfl (hb hby at_260) rfl rfl) ?_
  refine go (fun _ => XS.iload X809.here hx rfl (hb hby at_262) rfl) ?_
  refine go (fun _ => XS.iload X809.here hx rfl (hb hby at_264) rfl) ?_
  show Ends p e below _ T809 (mkF m 266 #[iv i0, iv i1, iv i2, iv i3, iv i4, iv i5, iv k0, iv k1, iv k2, iv k3, iv k4, iv r0, iv r1, iv r2, iv r3, iv r4, rv a801, .unset, .unset, .unset, .unset, .unset, .unset] [(.int i4), (.int r4), (.ref a801)])
  obtain ⟨cl811, A811, q811, S811, M811, H811, G811⟩ := id V809
  obtain ⟨T811, h811, X811, e811, W811, s811⟩ := stI X809 hx hZ e809 A811 (j := r4) (inb_of S811 gr4) (g := (mkF m 266 #[iv i0, iv i1, iv i2, iv i3, iv i4, iv i5, iv k0, iv k1, iv k2, iv k3, iv k4, iv r0, iv r1, iv r2, iv r3, iv r4, rv a801, .unset, .unset, .unset, .unset, .unset, .unset] [(.int i4), (.int r4), (.ref a801)])) rfl rfl (hb hby at_266)
  have N811 := Fr.snoc X811 N809 f801
  have O812 : Ext Z.heap h811 := xw O810 W811 f801
  have V811 : Arv Z h811 a801 k801 .int (5 : Int32) (((((([(.int (0 : Int32)), (.int (0 : Int32)), (.int (0 : Int32)), (.int (0 : Int32)), (.int (0 : Int32))] : List Value).set r0.toNatClampNeg (.int i0)).set r1.toNatClampNeg (.int i1)).set r2.toNatClampNeg (.int i2)).set r3.toNatClampNeg (.int i3)).set r4.toNatClampNeg (.int i4)) (.int 0) := Arv.set A811 q811 S811 M811 H811 G811 rfl W811 _ rfl (by simp only [List.length_set, List.length_cons, List.length_nil]; exact own_lt5 gr4)
  refine go s811 ?_
  show Ends p e below _ T811 (mkF m 267 #[iv i0, iv i1, iv i2, iv i3, iv i4, iv i5, iv k0, iv k1, iv k2, iv k3, iv k4, iv r0, iv r1, iv r2, iv r3, iv r4, rv a801, .unset, .unset, .unset, .unset, .unset, .unset] [])
  obtain ⟨T813, h813, X813, e813, E813, A813, D813, U813, s813⟩ := newO X811 hx hZ hown (hwi hw 5 rfl) (hwi hw 6 rfl) (hwi hw 7 rfl) e811 (g := (mkF m 267 #[iv i0, iv i1, iv i2, iv i3, iv i4, iv i5, iv k0, iv k1, iv k2, iv k3, iv k4, iv r0, iv r1, iv r2, iv r3, iv r4, rv a801, .unset, .unset, .unset, .unset, .unset, .unset] [])) rfl (hb hby at_267) (by decide) (by decide)
  obtain ⟨a813, g813⟩ : ∃ z : Addr, z = h811.size := ⟨_, rfl⟩
  have n814 : a801 ≠ a813 := fun q => absurd (V811.lt) (by rw [q, g813]; exact Nat.lt_irrefl _)
  have f813 : Z.heap.size ≤ a813 := by rw [g813]; exact (O812).1
  rw [← g813] at A813 D813 U813 s813
  have O815 : Ext Z.heap h813 := xx O812 E813
  refine go s813 ?_
  show Ends p e below _ T813 (mkF m 270 #[iv i0, iv i1, iv i2, iv i3, iv i4, iv i5, iv k0, iv k1, iv k2, iv k3, iv k4, iv r0, iv r1, iv r2, iv r3, iv r4, rv a801, .unset, .unset, .unset, .unset, .unset, .unset] [(.ref a813)])
  refine go (fun _ => XS.dup X813.here hx rfl (hb hby at_270) rfl rfl) ?_
  show Ends p e below _ T813 (mkF m 271 #[iv i0, iv i1, iv i2, iv i3, iv i4, iv i5, iv k0, iv k1, iv k2, iv k3, iv k4, iv r0, iv r1, iv r2, iv r3, iv r4, rv a801, .unset, .unset, .unset, .unset, .unset, .unset] [(.ref a813), (.ref a813)])
  have F816 := (D813 (Or.inl (hwi hw 15 rfl)) (ty := (.array .int)) (by decide))
  have F817 := (D813 (Or.inl (hwi hw 18 rfl)) (ty := (.array .double)) (by decide))
  have F818 := (D813 (Or.inl (hwi hw 25 rfl)) (ty := .int) (by decide))
  refine cInit X813 hx hZ hown (by rw [hml]; rfl) e813 (hwi hw 8 rfl) (hwi hw 9 rfl) (hwi hw 7 rfl) (hwi hw 10 rfl) a813 [] [(.ref a813)] rfl (rm_chi hw a813 _ O815 f813 A813 F816 F817 F818) (hb hby at_271) rfl (lenOf pd_3 rfl) rfl (by decide) (by decide) (Nat.le_of_ble_eq_true rfl) (by decide) (by decide) ?_
  rintro v819 T819 h819 L819 X819 e819 ⟨b1819, b2819, k1819, k2819, rfl, N819, K819, ga819, gb819, nn819, F1819, F2819, F3819, Va819, Vb819⟩
  have N819a := Fr.app N811 N819
  have F820 := (Arv.ext V811 E813)
  have n821 : a801 ≠ b1819 := Nat.ne_of_lt (Nat.lt_of_lt_of_le (F820.lt) ga819)
  have n822 : a813 ≠ b1819 := Nat.ne_of_lt (Nat.lt_of_lt_of_le (A813.lt) ga819)
  have f823 : Z.heap.size ≤ b1819 := Nat.le_trans (O815).1 ga819
  have n824 : a801 ≠ b2819 := Nat.ne_of_lt (Nat.lt_of_lt_of_le (F820.lt) gb819)
  have n825 : a813 ≠ b2819 := Nat.ne_of_lt (Nat.lt_of_lt_of_le (A813.lt) gb819)
  have f826 : Z.heap.size ≤ b2819 := Nat.le_trans (O815).1 gb819
  have O827 : Ext Z.heap h819 := xk O815 K819 (allS f813 all0)
  have Vc819 : Arv Z h819 b1819 k1819 .int (1024 : Int32) [(.int (own_cf i0 i1 i2 i3 i4 5)), (.int (own_cf i0 i1 i2 i3 i4 5)), (.int (own_cf i0 i1 i2 i3 i4 5)), (.int (own_cf i0 i1 i2 i3 i4 5)), (.int (own_cf i0 i1 i2 i3 i4 5))] (.int 0) := Va819
  have Vk819 : Arv Z h819 b2819 k2819 .double (1024 : Int32) [(.double (FP.l2d (own_kf k0 k1 k2 k3 k4 5))), (.double (FP.l2d (own_kf k0 k1 k2 k3 k4 5))), (.double (FP.l2d (own_kf k0 k1 k2 k3 k4 5))), (.double (FP.l2d (own_kf k0 k1 k2 k3 k4 5))), (.double (FP.l2d (own_kf k0 k1 k2 k3 k4 5)))] (.double (FP.l2d 0)) := by rw [own_kf5]; exact Vb819
  show Ends p e below _ T819 (mkF m 274 #[iv i0, iv i1, iv i2, iv i3, iv i4, iv i5, iv k0, iv k1, iv k2, iv k3, iv k4, iv r0, iv r1, iv r2, iv r3, iv r4, rv a801, .unset, .unset, .unset, .unset, .unset, .unset] [(.ref a813)])
  refine go (fun _ => XS.astore X819.here hx rfl (hb hby at_274) rfl rfl (l' := #[iv i0, iv i1, iv i2, iv i3, iv i4, iv i5, iv k0, iv k1, iv k2, iv k3, iv k4, iv r0, iv r1, iv r2, iv r3, iv r4, rv a801, rv a813, .unset, .unset, .unset, .unset, .unset]) rfl) ?_
  refine go (fun _ => XS.aload X819.here hx rfl (hb hby at_276) rfl rfl) ?_
  refine go (fun _ => XS.iloadN X819.here hx rfl (hb hby at_278) rfl) ?_
  refine go (fun _ => XS.iload X819.here hx rfl (hb hby at_279) rfl) ?_
  show Ends p e below _ T819 (mkF m 281 #[iv i0, iv i1, iv i2, iv i3, iv i4, iv i5, iv k0, iv k1, iv k2, iv k3, iv k4, iv r0, iv r1, iv r2, iv r3, iv r4, rv a801, rv a813, .unset, .unset, .unset, .unset, .unset] [(.int k0), (.int i0), (.ref a813)])
  refine go (fun _ => XS.i2dS X819.here hx rfl (hb hby at_281) rfl (i2d_w k0)) ?_
  show Ends p e below _ T819 (mkF m 282 #[iv i0, iv i1, iv i2, iv i3, iv i4, iv i5, iv k0, iv k1, iv k2, iv k3, iv k4, iv r0, iv r1, iv r2, iv r3, iv r4, rv a801, rv a813, .unset, .unset, .unset, .unset, .unset] [(.double (FP.l2d k0.toInt64)), (.int i0), (.ref a813)])
  obtain ⟨q1, hq1⟩ : ∃ z : L5, hpush0 (own_lt k0 k1 k2 k3 k4) (⟨5, 5, 5, 5, 5⟩ : L5) 0 = z := ⟨_, rfl⟩
  have bd1 := hpush0_bd (lt := (own_lt k0 k1 k2 k3 k4)) (q := (⟨5, 5, 5, 5, 5⟩ : L5)) trivial (show 0 < 5 by decide)
  rw [hq1] at bd1
  have bd1a := bd1
  have F828 := (Exa.keep A813 K819)
  refine cVirt X819 hx hZ hown (by rw [hml]; rfl) e819 (hwi hw 19 rfl) (hwi hw 20 rfl) (hwi hw 22 rfl) (hwi hw 21 rfl) (hwi hw 7 rfl) (hwi hw 23 rfl) (notFace_of_selects (args := #[]) (mvT hZ (hwi hw 22 rfl))) a813 F828 [(.int i0), (.double (FP.l2d k0.toInt64))] [] rfl (rm_push0 hw a813 b1819 b2819 k1819 k2819 (own_cf i0 i1 i2 i3 i4) (own_kf k0 k1 k2 k3 k4) (own_lt k0 k1 k2 k3 k4) (⟨5, 5, 5, 5, 5⟩ : L5) q1 0 _ O827 f813 f823 f826 n822 n825 nn819 F828 F1819 F2819 F3819 Vc819 Vk819 (fun i => own_b53 _) hlt  (by decide) hq1) (hb hby at_282) rfl (lenOf pd_4 rfl) (by decide) (by decide) (Nat.le_of_ble_eq_true rfl) (by decide) (by decide) ?_
  rintro v829 T829 h829 L829 X829 e829 ⟨rfl, N829, K829, F1829, F2829, F3829, Vc829, Vk829⟩
  have N829a := Fr.app N819a N829
  have O830 : Ext Z.heap h829 := xk O827 K829 (allS f813 (allS f823 (allS f826 all0)))
  show Ends p e below _ T829 (mkF m 285 #[iv i0, iv i1, iv i2, iv i3, iv i4, iv i5, iv k0, iv k1, iv k2, iv k3, iv k4, iv r0, iv r1, iv r2, iv r3, iv r4, rv a801, rv a813, .unset, .unset, .unset, .unset, .unset] [])
  refine go (fun _ => XS.aload X829.here hx rfl (hb hby at_285) rfl rfl) ?_
  refine go (fun _ => XS.iloadN X829.here hx rfl (hb hby at_287) rfl) ?_
  refine go (fun _ => XS.iload X829.here hx rfl (hb hby at_288) rfl) ?_
  show Ends p e below _ T829 (mkF m 290 #[iv i0, iv i1, iv i2, iv i3, iv i4, iv i5, iv k0, iv k1, iv k2, iv k3, iv k4, iv r0, iv r1, iv r2, iv r3, iv r4, rv a801, rv a813, .unset, .unset, .unset, .unset, .unset] [(.int k1), (.int i1), (.ref a813)])
  refine go (fun _ => XS.i2dS X829.here hx rfl (hb hby at_290) rfl (i2d_w k1)) ?_
  show Ends p e below _ T829 (mkF m 291 #[iv i0, iv i1, iv i2, iv i3, iv i4, iv i5, iv k0, iv k1, iv k2, iv k3, iv k4, iv r0, iv r1, iv r2, iv r3, iv r4, rv a801, rv a813, .unset, .unset, .unset, .unset, .unset] [(.double (FP.l2d k1.toInt64)), (.int i1), (.ref a813)])
  obtain ⟨q2, hq2⟩ : ∃ z : L5, hpush1 (own_lt k0 k1 k2 k3 k4) q1 1 = z := ⟨_, rfl⟩
  have bd2 := hpush1_bd (lt := (own_lt k0 k1 k2 k3 k4)) (q := q1) bd1a (show 1 < 5 by decide)
  rw [hq2] at bd2
  obtain ⟨bd2a, bd2b⟩ := bd2
  have F831 := (Exa.keep F828 K829)
  refine cVirt X829 hx hZ hown (by rw [hml]; rfl) e829 (hwi hw 19 rfl) (hwi hw 20 rfl) (hwi hw 22 rfl) (hwi hw 21 rfl) (hwi hw 7 rfl) (hwi hw 23 rfl) (notFace_of_selects (args := #[]) (mvT hZ (hwi hw 22 rfl))) a813 F831 [(.int i1), (.double (FP.l2d k1.toInt64))] [] rfl (rm_push1 hw a813 b1819 b2819 k1819 k2819 (own_cf i0 i1 i2 i3 i4) (own_kf k0 k1 k2 k3 k4) (own_lt k0 k1 k2 k3 k4) q1 q2 1 _ O830 f813 f823 f826 n822 n825 nn819 F831 F1829 F2829 F3829 Vc829 Vk829 (fun i => own_b53 _) hlt bd1a (by decide) hq2) (hb hby at_291) rfl (lenOf pd_4 rfl) (by decide) (by decide) (Nat.le_of_ble_eq_true rfl) (by decide) (by decide) ?_
  rintro v832 T832 h832 L832 X832 e832 ⟨rfl, N832, K832, F1832, F2832, F3832, Vc832, Vk832⟩
  have N832a := Fr.app N829a N832
  have O833 : Ext Z.heap h832 := xk O830 K832 (allS f813 (allS f823 (allS f826 all0)))
  show Ends p e below _ T832 (mkF m 294 #[iv i0, iv i1, iv i2, iv i3, iv i4, iv i5, iv k0, iv k1, iv k2, iv k3, iv k4, iv r0, iv r1, iv r2, iv r3, iv r4, rv a801, rv a813, .unset, .unset, .unset, .unset, .unset] [])
  refine go (fun _ => XS.aload X832.here hx rfl (hb hby at_294) rfl rfl) ?_
  refine go (fun _ => XS.iloadN X832.here hx rfl (hb hby at_296) rfl) ?_
  refine go (fun _ => XS.iload X832.here hx rfl (hb hby at_297) rfl) ?_
  show Ends p e below _ T832 (mkF m 299 #[iv i0, iv i1, iv i2, iv i3, iv i4, iv i5, iv k0, iv k1, iv k2, iv k3, iv k4, iv r0, iv r1, iv r2, iv r3, iv r4, rv a801, rv a813, .unset, .unset, .unset, .unset, .unset] [(.int k2), (.int i2), (.ref a813)])
  refine go (fun _ => XS.i2dS X832.here hx rfl (hb hby at_299) rfl (i2d_w k2)) ?_
  show Ends p e below _ T832 (mkF m 300 #[iv i0, iv i1, iv i2, iv i3, iv i4, iv i5, iv k0, iv k1, iv k2, iv k3, iv k4, iv r0, iv r1, iv r2, iv r3, iv r4, rv a801, rv a813, .unset, .unset, .unset, .unset, .unset] [(.double (FP.l2d k2.toInt64)), (.int i2), (.ref a813)])
  obtain ⟨q3, hq3⟩ : ∃ z : L5, hpush2 (own_lt k0 k1 k2 k3 k4) q2 2 = z := ⟨_, rfl⟩
  have bd3 := hpush2_bd (lt := (own_lt k0 k1 k2 k3 k4)) (q := q2) ⟨bd2a, bd2b⟩ (show 2 < 5 by decide)
  rw [hq3] at bd3
  obtain ⟨bd3a, bd3b, bd3c⟩ := bd3
  have F834 := (Exa.keep F831 K832)
  refine cVirt X832 hx hZ hown (by rw [hml]; rfl) e832 (hwi hw 19 rfl) (hwi hw 20 rfl) (hwi hw 22 rfl) (hwi hw 21 rfl) (hwi hw 7 rfl) (hwi hw 23 rfl) (notFace_of_selects (args := #[]) (mvT hZ (hwi hw 22 rfl))) a813 F834 [(.int i2), (.double (FP.l2d k2.toInt64))] [] rfl (rm_push2 hw a813 b1819 b2819 k1819 k2819 (own_cf i0 i1 i2 i3 i4) (own_kf k0 k1 k2 k3 k4) (own_lt k0 k1 k2 k3 k4) q2 q3 2 _ O833 f813 f823 f826 n822 n825 nn819 F834 F1832 F2832 F3832 Vc832 Vk832 (fun i => own_b53 _) hlt bd2a bd2b (by decide) hq3) (hb hby at_300) rfl (lenOf pd_4 rfl) (by decide) (by decide) (Nat.le_of_ble_eq_true rfl) (by decide) (by decide) ?_
  rintro v835 T835 h835 L835 X835 e835 ⟨rfl, N835, K835, F1835, F2835, F3835, Vc835, Vk835⟩
  have N835a := Fr.app N832a N835
  have O836 : Ext Z.heap h835 := xk O833 K835 (allS f813 (allS f823 (allS f826 all0)))
  show Ends p e below _ T835 (mkF m 303 #[iv i0, iv i1, iv i2, iv i3, iv i4, iv i5, iv k0, iv k1, iv k2, iv k3, iv k4, iv r0, iv r1, iv r2, iv r3, iv r4, rv a801, rv a813, .unset, .unset, .unset, .unset, .unset] [])
  refine go (fun _ => XS.aload X835.here hx rfl (hb hby at_303) rfl rfl) ?_
  refine go (fun _ => XS.iloadN X835.here hx rfl (hb hby at_305) rfl) ?_
  refine go (fun _ => XS.iload X835.here hx rfl (hb hby at_306) rfl) ?_
  show Ends p e below _ T835 (mkF m 308 #[iv i0, iv i1, iv i2, iv i3, iv i4, iv i5, iv k0, iv k1, iv k2, iv k3, iv k4, iv r0, iv r1, iv r2, iv r3, iv r4, rv a801, rv a813, .unset, .unset, .unset, .unset, .unset] [(.int k3), (.int i3), (.ref a813)])
  refine go (fun _ => XS.i2dS X835.here hx rfl (hb hby at_308) rfl (i2d_w k3)) ?_
  show Ends p e below _ T835 (mkF m 309 #[iv i0, iv i1, iv i2, iv i3, iv i4, iv i5, iv k0, iv k1, iv k2, iv k3, iv k4, iv r0, iv r1, iv r2, iv r3, iv r4, rv a801, rv a813, .unset, .unset, .unset, .unset, .unset] [(.double (FP.l2d k3.toInt64)), (.int i3), (.ref a813)])
  obtain ⟨q4, hq4⟩ : ∃ z : L5, hpush3 (own_lt k0 k1 k2 k3 k4) q3 3 = z := ⟨_, rfl⟩
  have bd4 := hpush3_bd (lt := (own_lt k0 k1 k2 k3 k4)) (q := q3) ⟨bd3a, bd3b, bd3c⟩ (show 3 < 5 by decide)
  rw [hq4] at bd4
  obtain ⟨bd4a, bd4b, bd4c, bd4d⟩ := bd4
  have F837 := (Exa.keep F834 K835)
  refine cVirt X835 hx hZ hown (by rw [hml]; rfl) e835 (hwi hw 19 rfl) (hwi hw 20 rfl) (hwi hw 22 rfl) (hwi hw 21 rfl) (hwi hw 7 rfl) (hwi hw 23 rfl) (notFace_of_selects (args := #[]) (mvT hZ (hwi hw 22 rfl))) a813 F837 [(.int i3), (.double (FP.l2d k3.toInt64))] [] rfl (rm_push3 hw a813 b1819 b2819 k1819 k2819 (own_cf i0 i1 i2 i3 i4) (own_kf k0 k1 k2 k3 k4) (own_lt k0 k1 k2 k3 k4) q3 q4 3 _ O836 f813 f823 f826 n822 n825 nn819 F837 F1835 F2835 F3835 Vc835 Vk835 (fun i => own_b53 _) hlt bd3a bd3b bd3c (by decide) hq4) (hb hby at_309) rfl (lenOf pd_4 rfl) (by decide) (by decide) (Nat.le_of_ble_eq_true rfl) (by decide) (by decide) ?_
  rintro v838 T838 h838 L838 X838 e838 ⟨rfl, N838, K838, F1838, F2838, F3838, Vc838, Vk838⟩
  have N838a := Fr.app N835a N838
  have O839 : Ext Z.heap h838 := xk O836 K838 (allS f813 (allS f823 (allS f826 all0)))
  show Ends p e below _ T838 (mkF m 312 #[iv i0, iv i1, iv i2, iv i3, iv i4, iv i5, iv k0, iv k1, iv k2, iv k3, iv k4, iv r0, iv r1, iv r2, iv r3, iv r4, rv a801, rv a813, .unset, .unset, .unset, .unset, .unset] [])
  refine go (fun _ => XS.aload X838.here hx rfl (hb hby at_312) rfl rfl) ?_
  refine go (fun _ => XS.iload X838.here hx rfl (hb hby at_314) rfl) ?_
  refine go (fun _ => XS.iload X838.here hx rfl (hb hby at_316) rfl) ?_
  show Ends p e below _ T838 (mkF m 318 #[iv i0, iv i1, iv i2, iv i3, iv i4, iv i5, iv k0, iv k1, iv k2, iv k3, iv k4, iv r0, iv r1, iv r2, iv r3, iv r4, rv a801, rv a813, .unset, .unset, .unset, .unset, .unset] [(.int k4), (.int i4), (.ref a813)])
  refine go (fun _ => XS.i2dS X838.here hx rfl (hb hby at_318) rfl (i2d_w k4)) ?_
  show Ends p e below _ T838 (mkF m 319 #[iv i0, iv i1, iv i2, iv i3, iv i4, iv i5, iv k0, iv k1, iv k2, iv k3, iv k4, iv r0, iv r1, iv r2, iv r3, iv r4, rv a801, rv a813, .unset, .unset, .unset, .unset, .unset] [(.double (FP.l2d k4.toInt64)), (.int i4), (.ref a813)])
  obtain ⟨q5, hq5⟩ : ∃ z : L5, hpush4 (own_lt k0 k1 k2 k3 k4) q4 4 = z := ⟨_, rfl⟩
  have bd5 := hpush4_bd (lt := (own_lt k0 k1 k2 k3 k4)) (q := q4) ⟨bd4a, bd4b, bd4c, bd4d⟩ (show 4 < 5 by decide)
  rw [hq5] at bd5
  obtain ⟨bd5a, bd5b, bd5c, bd5d, bd5e⟩ := bd5
  have F840 := (Exa.keep F837 K838)
  refine cVirt X838 hx hZ hown (by rw [hml]; rfl) e838 (hwi hw 19 rfl) (hwi hw 20 rfl) (hwi hw 22 rfl) (hwi hw 21 rfl) (hwi hw 7 rfl) (hwi hw 23 rfl) (notFace_of_selects (args := #[]) (mvT hZ (hwi hw 22 rfl))) a813 F840 [(.int i4), (.double (FP.l2d k4.toInt64))] [] rfl (rm_push4 hw a813 b1819 b2819 k1819 k2819 (own_cf i0 i1 i2 i3 i4) (own_kf k0 k1 k2 k3 k4) (own_lt k0 k1 k2 k3 k4) q4 q5 4 _ O839 f813 f823 f826 n822 n825 nn819 F840 F1838 F2838 F3838 Vc838 Vk838 (fun i => own_b53 _) hlt bd4a bd4b bd4c bd4d (by decide) hq5) (hb hby at_319) rfl (lenOf pd_4 rfl) (by decide) (by decide) (Nat.le_of_ble_eq_true rfl) (by decide) (by decide) ?_
  rintro v841 T841 h841 L841 X841 e841 ⟨rfl, N841, K841, F1841, F2841, F3841, Vc841, Vk841⟩
  have N841a := Fr.app N838a N841
  have O842 : Ext Z.heap h841 := xk O839 K841 (allS f813 (allS f823 (allS f826 all0)))
  show Ends p e below _ T841 (mkF m 322 #[iv i0, iv i1, iv i2, iv i3, iv i4, iv i5, iv k0, iv k1, iv k2, iv k3, iv k4, iv r0, iv r1, iv r2, iv r3, iv r4, rv a801, rv a813, .unset, .unset, .unset, .unset, .unset] [])
  refine go (fun _ => XS.aload X841.here hx rfl (hb hby at_322) rfl rfl) ?_
  show Ends p e below _ T841 (mkF m 324 #[iv i0, iv i1, iv i2, iv i3, iv i4, iv i5, iv k0, iv k1, iv k2, iv k3, iv k4, iv r0, iv r1, iv r2, iv r3, iv r4, rv a801, rv a813, .unset, .unset, .unset, .unset, .unset] [(.ref a813)])
  obtain ⟨q6, hq6⟩ : ∃ z : L5, hpop5 (own_lt k0 k1 k2 k3 k4) q5 = z := ⟨_, rfl⟩
  have bd6 := hpop5_bd (lt := (own_lt k0 k1 k2 k3 k4)) (q := q5) ⟨bd5a, bd5b, bd5c, bd5d, bd5e⟩
  rw [hq6] at bd6
  obtain ⟨bd6a, bd6b, bd6c, bd6d⟩ := bd6
  have F843 := (Exa.keep F840 K841)
  refine cVirt X841 hx hZ hown (by rw [hml]; rfl) e841 (hwi hw 26 rfl) (hwi hw 27 rfl) (hwi hw 29 rfl) (hwi hw 28 rfl) (hwi hw 7 rfl) (hwi hw 30 rfl) (notFace_of_selects (args := #[]) (mvT hZ (hwi hw 29 rfl))) a813 F843 [] [] rfl (rm_pop5 hw a813 b1819 b2819 k1819 k2819 (own_cf i0 i1 i2 i3 i4) (own_kf k0 k1 k2 k3 k4) (own_lt k0 k1 k2 k3 k4) q5 q6  _ O842 f813 f823 f826 n822 n825 nn819 F843 F1841 F2841 F3841 Vc841 Vk841 (fun i => own_b53 _) hlt bd5a bd5b bd5c bd5d bd5e  hq6) (hb hby at_324) rfl (lenOf pd_5 rfl) (by decide) (by decide) (Nat.le_of_ble_eq_true rfl) (by decide) (by decide) ?_
  rintro v844 T844 h844 L844 X844 e844 ⟨rfl, N844, K844, F1844, F2844, F3844, Vc844, Vk844⟩
  have N844a := Fr.app N841a N844
  have O845 : Ext Z.heap h844 := xk O842 K844 (allS f813 (allS f823 (allS f826 all0)))
  show Ends p e below _ T844 (mkF m 327 #[iv i0, iv i1, iv i2, iv i3, iv i4, iv i5, iv k0, iv k1, iv k2, iv k3, iv k4, iv r0, iv r1, iv r2, iv r3, iv r4, rv a801, rv a813, .unset, .unset, .unset, .unset, .unset] [(.int (own_cf i0 i1 i2 i3 i4 q5.a))])
  refine go (fun _ => XS.istore X844.here hx rfl (hb hby at_327) rfl (l' := #[iv i0, iv i1, iv i2, iv i3, iv i4, iv i5, iv k0, iv k1, iv k2, iv k3, iv k4, iv r0, iv r1, iv r2, iv r3, iv r4, rv a801, rv a813, iv (own_cf i0 i1 i2 i3 i4 q5.a), .unset, .unset, .unset, .unset]) rfl) ?_
  refine go (fun _ => XS.aload X844.here hx rfl (hb hby at_329) rfl rfl) ?_
  show Ends p e below _ T844 (mkF m 331 #[iv i0, iv i1, iv i2, iv i3, iv i4, iv i5, iv k0, iv k1, iv k2, iv k3, iv k4, iv r0, iv r1, iv r2, iv r3, iv r4, rv a801, rv a813, iv (own_cf i0 i1 i2 i3 i4 q5.a), .unset, .unset, .unset, .unset] [(.ref a813)])
  obtain ⟨q7, hq7⟩ : ∃ z : L5, hpop4 (own_lt k0 k1 k2 k3 k4) q6 = z := ⟨_, rfl⟩
  have bd7 := hpop4_bd (lt := (own_lt k0 k1 k2 k3 k4)) (q := q6) ⟨bd6a, bd6b, bd6c, bd6d⟩
  rw [hq7] at bd7
  obtain ⟨bd7a, bd7b, bd7c⟩ := bd7
  have F846 := (Exa.keep F843 K844)
  refine cVirt X844 hx hZ hown (by rw [hml]; rfl) e844 (hwi hw 26 rfl) (hwi hw 27 rfl) (hwi hw 29 rfl) (hwi hw 28 rfl) (hwi hw 7 rfl) (hwi hw 30 rfl) (notFace_of_selects (args := #[]) (mvT hZ (hwi hw 29 rfl))) a813 F846 [] [] rfl (rm_pop4 hw a813 b1819 b2819 k1819 k2819 (own_cf i0 i1 i2 i3 i4) (own_kf k0 k1 k2 k3 k4) (own_lt k0 k1 k2 k3 k4) q6 q7  _ O845 f813 f823 f826 n822 n825 nn819 F846 F1844 F2844 F3844 Vc844 Vk844 (fun i => own_b53 _) hlt bd6a bd6b bd6c bd6d  hq7) (hb hby at_331) rfl (lenOf pd_5 rfl) (by decide) (by decide) (Nat.le_of_ble_eq_true rfl) (by decide) (by decide) ?_
  rintro v847 T847 h847 L847 X847 e847 ⟨rfl, N847, K847, F1847, F2847, F3847, Vc847, Vk847⟩
  have N847a := Fr.app N844a N847
  have O848 : Ext Z.heap h847 := xk O845 K847 (allS f813 (allS f823 (allS f826 all0)))
  show Ends p e below _ T847 (mkF m 334 #[iv i0, iv i1, iv i2, iv i3, iv i4, iv i5, iv k0, iv k1, iv k2, iv k3, iv k4, iv r0, iv r1, iv r2, iv r3, iv r4, rv a801, rv a813, iv (own_cf i0 i1 i2 i3 i4 q5.a), .unset, .unset, .unset, .unset] [(.int (own_cf i0 i1 i2 i3 i4 q6.a))])
  refine go (fun _ => XS.istore X847.here hx rfl (hb hby at_334) rfl (l' := #[iv i0, iv i1, iv i2, iv i3, iv i4, iv i5, iv k0, iv k1, iv k2, iv k3, iv k4, iv r0, iv r1, iv r2, iv r3, iv r4, rv a801, rv a813, iv (own_cf i0 i1 i2 i3 i4 q5.a), iv (own_cf i0 i1 i2 i3 i4 q6.a), .unset, .unset, .unset]) rfl) ?_
  refine go (fun _ => XS.aload X847.here hx rfl (hb hby at_336) rfl rfl) ?_
  show Ends p e below _ T847 (mkF m 338 #[iv i0, iv i1, iv i2, iv i3, iv i4, iv i5, iv k0, iv k1, iv k2, iv k3, iv k4, iv r0, iv r1, iv r2, iv r3, iv r4, rv a801, rv a813, iv (own_cf i0 i1 i2 i3 i4 q5.a), iv (own_cf i0 i1 i2 i3 i4 q6.a), .unset, .unset, .unset] [(.ref a813)])
  obtain ⟨q8, hq8⟩ : ∃ z : L5, hpop3 (own_lt k0 k1 k2 k3 k4) q7 = z := ⟨_, rfl⟩
  have bd8 := hpop3_bd (lt := (own_lt k0 k1 k2 k3 k4)) (q := q7) ⟨bd7a, bd7b, bd7c⟩
  rw [hq8] at bd8
  obtain ⟨bd8a, bd8b⟩ := bd8
  have F849 := (Exa.keep F846 K847)
  refine cVirt X847 hx hZ hown (by rw [hml]; rfl) e847 (hwi hw 26 rfl) (hwi hw 27 rfl) (hwi hw 29 rfl) (hwi hw 28 rfl) (hwi hw 7 rfl) (hwi hw 30 rfl) (notFace_of_selects (args := #[]) (mvT hZ (hwi hw 29 rfl))) a813 F849 [] [] rfl (rm_pop3 hw a813 b1819 b2819 k1819 k2819 (own_cf i0 i1 i2 i3 i4) (own_kf k0 k1 k2 k3 k4) (own_lt k0 k1 k2 k3 k4) q7 q8  _ O848 f813 f823 f826 n822 n825 nn819 F849 F1847 F2847 F3847 Vc847 Vk847 (fun i => own_b53 _) hlt bd7a bd7b bd7c  hq8) (hb hby at_338) rfl (lenOf pd_5 rfl) (by decide) (by decide) (Nat.le_of_ble_eq_true rfl) (by decide) (by decide) ?_
  rintro v850 T850 h850 L850 X850 e850 ⟨rfl, N850, K850, F1850, F2850, F3850, Vc850, Vk850⟩
  have N850a := Fr.app N847a N850
  have O851 : Ext Z.heap h850 := xk O848 K850 (allS f813 (allS f823 (allS f826 all0)))
  show Ends p e below _ T850 (mkF m 341 #[iv i0, iv i1, iv i2, iv i3, iv i4, iv i5, iv k0, iv k1, iv k2, iv k3, iv k4, iv r0, iv r1, iv r2, iv r3, iv r4, rv a801, rv a813, iv (own_cf i0 i1 i2 i3 i4 q5.a), iv (own_cf i0 i1 i2 i3 i4 q6.a), .unset, .unset, .unset] [(.int (own_cf i0 i1 i2 i3 i4 q7.a))])
  refine go (fun _ => XS.istore X850.here hx rfl (hb hby at_341) rfl (l' := #[iv i0, iv i1, iv i2, iv i3, iv i4, iv i5, iv k0, iv k1, iv k2, iv k3, iv k4, iv r0, iv r1, iv r2, iv r3, iv r4, rv a801, rv a813, iv (own_cf i0 i1 i2 i3 i4 q5.a), iv (own_cf i0 i1 i2 i3 i4 q6.a), iv (own_cf i0 i1 i2 i3 i4 q7.a), .unset, .unset]) rfl) ?_
  refine go (fun _ => XS.aload X850.here hx rfl (hb hby at_343) rfl rfl) ?_
  show Ends p e below _ T850 (mkF m 345 #[iv i0, iv i1, iv i2, iv i3, iv i4, iv i5, iv k0, iv k1, iv k2, iv k3, iv k4, iv r0, iv r1, iv r2, iv r3, iv r4, rv a801, rv a813, iv (own_cf i0 i1 i2 i3 i4 q5.a), iv (own_cf i0 i1 i2 i3 i4 q6.a), iv (own_cf i0 i1 i2 i3 i4 q7.a), .unset, .unset] [(.ref a813)])
  obtain ⟨q9, hq9⟩ : ∃ z : L5, hpop2 (own_lt k0 k1 k2 k3 k4) q8 = z := ⟨_, rfl⟩
  have bd9 := hpop2_bd (lt := (own_lt k0 k1 k2 k3 k4)) (q := q8) ⟨bd8a, bd8b⟩
  rw [hq9] at bd9
  have bd9a := bd9
  have F852 := (Exa.keep F849 K850)
  refine cVirt X850 hx hZ hown (by rw [hml]; rfl) e850 (hwi hw 26 rfl) (hwi hw 27 rfl) (hwi hw 29 rfl) (hwi hw 28 rfl) (hwi hw 7 rfl) (hwi hw 30 rfl) (notFace_of_selects (args := #[]) (mvT hZ (hwi hw 29 rfl))) a813 F852 [] [] rfl (rm_pop2 hw a813 b1819 b2819 k1819 k2819 (own_cf i0 i1 i2 i3 i4) (own_kf k0 k1 k2 k3 k4) (own_lt k0 k1 k2 k3 k4) q8 q9  _ O851 f813 f823 f826 n822 n825 nn819 F852 F1850 F2850 F3850 Vc850 Vk850 (fun i => own_b53 _) hlt bd8a bd8b  hq9) (hb hby at_345) rfl (lenOf pd_5 rfl) (by decide) (by decide) (Nat.le_of_ble_eq_true rfl) (by decide) (by decide) ?_
  rintro v853 T853 h853 L853 X853 e853 ⟨rfl, N853, K853, F1853, F2853, F3853, Vc853, Vk853⟩
  have N853a := Fr.app N850a N853
  have O854 : Ext Z.heap h853 := xk O851 K853 (allS f813 (allS f823 (allS f826 all0)))
  show Ends p e below _ T853 (mkF m 348 #[iv i0, iv i1, iv i2, iv i3, iv i4, iv i5, iv k0, iv k1, iv k2, iv k3, iv k4, iv r0, iv r1, iv r2, iv r3, iv r4, rv a801, rv a813, iv (own_cf i0 i1 i2 i3 i4 q5.a), iv (own_cf i0 i1 i2 i3 i4 q6.a), iv (own_cf i0 i1 i2 i3 i4 q7.a), .unset, .unset] [(.int (own_cf i0 i1 i2 i3 i4 q8.a))])
  refine go (fun _ => XS.istore X853.here hx rfl (hb hby at_348) rfl (l' := #[iv i0, iv i1, iv i2, iv i3, iv i4, iv i5, iv k0, iv k1, iv k2, iv k3, iv k4, iv r0, iv r1, iv r2, iv r3, iv r4, rv a801, rv a813, iv (own_cf i0 i1 i2 i3 i4 q5.a), iv (own_cf i0 i1 i2 i3 i4 q6.a), iv (own_cf i0 i1 i2 i3 i4 q7.a), iv (own_cf i0 i1 i2 i3 i4 q8.a), .unset]) rfl) ?_
  refine go (fun _ => XS.aload X853.here hx rfl (hb hby at_350) rfl rfl) ?_
  show Ends p e below _ T853 (mkF m 352 #[iv i0, iv i1, iv i2, iv i3, iv i4, iv i5, iv k0, iv k1, iv k2, iv k3, iv k4, iv r0, iv r1, iv r2, iv r3, iv r4, rv a801, rv a813, iv (own_cf i0 i1 i2 i3 i4 q5.a), iv (own_cf i0 i1 i2 i3 i4 q6.a), iv (own_cf i0 i1 i2 i3 i4 q7.a), iv (own_cf i0 i1 i2 i3 i4 q8.a), .unset] [(.ref a813)])
  obtain ⟨q10, hq10⟩ : ∃ z : L5, hpop1 (own_lt k0 k1 k2 k3 k4) q9 = z := ⟨_, rfl⟩
  have F855 := (Exa.keep F852 K853)
  refine cVirt X853 hx hZ hown (by rw [hml]; rfl) e853 (hwi hw 26 rfl) (hwi hw 27 rfl) (hwi hw 29 rfl) (hwi hw 28 rfl) (hwi hw 7 rfl) (hwi hw 30 rfl) (notFace_of_selects (args := #[]) (mvT hZ (hwi hw 29 rfl))) a813 F855 [] [] rfl (rm_pop1 hw a813 b1819 b2819 k1819 k2819 (own_cf i0 i1 i2 i3 i4) (own_kf k0 k1 k2 k3 k4) (own_lt k0 k1 k2 k3 k4) q9 q10  _ O854 f813 f823 f826 n822 n825 nn819 F855 F1853 F2853 F3853 Vc853 Vk853 (fun i => own_b53 _) hlt bd9a  hq10) (hb hby at_352) rfl (lenOf pd_5 rfl) (by decide) (by decide) (Nat.le_of_ble_eq_true rfl) (by decide) (by decide) ?_
  rintro v856 T856 h856 L856 X856 e856 ⟨rfl, N856, K856, F1856, F2856, F3856, Vc856, Vk856⟩
  have N856a := Fr.app N853a N856
  have O857 : Ext Z.heap h856 := xk O854 K856 (allS f813 (allS f823 (allS f826 all0)))
  show Ends p e below _ T856 (mkF m 355 #[iv i0, iv i1, iv i2, iv i3, iv i4, iv i5, iv k0, iv k1, iv k2, iv k3, iv k4, iv r0, iv r1, iv r2, iv r3, iv r4, rv a801, rv a813, iv (own_cf i0 i1 i2 i3 i4 q5.a), iv (own_cf i0 i1 i2 i3 i4 q6.a), iv (own_cf i0 i1 i2 i3 i4 q7.a), iv (own_cf i0 i1 i2 i3 i4 q8.a), .unset] [(.int (own_cf i0 i1 i2 i3 i4 q9.a))])
  refine go (fun _ => XS.istore X856.here hx rfl (hb hby at_355) rfl (l' := #[iv i0, iv i1, iv i2, iv i3, iv i4, iv i5, iv k0, iv k1, iv k2, iv k3, iv k4, iv r0, iv r1, iv r2, iv r3, iv r4, rv a801, rv a813, iv (own_cf i0 i1 i2 i3 i4 q5.a), iv (own_cf i0 i1 i2 i3 i4 q6.a), iv (own_cf i0 i1 i2 i3 i4 q7.a), iv (own_cf i0 i1 i2 i3 i4 q8.a), iv (own_cf i0 i1 i2 i3 i4 q9.a)]) rfl) ?_
  show Ends p e below _ T856 (mkF m 357 #[iv i0, iv i1, iv i2, iv i3, iv i4, iv i5, iv k0, iv k1, iv k2, iv k3, iv k4, iv r0, iv r1, iv r2, iv r3, iv r4, rv a801, rv a813, iv (own_cf i0 i1 i2 i3 i4 q5.a), iv (own_cf i0 i1 i2 i3 i4 q6.a), iv (own_cf i0 i1 i2 i3 i4 q7.a), iv (own_cf i0 i1 i2 i3 i4 q8.a), iv (own_cf i0 i1 i2 i3 i4 q9.a)] [])
  have F858 := (Arv.keep (Arv.keep (Arv.keep (Arv.keep (Arv.keep (Arv.keep (Arv.keep (Arv.keep (Arv.keep (Arv.keep (Arv.keep F820 K819 (ninS n814 nin0)) K829 (ninS n814 (ninS n821 (ninS n824 nin0)))) K832 (ninS n814 (ninS n821 (ninS n824 nin0)))) K835 (ninS n814 (ninS n821 (ninS n824 nin0)))) K838 (ninS n814 (ninS n821 (ninS n824 nin0)))) K841 (ninS n814 (ninS n821 (ninS n824 nin0)))) K844 (ninS n814 (ninS n821 (ninS n824 nin0)))) K847 (ninS n814 (ninS n821 (ninS n824 nin0)))) K850 (ninS n814 (ninS n821 (ninS n824 nin0)))) K853 (ninS n814 (ninS n821 (ninS n824 nin0)))) K856 (ninS n814 (ninS n821 (ninS n824 nin0))))
  have ex := own_ex n01 n02 n03 n04 n12 n13 n14 n23 n24 n34 (fun i => Value.int (own_cf i0 i1 i2 i3 i4 i))
  rw [← hr0, ← hr1, ← hr2, ← hr3, ← hr4] at ex
  have lb : (labs (own_lt k0 k1 k2 k3 k4)).map (fun i => Value.int (own_cf i0 i1 i2 i3 i4 i)) = [(.int (own_cf i0 i1 i2 i3 i4 q5.a)), (.int (own_cf i0 i1 i2 i3 i4 q6.a)), (.int (own_cf i0 i1 i2 i3 i4 q7.a)), (.int (own_cf i0 i1 i2 i3 i4 q8.a)), (.int (own_cf i0 i1 i2 i3 i4 q9.a))] := by
    rw [← hq9, ← hq8, ← hq7, ← hq6, ← hq5, ← hq4, ← hq3, ← hq2, ← hq1]; rfl
  have VE : Arv Z h856 a801 k801 .int (5 : Int32) [(.int (own_cf i0 i1 i2 i3 i4 q5.a)), (.int (own_cf i0 i1 i2 i3 i4 q6.a)), (.int (own_cf i0 i1 i2 i3 i4 q7.a)), (.int (own_cf i0 i1 i2 i3 i4 q8.a)), (.int (own_cf i0 i1 i2 i3 i4 q9.a))] (.int 0) := by rw [← lb, ← ex]; exact F858
  refine go (fun _ => XS.iload X856.here hx rfl (hb hby at_357) rfl) ?_
  refine go (fun _ => XS.aload X856.here hx rfl (hb hby at_359) rfl rfl) ?_
  refine go (fun _ => XT.iconstV X856.here hx rfl (0 : Int32) (hb hby at_361) (by decide)) ?_
  show Ends p e below _ T856 (mkF m 362 #[iv i0, iv i1, iv i2, iv i3, iv i4, iv i5, iv k0, iv k1, iv k2, iv k3, iv k4, iv r0, iv r1, iv r2, iv r3, iv r4, rv a801, rv a813, iv (own_cf i0 i1 i2 i3 i4 q5.a), iv (own_cf i0 i1 i2 i3 i4 q6.a), iv (own_cf i0 i1 i2 i3 i4 q7.a), iv (own_cf i0 i1 i2 i3 i4 q8.a), iv (own_cf i0 i1 i2 i3 i4 q9.a)] [(.int (0 : Int32)), (.ref a801), (.int (own_cf i0 i1 i2 i3 i4 q5.a))])
  obtain ⟨cl859, A859, -, S859, M859, H859, -⟩ := id VE
  have B859 := inb_of S859 (j := (0 : Int32)) (by decide)
  refine go (fun _ => X856.iaload hx (j := (0 : Int32)) (v := (.int (own_cf i0 i1 i2 i3 i4 q5.a))) (by rw [e856]; exact A859.1) (State.isArrayOf_alike hZ.alike A859.2.1) A859.2.2 B859 (H859.at B859 rfl) (g := (mkF m 362 #[iv i0, iv i1, iv i2, iv i3, iv i4, iv i5, iv k0, iv k1, iv k2, iv k3, iv k4, iv r0, iv r1, iv r2, iv r3, iv r4, rv a801, rv a813, iv (own_cf i0 i1 i2 i3 i4 q5.a), iv (own_cf i0 i1 i2 i3 i4 q6.a), iv (own_cf i0 i1 i2 i3 i4 q7.a), iv (own_cf i0 i1 i2 i3 i4 q8.a), iv (own_cf i0 i1 i2 i3 i4 q9.a)] [(.int (0 : Int32)), (.ref a801), (.int (own_cf i0 i1 i2 i3 i4 q5.a))])) rfl rfl (hb hby at_362) _) ?_
  show Ends p e below _ T856 (mkF m 363 #[iv i0, iv i1, iv i2, iv i3, iv i4, iv i5, iv k0, iv k1, iv k2, iv k3, iv k4, iv r0, iv r1, iv r2, iv r3, iv r4, rv a801, rv a813, iv (own_cf i0 i1 i2 i3 i4 q5.a), iv (own_cf i0 i1 i2 i3 i4 q6.a), iv (own_cf i0 i1 i2 i3 i4 q7.a), iv (own_cf i0 i1 i2 i3 i4 q8.a), iv (own_cf i0 i1 i2 i3 i4 q9.a)] [(.int (own_cf i0 i1 i2 i3 i4 q5.a)), (.int (own_cf i0 i1 i2 i3 i4 q5.a))])
  refine go (fun _ => XS.icmpNo X856.here hx rfl (hb hby at_363) rfl (XT.ii_ne_f (rfl : (own_cf i0 i1 i2 i3 i4 q5.a) = (own_cf i0 i1 i2 i3 i4 q5.a)))) ?_
  show Ends p e below _ T856 (mkF m 366 #[iv i0, iv i1, iv i2, iv i3, iv i4, iv i5, iv k0, iv k1, iv k2, iv k3, iv k4, iv r0, iv r1, iv r2, iv r3, iv r4, rv a801, rv a813, iv (own_cf i0 i1 i2 i3 i4 q5.a), iv (own_cf i0 i1 i2 i3 i4 q6.a), iv (own_cf i0 i1 i2 i3 i4 q7.a), iv (own_cf i0 i1 i2 i3 i4 q8.a), iv (own_cf i0 i1 i2 i3 i4 q9.a)] [])
  refine go (fun _ => XS.iload X856.here hx rfl (hb hby at_366) rfl) ?_
  refine go (fun _ => XS.aload X856.here hx rfl (hb hby at_368) rfl rfl) ?_
  refine go (fun _ => XT.iconstV X856.here hx rfl (1 : Int32) (hb hby at_370) (by decide)) ?_
  show Ends p e below _ T856 (mkF m 371 #[iv i0, iv i1, iv i2, iv i3, iv i4, iv i5, iv k0, iv k1, iv k2, iv k3, iv k4, iv r0, iv r1, iv r2, iv r3, iv r4, rv a801, rv a813, iv (own_cf i0 i1 i2 i3 i4 q5.a), iv (own_cf i0 i1 i2 i3 i4 q6.a), iv (own_cf i0 i1 i2 i3 i4 q7.a), iv (own_cf i0 i1 i2 i3 i4 q8.a), iv (own_cf i0 i1 i2 i3 i4 q9.a)] [(.int (1 : Int32)), (.ref a801), (.int (own_cf i0 i1 i2 i3 i4 q6.a))])
  obtain ⟨cl860, A860, -, S860, M860, H860, -⟩ := id VE
  have B860 := inb_of S860 (j := (1 : Int32)) (by decide)
  refine go (fun _ => X856.iaload hx (j := (1 : Int32)) (v := (.int (own_cf i0 i1 i2 i3 i4 q6.a))) (by rw [e856]; exact A860.1) (State.isArrayOf_alike hZ.alike A860.2.1) A860.2.2 B860 (H860.at B860 rfl) (g := (mkF m 371 #[iv i0, iv i1, iv i2, iv i3, iv i4, iv i5, iv k0, iv k1, iv k2, iv k3, iv k4, iv r0, iv r1, iv r2, iv r3, iv r4, rv a801, rv a813, iv (own_cf i0 i1 i2 i3 i4 q5.a), iv (own_cf i0 i1 i2 i3 i4 q6.a), iv (own_cf i0 i1 i2 i3 i4 q7.a), iv (own_cf i0 i1 i2 i3 i4 q8.a), iv (own_cf i0 i1 i2 i3 i4 q9.a)] [(.int (1 : Int32)), (.ref a801), (.int (own_cf i0 i1 i2 i3 i4 q6.a))])) rfl rfl (hb hby at_371) _) ?_
  show Ends p e below _ T856 (mkF m 372 #[iv i0, iv i1, iv i2, iv i3, iv i4, iv i5, iv k0, iv k1, iv k2, iv k3, iv k4, iv r0, iv r1, iv r2, iv r3, iv r4, rv a801, rv a813, iv (own_cf i0 i1 i2 i3 i4 q5.a), iv (own_cf i0 i1 i2 i3 i4 q6.a), iv (own_cf i0 i1 i2 i3 i4 q7.a), iv (own_cf i0 i1 i2 i3 i4 q8.a), iv (own_cf i0 i1 i2 i3 i4 q9.a)] [(.int (own_cf i0 i1 i2 i3 i4 q6.a)), (.int (own_cf i0 i1 i2 i3 i4 q6.a))])
  refine go (fun _ => XS.icmpNo X856.here hx rfl (hb hby at_372) rfl (XT.ii_ne_f (rfl : (own_cf i0 i1 i2 i3 i4 q6.a) = (own_cf i0 i1 i2 i3 i4 q6.a)))) ?_
  show Ends p e below _ T856 (mkF m 375 #[iv i0, iv i1, iv i2, iv i3, iv i4, iv i5, iv k0, iv k1, iv k2, iv k3, iv k4, iv r0, iv r1, iv r2, iv r3, iv r4, rv a801, rv a813, iv (own_cf i0 i1 i2 i3 i4 q5.a), iv (own_cf i0 i1 i2 i3 i4 q6.a), iv (own_cf i0 i1 i2 i3 i4 q7.a), iv (own_cf i0 i1 i2 i3 i4 q8.a), iv (own_cf i0 i1 i2 i3 i4 q9.a)] [])
  refine go (fun _ => XS.iload X856.here hx rfl (hb hby at_375) rfl) ?_
  refine go (fun _ => XS.aload X856.here hx rfl (hb hby at_377) rfl rfl) ?_
  refine go (fun _ => XT.iconstV X856.here hx rfl (2 : Int32) (hb hby at_379) (by decide)) ?_
  show Ends p e below _ T856 (mkF m 380 #[iv i0, iv i1, iv i2, iv i3, iv i4, iv i5, iv k0, iv k1, iv k2, iv k3, iv k4, iv r0, iv r1, iv r2, iv r3, iv r4, rv a801, rv a813, iv (own_cf i0 i1 i2 i3 i4 q5.a), iv (own_cf i0 i1 i2 i3 i4 q6.a), iv (own_cf i0 i1 i2 i3 i4 q7.a), iv (own_cf i0 i1 i2 i3 i4 q8.a), iv (own_cf i0 i1 i2 i3 i4 q9.a)] [(.int (2 : Int32)), (.ref a801), (.int (own_cf i0 i1 i2 i3 i4 q7.a))])
  obtain ⟨cl861, A861, -, S861, M861, H861, -⟩ := id VE
  have B861 := inb_of S861 (j := (2 : Int32)) (by decide)
  refine go (fun _ => X856.iaload hx (j := (2 : Int32)) (v := (.int (own_cf i0 i1 i2 i3 i4 q7.a))) (by rw [e856]; exact A861.1) (State.isArrayOf_alike hZ.alike A861.2.1) A861.2.2 B861 (H861.at B861 rfl) (g := (mkF m 380 #[iv i0, iv i1, iv i2, iv i3, iv i4, iv i5, iv k0, iv k1, iv k2, iv k3, iv k4, iv r0, iv r1, iv r2, iv r3, iv r4, rv a801, rv a813, iv (own_cf i0 i1 i2 i3 i4 q5.a), iv (own_cf i0 i1 i2 i3 i4 q6.a), iv (own_cf i0 i1 i2 i3 i4 q7.a), iv (own_cf i0 i1 i2 i3 i4 q8.a), iv (own_cf i0 i1 i2 i3 i4 q9.a)] [(.int (2 : Int32)), (.ref a801), (.int (own_cf i0 i1 i2 i3 i4 q7.a))])) rfl rfl (hb hby at_380) _) ?_
  show Ends p e below _ T856 (mkF m 381 #[iv i0, iv i1, iv i2, iv i3, iv i4, iv i5, iv k0, iv k1, iv k2, iv k3, iv k4, iv r0, iv r1, iv r2, iv r3, iv r4, rv a801, rv a813, iv (own_cf i0 i1 i2 i3 i4 q5.a), iv (own_cf i0 i1 i2 i3 i4 q6.a), iv (own_cf i0 i1 i2 i3 i4 q7.a), iv (own_cf i0 i1 i2 i3 i4 q8.a), iv (own_cf i0 i1 i2 i3 i4 q9.a)] [(.int (own_cf i0 i1 i2 i3 i4 q7.a)), (.int (own_cf i0 i1 i2 i3 i4 q7.a))])
  refine go (fun _ => XS.icmpNo X856.here hx rfl (hb hby at_381) rfl (XT.ii_ne_f (rfl : (own_cf i0 i1 i2 i3 i4 q7.a) = (own_cf i0 i1 i2 i3 i4 q7.a)))) ?_
  show Ends p e below _ T856 (mkF m 384 #[iv i0, iv i1, iv i2, iv i3, iv i4, iv i5, iv k0, iv k1, iv k2, iv k3, iv k4, iv r0, iv r1, iv r2, iv r3, iv r4, rv a801, rv a813, iv (own_cf i0 i1 i2 i3 i4 q5.a), iv (own_cf i0 i1 i2 i3 i4 q6.a), iv (own_cf i0 i1 i2 i3 i4 q7.a), iv (own_cf i0 i1 i2 i3 i4 q8.a), iv (own_cf i0 i1 i2 i3 i4 q9.a)] [])
  refine go (fun _ => XS.iload X856.here hx rfl (hb hby at_384) rfl) ?_
  refine go (fun _ => XS.aload X856.here hx rfl (hb hby at_386) rfl rfl) ?_
  refine go (fun _ => XT.iconstV X856.here hx rfl (3 : Int32) (hb hby at_388) (by decide)) ?_
  show Ends p e below _ T856 (mkF m 389 #[iv i0, iv i1, iv i2, iv i3, iv i4, iv i5, iv k0, iv k1, iv k2, iv k3, iv k4, iv r0, iv r1, iv r2, iv r3, iv r4, rv a801, rv a813, iv (own_cf i0 i1 i2 i3 i4 q5.a), iv (own_cf i0 i1 i2 i3 i4 q6.a), iv (own_cf i0 i1 i2 i3 i4 q7.a), iv (own_cf i0 i1 i2 i3 i4 q8.a), iv (own_cf i0 i1 i2 i3 i4 q9.a)] [(.int (3 : Int32)), (.ref a801), (.int (own_cf i0 i1 i2 i3 i4 q8.a))])
  obtain ⟨cl862, A862, -, S862, M862, H862, -⟩ := id VE
  have B862 := inb_of S862 (j := (3 : Int32)) (by decide)
  refine go (fun _ => X856.iaload hx (j := (3 : Int32)) (v := (.int (own_cf i0 i1 i2 i3 i4 q8.a))) (by rw [e856]; exact A862.1) (State.isArrayOf_alike hZ.alike A862.2.1) A862.2.2 B862 (H862.at B862 rfl) (g := (mkF m 389 #[iv i0, iv i1, iv i2, iv i3, iv i4, iv i5, iv k0, iv k1, iv k2, iv k3, iv k4, iv r0, iv r1, iv r2, iv r3, iv r4, rv a801, rv a813, iv (own_cf i0 i1 i2 i3 i4 q5.a), iv (own_cf i0 i1 i2 i3 i4 q6.a), iv (own_cf i0 i1 i2 i3 i4 q7.a), iv (own_cf i0 i1 i2 i3 i4 q8.a), iv (own_cf i0 i1 i2 i3 i4 q9.a)] [(.int (3 : Int32)), (.ref a801), (.int (own_cf i0 i1 i2 i3 i4 q8.a))])) rfl rfl (hb hby at_389) _) ?_
  show Ends p e below _ T856 (mkF m 390 #[iv i0, iv i1, iv i2, iv i3, iv i4, iv i5, iv k0, iv k1, iv k2, iv k3, iv k4, iv r0, iv r1, iv r2, iv r3, iv r4, rv a801, rv a813, iv (own_cf i0 i1 i2 i3 i4 q5.a), iv (own_cf i0 i1 i2 i3 i4 q6.a), iv (own_cf i0 i1 i2 i3 i4 q7.a), iv (own_cf i0 i1 i2 i3 i4 q8.a), iv (own_cf i0 i1 i2 i3 i4 q9.a)] [(.int (own_cf i0 i1 i2 i3 i4 q8.a)), (.int (own_cf i0 i1 i2 i3 i4 q8.a))])
  refine go (fun _ => XS.icmpNo X856.here hx rfl (hb hby at_390) rfl (XT.ii_ne_f (rfl : (own_cf i0 i1 i2 i3 i4 q8.a) = (own_cf i0 i1 i2 i3 i4 q8.a)))) ?_
  show Ends p e below _ T856 (mkF m 393 #[iv i0, iv i1, iv i2, iv i3, iv i4, iv i5, iv k0, iv k1, iv k2, iv k3, iv k4, iv r0, iv r1, iv r2, iv r3, iv r4, rv a801, rv a813, iv (own_cf i0 i1 i2 i3 i4 q5.a), iv (own_cf i0 i1 i2 i3 i4 q6.a), iv (own_cf i0 i1 i2 i3 i4 q7.a), iv (own_cf i0 i1 i2 i3 i4 q8.a), iv (own_cf i0 i1 i2 i3 i4 q9.a)] [])
  refine go (fun _ => XS.iload X856.here hx rfl (hb hby at_393) rfl) ?_
  refine go (fun _ => XS.aload X856.here hx rfl (hb hby at_395) rfl rfl) ?_
  refine go (fun _ => XT.iconstV X856.here hx rfl (4 : Int32) (hb hby at_397) (by decide)) ?_
  show Ends p e below _ T856 (mkF m 398 #[iv i0, iv i1, iv i2, iv i3, iv i4, iv i5, iv k0, iv k1, iv k2, iv k3, iv k4, iv r0, iv r1, iv r2, iv r3, iv r4, rv a801, rv a813, iv (own_cf i0 i1 i2 i3 i4 q5.a), iv (own_cf i0 i1 i2 i3 i4 q6.a), iv (own_cf i0 i1 i2 i3 i4 q7.a), iv (own_cf i0 i1 i2 i3 i4 q8.a), iv (own_cf i0 i1 i2 i3 i4 q9.a)] [(.int (4 : Int32)), (.ref a801), (.int (own_cf i0 i1 i2 i3 i4 q9.a))])
  obtain ⟨cl863, A863, -, S863, M863, H863, -⟩ := id VE
  have B863 := inb_of S863 (j := (4 : Int32)) (by decide)
  refine go (fun _ => X856.iaload hx (j := (4 : Int32)) (v := (.int (own_cf i0 i1 i2 i3 i4 q9.a))) (by rw [e856]; exact A863.1) (State.isArrayOf_alike hZ.alike A863.2.1) A863.2.2 B863 (H863.at B863 rfl) (g := (mkF m 398 #[iv i0, iv i1, iv i2, iv i3, iv i4, iv i5, iv k0, iv k1, iv k2, iv k3, iv k4, iv r0, iv r1, iv r2, iv r3, iv r4, rv a801, rv a813, iv (own_cf i0 i1 i2 i3 i4 q5.a), iv (own_cf i0 i1 i2 i3 i4 q6.a), iv (own_cf i0 i1 i2 i3 i4 q7.a), iv (own_cf i0 i1 i2 i3 i4 q8.a), iv (own_cf i0 i1 i2 i3 i4 q9.a)] [(.int (4 : Int32)), (.ref a801), (.int (own_cf i0 i1 i2 i3 i4 q9.a))])) rfl rfl (hb hby at_398) _) ?_
  show Ends p e below _ T856 (mkF m 399 #[iv i0, iv i1, iv i2, iv i3, iv i4, iv i5, iv k0, iv k1, iv k2, iv k3, iv k4, iv r0, iv r1, iv r2, iv r3, iv r4, rv a801, rv a813, iv (own_cf i0 i1 i2 i3 i4 q5.a), iv (own_cf i0 i1 i2 i3 i4 q6.a), iv (own_cf i0 i1 i2 i3 i4 q7.a), iv (own_cf i0 i1 i2 i3 i4 q8.a), iv (own_cf i0 i1 i2 i3 i4 q9.a)] [(.int (own_cf i0 i1 i2 i3 i4 q9.a)), (.int (own_cf i0 i1 i2 i3 i4 q9.a))])
  refine go (fun _ => XS.icmpNo X856.here hx rfl (hb hby at_399) rfl (XT.ii_ne_f (rfl : (own_cf i0 i1 i2 i3 i4 q9.a) = (own_cf i0 i1 i2 i3 i4 q9.a)))) ?_
  show Ends p e below _ T856 (mkF m 402 #[iv i0, iv i1, iv i2, iv i3, iv i4, iv i5, iv k0, iv k1, iv k2, iv k3, iv k4, iv r0, iv r1, iv r2, iv r3, iv r4, rv a801, rv a813, iv (own_cf i0 i1 i2 i3 i4 q5.a), iv (own_cf i0 i1 i2 i3 i4 q6.a), iv (own_cf i0 i1 i2 i3 i4 q7.a), iv (own_cf i0 i1 i2 i3 i4 q8.a), iv (own_cf i0 i1 i2 i3 i4 q9.a)] [])
  refine go (fun _ => XS.aload X856.here hx rfl (hb hby at_402) rfl rfl) ?_
  show Ends p e below _ T856 (mkF m 404 #[iv i0, iv i1, iv i2, iv i3, iv i4, iv i5, iv k0, iv k1, iv k2, iv k3, iv k4, iv r0, iv r1, iv r2, iv r3, iv r4, rv a801, rv a813, iv (own_cf i0 i1 i2 i3 i4 q5.a), iv (own_cf i0 i1 i2 i3 i4 q6.a), iv (own_cf i0 i1 i2 i3 i4 q7.a), iv (own_cf i0 i1 i2 i3 i4 q8.a), iv (own_cf i0 i1 i2 i3 i4 q9.a)] [(.ref a813)])
  have F865 := (Exa.keep F855 K856)
  refine cVirt X856 hx hZ hown (by rw [hml]; rfl) e856 (hwi hw 31 rfl) (hwi hw 32 rfl) (hwi hw 34 rfl) (hwi hw 33 rfl) (hwi hw 7 rfl) (hwi hw 35 rfl) (notFace_of_selects (args := #[]) (mvT hZ (hwi hw 34 rfl))) a813 F865 [] [] rfl (rm_chie hw a813 _ F3856) (hb hby at_404) rfl (lenOf pd_6 rfl) (by decide) (by decide) (Nat.le_of_ble_eq_true rfl) (by decide) (by decide) ?_
  rintro v864 T864 h864 L864 X864 e864 ⟨rfl, N864, rfl⟩
  have N864a := Fr.app N856a N864
  show Ends p e below _ T864 (mkF m 407 #[iv i0, iv i1, iv i2, iv i3, iv i4, iv i5, iv k0, iv k1, iv k2, iv k3, iv k4, iv r0, iv r1, iv r2, iv r3, iv r4, rv a801, rv a813, iv (own_cf i0 i1 i2 i3 i4 q5.a), iv (own_cf i0 i1 i2 i3 i4 q6.a), iv (own_cf i0 i1 i2 i3 i4 q7.a), iv (own_cf i0 i1 i2 i3 i4 q8.a), iv (own_cf i0 i1 i2 i3 i4 q9.a)] [(.int (1 : Int32))])
  refine go (fun _ => XS.ifNo X864.here hx rfl (hb hby at_407) rfl (XT.i0_eq_f ((by decide) : ¬ ((1 : Int32) = (0 : Int32))))) ?_
  show Ends p e below _ T864 (mkF m 410 #[iv i0, iv i1, iv i2, iv i3, iv i4, iv i5, iv k0, iv k1, iv k2, iv k3, iv k4, iv r0, iv r1, iv r2, iv r3, iv r4, rv a801, rv a813, iv (own_cf i0 i1 i2 i3 i4 q5.a), iv (own_cf i0 i1 i2 i3 i4 q6.a), iv (own_cf i0 i1 i2 i3 i4 q7.a), iv (own_cf i0 i1 i2 i3 i4 q8.a), iv (own_cf i0 i1 i2 i3 i4 q9.a)] [])
  refine go (fun _ => XT.iconstV X864.here hx rfl (1 : Int32) (hb hby at_410) (by decide)) ?_
  refine go (fun _ => XS.goto X864.here hx rfl (pc0 := 411) (pc' := 415) rfl (hb hby at_411) (by decide) (by decide)) ?_
  show Ends p e below _ T864 (mkF m 415 #[iv i0, iv i1, iv i2, iv i3, iv i4, iv i5, iv k0, iv k1, iv k2, iv k3, iv k4, iv r0, iv r1, iv r2, iv r3, iv r4, rv a801, rv a813, iv (own_cf i0 i1 i2 i3 i4 q5.a), iv (own_cf i0 i1 i2 i3 i4 q6.a), iv (own_cf i0 i1 i2 i3 i4 q7.a), iv (own_cf i0 i1 i2 i3 i4 q8.a), iv (own_cf i0 i1 i2 i3 i4 q9.a)] [(.int (1 : Int32))])
  exact endN X864 hx hret (by simp) (hb hby at_415) (lvN X864 hlk e864 (fun h => by rw [hret] at h; cases h) ⟨rfl, N864a⟩ (by decide) (by decide))
set_option maxRecDepth 65536 in
set_option maxHeartbeats 40000000 in
theorem comes_1 {Post : Tables → Env → Array Value → State → Outcome → State → Prop} (hpost : ∀ tb e args s v u, (limb_1_1.after args s (.returned v) u = true ∧ limb_1_2.after args s (.returned v) u = true ∧ True) → FrameEnd s (.returned v) u (Jvm.fieldLocs frame_1_writes args s ++ Jvm.arrayLocs frame_1_arrays args s ++ Jvm.staticLocs frame_1_statics s) 16 4224 → Post tb e args s (.returned v) u) :
    ArmFor flags0 classFile x code maxLocals ret World_1 tables_1 room_1 Calls_1 rest_1 Pre_1 Post := by
  intro l hfl _ _ p e ha hc hk s m args below hf hA hF happ hP
  obtain ⟨hcalls, hrest, hpre⟩ := hP
  obtain ⟨-, -, -, hnamed, -, -, -, hat⟩ := (Spec.applies_iff hf).mp happ
  obtain ⟨hg, hn⟩ := and_e (Cond.before_iff.mp (show (Jvm.Cond.and given_1 narrow_1).before args s = true from hpre))
  obtain ⟨gv0, gvtr⟩ := and_e hg
  obtain ⟨gv1, gvtrr⟩ := and_e gvtr
  obtain ⟨gv2, gvtrrr⟩ := and_e gvtrr
  obtain ⟨gv3, gvtrrrr⟩ := and_e gvtrrr
  obtain ⟨gv4, gvtrrrrr⟩ := and_e gvtrrrr
  obtain ⟨gv5, gv6⟩ := and_e gvtrrrrr
  obtain ⟨w0, w1, w2, w3, w4, w5, rfl⟩ : ∃ w0 w1 w2 w3 w4 w5 : Value, args = #[w0, w1, w2, w3, w4, w5] := by
    have hs : args.size = 6 := by simpa [Cond.value, given_1] using gv0
    obtain ⟨L⟩ := args
    match L, hs with
    | [w0, w1, w2, w3, w4, w5], _ => exact ⟨w0, w1, w2, w3, w4, w5, rfl⟩
  have hw := fun d (hd : d ∈ tables_1) => atoms_spec (ws := Jvm.Cond.code x code maxLocals ret :: tables_1) hat d (List.mem_cons_of_mem _ hd)
  have hfit : Fit s := fun {y c} hc i hi => by
    obtain ⟨ha, rfl⟩ := Array.getElem?_eq_some_iff.mp hc
    have q := List.all_eq_true.mp ((Array.all_eq_true_iff_forall_mem.mp hF) _ (Array.getElem_mem ha)) i (List.mem_range.mpr hi)
    simpa [Array.getElem?_eq_getElem hi] using q
  obtain ⟨i0, ei0⟩ := is_v gv1
  obtain rfl : w0 = (.int i0) := Option.some.inj ei0
  obtain ⟨i1, ei1⟩ := is_v gv2
  obtain rfl : w1 = (.int i1) := Option.some.inj ei1
  obtain ⟨i2, ei2⟩ := is_v gv3
  obtain rfl : w2 = (.int i2) := Option.some.inj ei2
  obtain ⟨i3, ei3⟩ := is_v gv4
  obtain rfl : w3 = (.int i3) := Option.some.inj ei3
  obtain ⟨i4, ei4⟩ := is_v gv5
  obtain rfl : w4 = (.int i4) := Option.some.inj ei4
  obtain ⟨i5, ei5⟩ := is_v gv6
  obtain rfl : w5 = (.int i5) := Option.some.inj ei5
  obtain ⟨n, o, h1, h2, h3, _, L, rfl, ⟨rfl, N⟩, hq⟩ := (rm_law (l := l) hw i0 i1 i2 i3 i4 i5 s.heap ⟨Nat.le_refl _, fun _ _ q => q⟩) tables_1 p e ha hc hk s m _ below hf ((Spec.applies_iff_loose hf).mp happ).1 ⟨rfl, State.Warmed39.refl s, rfl⟩ trivial
  refine ⟨n, _, h1, h2, h3, hpost _ _ _ _ _ _ ⟨Cond.after_iff.mpr rfl, Cond.after_iff.mpr (eq_i res_at (Term.int_eval (1)) rfl), trivial⟩ ⟨hq.1, hq.2.1, (hq.2.2.sift fun y hy => Or.inr (N y hy)).mono (by decide) (by decide)⟩⟩
theorem main_1_1 : Claimed_1_1 := comes_1 fun _ _ _ _ _ _ h hF => ⟨h.1, hF⟩
theorem main_1_2 : Claimed_1_2 := comes_1 fun _ _ _ _ _ _ h hF => ⟨h.2.1, hF⟩
end Jvm.Pilot.@@N@@
namespace Jvm.Pilot.@@N@@
open Jvm Jvm.ClassFile Sem Op Lib Jvm.Free Jvm.Stand Jvm.Pilot.@@N@@.Jvm.D
/-! MADE BY PROGRAM (witnessworld.py) out of the Statement's table words and the real class files: 11 classes; the members and pool entries that the words name. The judged class is class 1, her method 2. -/
namespace start1
open Jvm.ClassFile
def u (s : String) : CpInfo := .utf8 (stringToUtf16 s)
/-- a pool by its gaps: so many unusable entries, then the entry; so many at the end -/
def gap : Nat → List CpInfo → List CpInfo
  | 0, r => r
  | n + 1, r => .unusable :: gap n r
def poolList (es : List (Nat × CpInfo)) (last : Nat) : List CpInfo := es.foldr (fun e r => gap e.1 (e.2 :: r)) (gap last [])
def pool (es : List (Nat × CpInfo)) (last : Nat) : Array CpInfo := ⟨poolList es last⟩
def fileOf (pool : Array CpInfo) (this : Nat) (attrs : Array Attribute := #[]) (ms : Array MethodInfo := #[]) (fl : Nat := 33) (sup : Nat := 0) (ifs : Array Nat := #[]) (fds : Array FieldInfo := #[]) : ClassFile where
  minorVersion := 0
  majorVersion := 65
  constantPool := pool
  accessFlags := fl
  thisClass := this
  superClass := sup
  interfaces := ifs
  fields := fds
  methods := ms
  attributes := attrs
def plain (name : String) (sup : Option ClassId) : Class where
  name := name
  kind := .ordinary
  loader := none
  accessFlags := 33
  super := sup
  interfaces := #[]
  cf := none
  fields := #[]
  methods := #[]
  instanceTypes := #[]
  staticTypes := #[]
  resolved := #[]
  callSites := []
  init := .initialized
  statics := none
  mirror := none

def pool0 : Array CpInfo := pool [(5, u "<init>"), (0, u "()V"), (1, .class_ 10), (1, u "java/lang/Object")] 113

def k0c0 : Code := { maxStack := 0, maxLocals := 1, code := object_method_1_code, exceptionTable := #[], attributes := #[] }
def k0m0 : Method := { name := "<init>", desc := "()V", sig := { parameters := [], returnType := none }, accessFlags := 1, code := some k0c0 }
/-- java/lang/Object -/
def k0 : Class := { plain "java/lang/Object" none with
  accessFlags := 33
  interfaces := #[]
  cf := some (fileOf pool0 8 #[] #[{ accessFlags := 1, nameIndex := 5, descriptorIndex := 6, attributes := #[] }] 33 0 #[] #[])
  fields := #[]
  methods := #[k0m0]
  instanceTypes := #[]
  staticTypes := #[]
  resolved := Array.replicate 124 none
  statics := none }

def pool1 : Array CpInfo := pool [(2, .class_ 4), (0, .nameAndType 5 6), (0, u "java/lang/Object"), (0, u "<init>"), (0, u "()V"), (0, .methodref 8 9), (0, .class_ 10), (0, .nameAndType 11 12), (0, u "com/example/pedestrain/pedestrain/core/CellHeapPopPinLaw"), (0, u "less"), (0, u "(II)I"), (0, .class_ 14), (0, u "com/example/pedestrain/pedestrain/core/CellHeap"), (0, .methodref 13 3), (0, .methodref 13 17), (0, .nameAndType 18 19), (0, u "push"), (0, u "(ID)V"), (0, .methodref 13 21), (0, .nameAndType 22 23), (0, u "pop"), (0, u "()I"), (0, .methodref 13 25), (0, .nameAndType 26 27), (0, u "isEmpty"), (0, u "()Z"), (3, u "law"), (0, u "(IIIIII)Z")] 4

def k1m0 : Method := { name := "<init>", desc := "()V", sig := { parameters := [], returnType := none }, accessFlags := 1, code := none }
def k1c1 : Code := { maxStack := 2, maxLocals := 2, code := method_2_code, exceptionTable := #[], attributes := #[] }
def k1m1 : Method := { name := "less", desc := "(II)I", sig := { parameters := [.int, .int], returnType := some .int }, accessFlags := 10, code := some k1c1 }
def k1c2 : Code := { maxStack := 4, maxLocals := 23, code := code, exceptionTable := #[], attributes := #[] }
def k1m2 : Method := { name := "law", desc := "(IIIIII)Z", sig := { parameters := [.int, .int, .int, .int, .int, .int], returnType := some .boolean }, accessFlags := 9, code := some k1c2 }
/-- com/example/pedestrain/pedestrain/core/CellHeapPopPinLaw -/
def k1 : Class := { plain "com/example/pedestrain/pedestrain/core/CellHeapPopPinLaw" (some 0) with
  accessFlags := 49
  interfaces := #[]
  cf := some (fileOf pool1 8 #[] #[{ accessFlags := 1, nameIndex := 5, descriptorIndex := 6, attributes := #[] }, { accessFlags := 10, nameIndex := 11, descriptorIndex := 12, attributes := #[] }, { accessFlags := 9, nameIndex := 31, descriptorIndex := 32, attributes := #[] }] 49 2 #[] #[])
  fields := #[]
  methods := #[k1m0, k1m1, k1m2]
  instanceTypes := #[]
  staticTypes := #[]
  resolved := Array.replicate 37 none
  statics := none }

def pool2 : Array CpInfo := pool [(1, .methodref 2 3), (0, .class_ 4), (0, .nameAndType 5 6), (0, u "java/lang/Object"), (0, u "<init>"), (0, u "()V"), (0, .class_ 8), (0, u "com/example/pedestrain/pedestrain/core/CellHeap"), (0, .fieldref 7 10), (0, .nameAndType 11 12), (0, u "cells"), (0, u "[I"), (0, .fieldref 7 14), (0, .nameAndType 15 16), (0, u "keys"), (0, u "[D"), (0, .fieldref 7 18), (0, .nameAndType 19 20), (0, u "size"), (0, u "I"), (9, u "INITIAL_CAPACITY"), (4, u "isEmpty"), (0, u "()Z"), (4, u "push"), (0, u "(ID)V"), (0, u "pop"), (0, u "()I")] 2

def k2c0 : Code := { maxStack := 2, maxLocals := 1, code := prog_4_method_1_code, exceptionTable := #[], attributes := #[] }
def k2m0 : Method := { name := "<init>", desc := "()V", sig := { parameters := [], returnType := none }, accessFlags := 0, code := some k2c0 }
def k2c1 : Code := { maxStack := 1, maxLocals := 1, code := prog_4_method_2_code, exceptionTable := #[], attributes := #[] }
def k2m1 : Method := { name := "isEmpty", desc := "()Z", sig := { parameters := [], returnType := some .boolean }, accessFlags := 0, code := some k2c1 }
def k2c2 : Code := { maxStack := 4, maxLocals := 6, code := prog_4_method_5_code, exceptionTable := #[], attributes := #[] }
def k2m2 : Method := { name := "push", desc := "(ID)V", sig := { parameters := [.int, .double], returnType := none }, accessFlags := 0, code := some k2c2 }
def k2c3 : Code := { maxStack := 4, maxLocals := 7, code := prog_4_method_6_code, exceptionTable := #[], attributes := #[] }
def k2m3 : Method := { name := "pop", desc := "()I", sig := { parameters := [], returnType := some .int }, accessFlags := 0, code := some k2c3 }
/-- com/example/pedestrain/pedestrain/core/CellHeap -/
def k2 : Class := { plain "com/example/pedestrain/pedestrain/core/CellHeap" (some 0) with
  accessFlags := 48
  interfaces := #[]
  cf := some (fileOf pool2 7 #[] #[{ accessFlags := 0, nameIndex := 5, descriptorIndex := 6, attributes := #[] }, { accessFlags := 0, nameIndex := 35, descriptorIndex := 36, attributes := #[] }, { accessFlags := 0, nameIndex := 41, descriptorIndex := 42, attributes := #[] }, { accessFlags := 0, nameIndex := 43, descriptorIndex := 44, attributes := #[] }] 48 2 #[] #[{ accessFlags := 26, nameIndex := 30, descriptorIndex := 20, attributes := #[] }, { accessFlags := 2, nameIndex := 11, descriptorIndex := 12, attributes := #[] }, { accessFlags := 2, nameIndex := 15, descriptorIndex := 16, attributes := #[] }, { accessFlags := 2, nameIndex := 19, descriptorIndex := 20, attributes := #[] }])
  fields := #[{ name := "INITIAL_CAPACITY", type := .int, accessFlags := 26, slot := 0, constantValue := 0 }, { name := "cells", type := (.array .int), accessFlags := 2, slot := 0, constantValue := 0 }, { name := "keys", type := (.array .double), accessFlags := 2, slot := 1, constantValue := 0 }, { name := "size", type := .int, accessFlags := 2, slot := 2, constantValue := 0 }]
  methods := #[k2m0, k2m1, k2m2, k2m3]
  instanceTypes := #[(.array .int), (.array .double), .int]
  staticTypes := #[.int]
  resolved := Array.replicate 47 none
  statics := none }

def pool3 : Array CpInfo := pool [(1, u "java/lang/Cloneable"), (0, .class_ 1), (0, u "java/lang/Object"), (0, .class_ 3)] 3

/-- java/lang/Cloneable -/
def k3 : Class := { plain "java/lang/Cloneable" (some 0) with
  accessFlags := 1537
  interfaces := #[]
  cf := some (fileOf pool3 2 #[] #[] 1537 4 #[] #[])
  fields := #[]
  methods := #[]
  instanceTypes := #[]
  staticTypes := #[]
  resolved := Array.replicate 8 none
  statics := none }

def pool4 : Array CpInfo := pool [(1, u "java/io/Serializable"), (0, .class_ 1), (0, u "java/lang/Object"), (0, .class_ 3)] 3

/-- java/io/Serializable -/
def k4 : Class := { plain "java/io/Serializable" (some 0) with
  accessFlags := 1537
  interfaces := #[]
  cf := some (fileOf pool4 2 #[] #[] 1537 4 #[] #[])
  fields := #[]
  methods := #[]
  instanceTypes := #[]
  staticTypes := #[]
  resolved := Array.replicate 8 none
  statics := none }

/-- the primitive byte -/
def k5 : Class := { plain "byte" none with kind := .primitive 'B', accessFlags := 0x411 }
/-- [B -/
def k6 : Class := { plain "[B" (some 0) with kind := .array 5 .byte, interfaces := #[3, 4], accessFlags := 1041 }

/-- the primitive double -/
def k7 : Class := { plain "double" none with kind := .primitive 'D', accessFlags := 0x411 }
/-- [D -/
def k8 : Class := { plain "[D" (some 0) with kind := .array 7 .double, interfaces := #[3, 4], accessFlags := 1041 }

/-- the primitive int -/
def k9 : Class := { plain "int" none with kind := .primitive 'I', accessFlags := 0x411 }
/-- [I -/
def k10 : Class := { plain "[I" (some 0) with kind := .array 9 .int, interfaces := #[3, 4], accessFlags := 1041 }

def heap : Heap := #[]
def classes : Array Class := #[k0, k1, k2, k3, k4, k5, k6, k7, k8, k9, k10]
def interned : List (Array UInt16 × Addr) := []
def slotsUsed : Nat := 0
def theMethod : MethodId := ⟨1, 2⟩
def args0 : Array Value := #[.int 1, .int 2, .int 3, .int 4, .int 5, .int 6]
def aboutOver (below : List Frame) : State where
  vm := { classes := classes, interned := interned.toArray }
  heap := heap
  slotsUsed := slotsUsed
  threads := #[{ frames := .invoking theMethod args0 :: below }]
def below0 : List Frame := [.native { method := ⟨0, 0⟩, args := #[] }]
def about1 : State := aboutOver below0
def p0 : Program := .bare "" "" ""
def e0 : Env := launch0.env 0 0 0
theorem w_frames : about1.frames = Frame.invoking theMethod args0 :: below0 := rfl
set_option maxRecDepth 65536 in
theorem w_args : argsFit about1.vm theMethod args0 = true := by decide +kernel
set_option maxRecDepth 65536 in
theorem w_heap : heapFits about1 = true := by decide +kernel
set_option maxRecDepth 65536 in
theorem w_runnable : about1.curStatus? = some .runnable := by decide +kernel
set_option maxRecDepth 65536 in
theorem w_alone : about1.alone = true := by decide +kernel
set_option maxRecDepth 65536 in
theorem w_named : about1.methodNamed? x = some theMethod := by decide +kernel
set_option maxRecDepth 65536 in
theorem w_hears : about1.hears theMethod below0 = true := by decide +kernel
set_option maxRecDepth 65536 in
theorem w_ripe : about1.ripe theMethod args0 below0 = true := by decide +kernel
theorem w_running : about1.status = .running := rfl
set_option maxRecDepth 65536 in
theorem w_room : about1.hasRoom e0.platform room_1 = true :=
  launch0.hasRoom_least _ room_1 (by decide +kernel) (by decide +kernel) (by decide +kernel) (by decide +kernel) (by decide +kernel) (by decide +kernel)
theorem allAtoms_all (ts : List Jvm.Cond) (a : Array Jvm.Value) (st : Jvm.State) : (allAtoms ts).before a st = ts.all (fun c => c.before a st) := by
  induction ts with
  | nil => rfl
  | cons c t ih =>
    show (Jvm.Cond.and c (allAtoms t)).before a st = _
    rw [Jvm.Cond.before_and, ih, List.all_cons]
def words1 : List Jvm.Cond := Jvm.Cond.code x code maxLocals ret :: tables_1
/-- a 'code' word, met by the world's own term for the bytes: nothing is compared byte by byte -/
theorem code_word {y : MethodName} {bytes : ByteArray} {mx : Nat} {rt : Option FieldType} {a : Array Value} {s : State} {m : MethodId} {meth : Method} {c : Code} (h1 : s.methodNamed? y = some m) (h2 : s.vm.method? m = some meth) (h3 : meth.code = some c) (h4 : c.code = bytes)
    (h5 : (c.maxLocals == mx && c.exceptionTable.isEmpty && decide (c.maxStack ≤ mostOperands) && decide (meth.sig.returnType = rt) && !meth.locks && decide (parseMethodDescriptor y.desc = some meth.sig)) = true) : (Jvm.Cond.code y bytes mx rt).before a s = true := by
  simp only [Bool.and_eq_true, beq_iff_eq, Bool.not_eq_true', decide_eq_true_eq] at h5
  obtain ⟨⟨⟨⟨⟨g1, g2⟩, g3⟩, g4⟩, g5⟩, g6⟩ := h5
  simp [Cond.before, Cond.holds, Cond.value, h1, h2, h3, h4, g1, g2, g3, g4, g5, g6]
def isCode : Jvm.Cond → Bool
  | .code _ _ _ _ => true
  | _ => false
theorem all_split {L : List Jvm.Cond} {P : Jvm.Cond → Bool} (h1 : L.all (fun c => isCode c || P c) = true) (h2 : ∀ c ∈ L.filter isCode, P c = true) : L.all P = true := by
  refine List.all_eq_true.mpr fun c hc => ?_
  have h := List.all_eq_true.mp h1 c hc
  rcases Bool.eq_false_or_eq_true (isCode c) with hi | hi
  · exact h2 c (List.mem_filter.mpr ⟨hc, hi⟩)
  · simpa [hi] using h
set_option maxRecDepth 65536 in
theorem w_c0 : (Jvm.Cond.code x code maxLocals ret).before args0 about1 = true := code_word (m := ⟨1, 2⟩) (meth := k1m2) (c := k1c2) (by decide +kernel) rfl rfl rfl (by decide +kernel)
set_option maxRecDepth 65536 in
theorem w_c1 : (Jvm.Cond.code ({ cls := "com/example/pedestrain/pedestrain/core/CellHeapPopPinLaw", name := "less", desc := "(II)I" } : Jvm.MethodName) method_2_code (2 : Nat) (Option.some Jvm.ClassFile.FieldType.int)).before args0 about1 = true := code_word (m := ⟨1, 1⟩) (meth := k1m1) (c := k1c1) (by decide +kernel) rfl rfl rfl (by decide +kernel)
set_option maxRecDepth 65536 in
theorem w_c2 : (Jvm.Cond.code ({ cls := "com/example/pedestrain/pedestrain/core/CellHeap", name := "<init>", desc := "()V" } : Jvm.MethodName) prog_4_method_1_code (1 : Nat) (Option.none : Option Jvm.ClassFile.FieldType)).before args0 about1 = true := code_word (m := ⟨2, 0⟩) (meth := k2m0) (c := k2c0) (by decide +kernel) rfl rfl rfl (by decide +kernel)
set_option maxRecDepth 65536 in
theorem w_c3 : (Jvm.Cond.code ({ cls := "java/lang/Object", name := "<init>", desc := "()V" } : Jvm.MethodName) object_method_1_code (1 : Nat) (Option.none : Option Jvm.ClassFile.FieldType)).before args0 about1 = true := code_word (m := ⟨0, 0⟩) (meth := k0m0) (c := k0c0) (by decide +kernel) rfl rfl rfl (by decide +kernel)
set_option maxRecDepth 65536 in
theorem w_c4 : (Jvm.Cond.code ({ cls := "com/example/pedestrain/pedestrain/core/CellHeap", name := "push", desc := "(ID)V" } : Jvm.MethodName) prog_4_method_5_code (6 : Nat) (Option.none : Option Jvm.ClassFile.FieldType)).before args0 about1 = true := code_word (m := ⟨2, 2⟩) (meth := k2m2) (c := k2c2) (by decide +kernel) rfl rfl rfl (by decide +kernel)
set_option maxRecDepth 65536 in
theorem w_c5 : (Jvm.Cond.code ({ cls := "com/example/pedestrain/pedestrain/core/CellHeap", name := "pop", desc := "()I" } : Jvm.MethodName) prog_4_method_6_code (7 : Nat) (Option.some Jvm.ClassFile.FieldType.int)).before args0 about1 = true := code_word (m := ⟨2, 3⟩) (meth := k2m3) (c := k2c3) (by decide +kernel) rfl rfl rfl (by decide +kernel)
set_option maxRecDepth 65536 in
theorem w_c6 : (Jvm.Cond.code ({ cls := "com/example/pedestrain/pedestrain/core/CellHeap", name := "isEmpty", desc := "()Z" } : Jvm.MethodName) prog_4_method_2_code (1 : Nat) (Option.some Jvm.ClassFile.FieldType.boolean)).before args0 about1 = true := code_word (m := ⟨2, 1⟩) (meth := k2m1) (c := k2c1) (by decide +kernel) rfl rfl rfl (by decide +kernel)
def codes1 : List Jvm.Cond := [Jvm.Cond.code x code maxLocals ret, Jvm.Cond.code ({ cls := "com/example/pedestrain/pedestrain/core/CellHeapPopPinLaw", name := "less", desc := "(II)I" } : Jvm.MethodName) method_2_code (2 : Nat) (Option.some Jvm.ClassFile.FieldType.int), Jvm.Cond.code ({ cls := "com/example/pedestrain/pedestrain/core/CellHeap", name := "<init>", desc := "()V" } : Jvm.MethodName) prog_4_method_1_code (1 : Nat) (Option.none : Option Jvm.ClassFile.FieldType), Jvm.Cond.code ({ cls := "java/lang/Object", name := "<init>", desc := "()V" } : Jvm.MethodName) object_method_1_code (1 : Nat) (Option.none : Option Jvm.ClassFile.FieldType), Jvm.Cond.code ({ cls := "com/example/pedestrain/pedestrain/core/CellHeap", name := "push", desc := "(ID)V" } : Jvm.MethodName) prog_4_method_5_code (6 : Nat) (Option.none : Option Jvm.ClassFile.FieldType), Jvm.Cond.code ({ cls := "com/example/pedestrain/pedestrain/core/CellHeap", name := "pop", desc := "()I" } : Jvm.MethodName) prog_4_method_6_code (7 : Nat) (Option.some Jvm.ClassFile.FieldType.int), Jvm.Cond.code ({ cls := "com/example/pedestrain/pedestrain/core/CellHeap", name := "isEmpty", desc := "()Z" } : Jvm.MethodName) prog_4_method_2_code (1 : Nat) (Option.some Jvm.ClassFile.FieldType.boolean)]
set_option maxRecDepth 65536 in
theorem codes_eq : words1.filter isCode = codes1 := rfl
theorem w_codes : ∀ c ∈ words1.filter isCode, c.before args0 about1 = true := by
  rw [codes_eq]
  intro c hc
  simp only [codes1, List.mem_cons, List.not_mem_nil, or_false] at hc
  rcases hc with rfl | rfl | rfl | rfl | rfl | rfl | rfl
  · exact w_c0
  · exact w_c1
  · exact w_c2
  · exact w_c3
  · exact w_c4
  · exact w_c5
  · exact w_c6
set_option maxRecDepth 65536 in
theorem w_t1 : (words1.take 24).all (fun c => isCode c || c.before args0 about1) = true := by decide +kernel
set_option maxRecDepth 65536 in
theorem w_t2 : (words1.drop 24).all (fun c => isCode c || c.before args0 about1) = true := by decide +kernel
theorem w_tables : (allAtoms (Jvm.Cond.code x code maxLocals ret :: tables_1)).before args0 about1 = true := by
  rw [allAtoms_all]
  show words1.all (fun c => c.before args0 about1) = true
  refine all_split ?_ w_codes
  rw [← List.take_append_drop 24 words1, List.all_append, w_t1, w_t2]
  rfl
set_option maxRecDepth 65536 in
theorem w_case : (Jvm.Cond.and given_1 narrow_1).before args0 about1 = true := by decide +kernel
theorem w_applies : (headSpec (Jvm.Cond.code x code maxLocals ret :: tables_1) room_1).applies x e0.platform about1 = true :=
  (Spec.applies_iff w_frames).mpr ⟨w_running, w_runnable, w_alone, w_named, w_hears, w_ripe, w_room, w_tables⟩
theorem atStart : AtStart classFile x code maxLocals ret World_1 tables_1 room_1 Calls_1 rest_1 Pre_1 launch0 p0 e0 about1 theMethod args0 below0 :=
  ⟨lists_1, trivial, launch0.admits_env _ _ _, launch0.least_env, fairChoices_fair.cas, fairChoices_fair.clock, w_frames, w_args, w_heap, w_applies, trivial, trivial, w_case⟩
end start1
theorem witness_1 : WitnessClaimed_1 := ⟨start1.p0, start1.e0, start1.about1, start1.theMethod, start1.args0, start1.below0, start1.atStart⟩
end Jvm.Pilot.@@N@@
