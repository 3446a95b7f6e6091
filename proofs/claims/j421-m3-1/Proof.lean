import JvmDerived
import JvmDerived.Pilot.@@N@@Statement
import JvmDerived.Pilot.@@N@@Code
set_option linter.unusedVariables false
set_option linter.unusedSimpArgs false
namespace Jvm.Pilot.@@N@@
open Jvm Jvm.ClassFile Sem Op Lib Jvm.Free Jvm.Stand Jvm.LawKit Jvm.RoadKit Bundle Jvm.Pilot.@@N@@.Jvm.D
theorem hwi {Z : State} {a0 : Array Value} (hw : ∀ d ∈ tables_1, d.before a0 Z = true) (i : Nat) {d : Jvm.Cond} (h : tables_1[i]? = some d) : d.before a0 Z = true := hw _ (List.mem_of_getElem? h)
section Own
variable {p : Program} {l : Launch} {e : Env} {R : Room} {s : State} {m : MethodId} {args : Array Value} {below : List Frame} {meth : Method} {c : Code} {T : State} {locs : List Loc} {cells slots : Nat} {Z : State} {a0 : Array Value} {h h' : Heap} {Q : Option Value → Heap → List Loc → Prop} {rc rs : Nat} {P : State → Outcome → Prop}
/-- from here the run comes to its end, and what it leaves is P -/
def Ends (p : Program) (e : Env) (below : List Frame) (P : State → Outcome → Prop) (T : State) (g : JFrame) : Prop :=
  ∃ s₂ o, Steps p.tables e below (T.setTop g) s₂ ∧ s₂.status = .running ∧ Ended s₂ below o ∧ P s₂ o
/-- the narrow end -/
def NP (s : State) (Q : Option Value → Heap → List Loc → Prop) (rc rs : Nat) : State → Outcome → Prop := fun s₂ o => ∃ v L, o = .returned v ∧ Q v s₂.heap L ∧ FrameEnd s o s₂ L rc rs
theorem go {T' : State} {g g' : JFrame} (f : ∀ t, Steps p.tables e below (T'.setTop g') t → Steps p.tables e below (T.setTop g) t) (k : Ends p e below P T' g') : Ends p e below P T g := by
  obtain ⟨s₂, o, h1, r⟩ := k
  exact ⟨s₂, o, f _ h1, r⟩
theorem goS {T' : State} {g g' : JFrame} (f : Steps p.tables e below (T.setTop g) (T'.setTop g')) (k : Ends p e below P T' g') : Ends p e below P T g := by
  obtain ⟨s₂, o, h1, r⟩ := k
  exact ⟨s₂, o, f.trans h1, r⟩
/-- the frame is left with v, and what stands then is P -/
def Lv (e : Env) (m : MethodId) (below : List Frame) (T : State) (v : Option Value) (P : State → Outcome → Prop) : Prop :=
  ∃ fs, (∀ (f : JFrame) (acts : List Action), f.method = m → f.locked = none → f.entered = [] → (doReturn e (T.setTop f) acts v).1 = T.setFrames fs) ∧ (T.setFrames fs).status = .running ∧ Ended (T.setFrames fs) below (.returned v) ∧ P (T.setFrames fs) (.returned v)
theorem lvN (X : Stand p l e R s m args below meth c T locs cells slots) (hlk : meth.locks = false) (eT : T.heap = h) {v : Option Value} (hv : meth.sig.returnType = none → v = none) (hq : Q v h locs) (hc : cells ≤ rc) (hs : slots ≤ rs) : Lv e m below T v (NP s Q rc rs) := by
  subst eT
  obtain ⟨fs, hr, hrun, hended, hW, hsame⟩ := X.leave (v := v) hv hlk
  exact ⟨fs, hr, hrun, hended, _, _, rfl, hq, ⟨_, rfl⟩, hW, hsame.mono hc hs⟩
theorem retI (X : Stand p l e R s m args below meth c T locs cells slots) (hx : p.tables.exec = Jvm.exec) {pc : Nat} {Ls : Array Slot} {z : Int32} {rest : List Value} (hret : meth.sig.returnType = some .int) (hd : decode c.code pc = .ok (.ireturn, 1)) {fs : List Frame}
    (hl : ∀ (f : JFrame) (acts : List Action), f.method = m → f.locked = none → f.entered = [] → (doReturn e (T.setTop f) acts (some (.int z))).1 = T.setFrames fs) : Steps p.tables e below (T.setTop (mkF m pc Ls (.int z :: rest))) (T.setFrames fs) := by
  have hm' : T.vm.method? m = some meth := X.method'
  have hn : narrow .int (.int z) = .int z := rfl
  show Steps p.tables e below (T.setTop { method := m, pc := pc, locals := Ls, stack := _ :: rest, locked := none }) _
  jvm_step X.here [X.here.top, hx, hd, hm', hret, hn]
  first | (intro acts; rw [hl _ acts rfl rfl rfl]) | rw [hl _ _ rfl rfl rfl]
  exact Steps.refl _
theorem endI (X : Stand p l e R s m args below meth c T locs cells slots) (hx : p.tables.exec = Jvm.exec) {pc : Nat} {Ls : Array Slot} {z : Int32} {rest : List Value} (hret : meth.sig.returnType = some .int) (hd : decode c.code pc = .ok (.ireturn, 1)) (hL : Lv e m below T (some (.int z)) P) :
    Ends p e below P T (mkF m pc Ls (.int z :: rest)) := by
  obtain ⟨fs, hr, hrun, hended, hp⟩ := hL
  exact ⟨_, _, retI X hx hret hd hr, hrun, hended, hp⟩
/-- a boolean, byte, char or short: what is returned is narrowed -/
theorem endN (X : Stand p l e R s m args below meth c T locs cells slots) (hx : p.tables.exec = Jvm.exec) {pc : Nat} {Ls : Array Slot} {z : Int32} {t : FieldType} {rest : List Value} (hret : meth.sig.returnType = some t) (ht : t = .boolean ∨ t = .byte ∨ t = .char ∨ t = .short) (hd : decode c.code pc = .ok (.ireturn, 1)) (hL : Lv e m below T (some (.int (nar t z))) P) :
    Ends p e below P T (mkF m pc Ls (.int z :: rest)) := by
  obtain ⟨fs, hr, hrun, hended, hp⟩ := hL
  exact ⟨_, _, retN X hx hret ht hd hr, hrun, hended, hp⟩
theorem endA (X : Stand p l e R s m args below meth c T locs cells slots) (hx : p.tables.exec = Jvm.exec) {pc : Nat} {Ls : Array Slot} {w : Value} {t : FieldType} {rest : List Value} (hret : meth.sig.returnType = some t) (ht : t.isReference = true) (hw : w.isRef = true) (hd : decode c.code pc = .ok (.areturn, 1)) (hL : Lv e m below T (some w) P) :
    Ends p e below P T (mkF m pc Ls (w :: rest)) := by
  obtain ⟨fs, hr, hrun, hended, hp⟩ := hL
  have hn : narrow t w = w := by rcases ref_cases hw with rfl | ⟨b, rfl⟩ <;> cases t <;> rfl
  exact ⟨_, _, retOut X hx hret hn (Or.inr (Or.inr (Or.inr (Or.inr ⟨rfl, ht, hw⟩)))) hd hr, hrun, hended, hp⟩
theorem endJ (X : Stand p l e R s m args below meth c T locs cells slots) (hx : p.tables.exec = Jvm.exec) {pc : Nat} {Ls : Array Slot} {z : Int64} {rest : List Value} (hret : meth.sig.returnType = some .long) (hd : decode c.code pc = .ok (.lreturn, 1)) (hL : Lv e m below T (some (.long z)) P) :
    Ends p e below P T (mkF m pc Ls (.long z :: rest)) := by
  obtain ⟨fs, hr, hrun, hended, hp⟩ := hL
  exact ⟨_, _, retOut X hx hret rfl (Or.inr (Or.inl ⟨rfl, rfl, z, rfl⟩)) hd hr, hrun, hended, hp⟩
theorem endV (X : Stand p l e R s m args below meth c T locs cells slots) (hx : p.tables.exec = Jvm.exec) {pc : Nat} {Ls : Array Slot} (hret : meth.sig.returnType = none) (hd : decode c.code pc = .ok (.return_, 1)) (hL : Lv e m below T none P) :
    Ends p e below P T (mkF m pc Ls []) := by
  obtain ⟨fs, hr, hrun, hended, hp⟩ := hL
  exact ⟨_, _, X.returnOut hx hret hd hr, hrun, hended, hp⟩
/-- a method's contract, at one heap and one list of arguments -/
def Con (l : Launch) (y : MethodName) (bytes : ByteArray) (maxL : Nat) (ret : Option FieldType) (rm : Room) (Z : State) (as' : Array Value) (h0 : Heap) (Q : Option Value → Heap → List Loc → Prop) : Prop :=
  ∀ ws, MetFree l y (head1 (Jvm.Cond.code y bytes maxL ret :: ws) rm) (fun a U => a = as' ∧ Z.Warmed39 U.vm ∧ U.heap = h0) (fun _ _ _ _ _ => True) (fun _ U o U' => ∃ v L, o = .returned v ∧ Q v U'.heap L ∧ FrameEnd U o U' L rm.cells rm.slots)
theorem efOf {m : MethodId} {args : Array Value} {n : Nat} {Ls : Array Slot} (h : Jvm.Sym.laidSlots args.toList ++ List.replicate (n - (Jvm.Sym.laidSlots args.toList).length) .unset = Ls.toList) : entryFrame m args n = mkF m 0 Ls [] := by
  have q : argsToLocals args n = Ls := Array.toList_inj.mp (by rw [Jvm.Sym.argsToLocals_toList]; exact h)
  show mkF m 0 (argsToLocals args n) [] = _
  rw [q]
theorem Con.of {y : MethodName} {bytes : ByteArray} {maxL : Nat} {ret : Option FieldType} {rm : Room} {as' : Array Value} {h0 : Heap} (hp : plainFor y = true) {Ls : Array Slot} (hef : ∀ m, entryFrame m as' maxL = mkF m 0 Ls [])
    (body : ∀ {p : Program} {e : Env} {s : State} {m : MethodId} {below : List Frame} {meth : Method} {c : Code} {T : State}, Stand p l e rm s m as' below meth c T [] 0 0 → p.tables.exec = Jvm.exec → Z.Warmed39 s.vm → c.code = bytes → c.maxLocals = maxL → s.vm.findClass y.cls = some m.cls → meth.name = y.name → meth.sig.returnType = ret → meth.locks = false → T.heap = h0 → Ends p e below (NP s Q rm.cells rm.slots) T (mkF m 0 Ls [])) :
    Con l y bytes maxL ret rm Z as' h0 Q := by
  intro ws
  refine MetFree.of_bodySF hp hisR ?_
  intro p e s m args below meth c s₁ Bd hml0 hP hK
  obtain ⟨rfl, hZ, hh⟩ := hP
  have X0 : Stand p l e rm s m _ below meth c s₁ [] 0 0 := Stand.of_body Bd
  have e0 : s₁.heap = h0 := by rw [← hh, Bd.state]; rfl
  obtain ⟨s₂, o, h1, r⟩ := body X0 Bd.exec hZ Bd.bytes hml0 (findClass_of_methodNamed Bd.named) (name_of_methodNamed Bd.named Bd.method).1 Bd.returns Bd.notSynchronized e0
  exact ⟨s₂, o, castTop (hef m) h1, r⟩
theorem cStat {own : String} {index : Nat} {y : MethodName} {bytes : ByteArray} {maxL : Nat} {ret : Option FieldType} {rm : Room} {Q' : Option Value → Heap → List Loc → Prop} {pc : Nat} {Ls : Array Slot} {st : List Value}
    (X : Stand p l e R s m args below meth c T locs cells slots) (hx : p.tables.exec = Jvm.exec) (hZ : Z.Warmed39 s.vm) (hown : s.vm.findClass own = some m.cls) (hml : Ls.size = c.maxLocals) (eT : T.heap = h)
    (w1 : (Cond.methodLink own index y).before a0 Z = true) (w2 : (Cond.static y).before a0 Z = true) (w3 : (Cond.initialized y.cls).before a0 Z = true) (w4 : (Cond.code y bytes maxL ret).before a0 Z = true)
    (argsL rest : List Value) {as' : Array Value} (has : argsL.toArray = as') (hM : Con l y bytes maxL ret rm Z as' h Q') (hd : decode c.code pc = .ok (.invokestatic index, 3)) (hst : st = argsL.reverse ++ rest)
    (hlen : ∀ sig, parseMethodDescriptor y.desc = some sig → argsL.length = sig.parameters.length) (hy : y.cls ≠ "java/lang/invoke/MethodHandle" ∧ y.cls ≠ "java/lang/invoke/VarHandle")
    (hf : rm.frames + 1 ≤ R.frames) (hl : (rest.map fun v => v.category).sum + (maxL + 11) + rm.locals ≤ R.locals) (hc : cells + rm.cells ≤ R.cells) (hs : slots + rm.slots ≤ R.slots)
    (k : ∀ v T' h' L, Stand p l e R s m args below meth c T' (locs ++ L) (cells + rm.cells) (slots + rm.slots) → T'.heap = h' → Q' v h' L → Ends p e below P T' (mkF m (pc + 3) Ls (v.toList ++ rest))) :
    Ends p e below P T (mkF m pc Ls st) := by
  subst has
  obtain ⟨v, _, ⟨T', L', k', n'⟩, -, X', ⟨Lc, hQ, e1, e2, e3⟩, stp⟩ := Jvm.LawKit.callS X hx (y := y) hown (mvT hZ w1) (mvT hZ w2) (mvT hZ w3) (mvT hZ w4) hy (backOf (W := (rest.map fun v => v.category).sum) (hM []) hZ w4 w3 hf hl) (g := mkF m pc Ls st) rfl hml (argsL := argsL) (rest := rest) hlen hst (by show 2 * 0 + _ ≤ _; omega) hd (fun _ _ => ⟨rfl, eT, hc, hs⟩)
  dsimp only [Pt.U, Pt.locs, Pt.cells, Pt.slots] at X' e1 e2 e3 stp hQ
  subst e1 e2 e3
  exact go stp (k v T' _ Lc X' rfl hQ)
theorem cInit {own : String} {index : Nat} {y : MethodName} {bytes : ByteArray} {maxL : Nat} {rm : Room} {Q' : Option Value → Heap → List Loc → Prop} {pc : Nat} {Ls : Array Slot} {st : List Value}
    (X : Stand p l e R s m args below meth c T locs cells slots) (hx : p.tables.exec = Jvm.exec) (hZ : Z.Warmed39 s.vm) (hown : s.vm.findClass own = some m.cls) (hml : Ls.size = c.maxLocals) (eT : T.heap = h)
    (w1 : (Cond.methodLink own index y).before a0 Z = true) (w2 : (Cond.instanceMethod y).before a0 Z = true) (w3 : (Cond.initialized y.cls).before a0 Z = true) (w4 : (Cond.code y bytes maxL none).before a0 Z = true)
    (a : Addr) (argsL rest : List Value) {as' : Array Value} (has : (.ref a :: argsL).toArray = as') (hM : Con l y bytes maxL none rm Z as' h Q') (hd : decode c.code pc = .ok (.invokespecial index, 3)) (hst : st = argsL.reverse ++ .ref a :: rest)
    (hlen : ∀ sig, parseMethodDescriptor y.desc = some sig → argsL.length = sig.parameters.length) (hy1 : y.name = "<init>") (hy : y.cls ≠ "java/lang/invoke/MethodHandle" ∧ y.cls ≠ "java/lang/invoke/VarHandle")
    (hf : rm.frames + 1 ≤ R.frames) (hl : (rest.map fun v => v.category).sum + (maxL + 11) + rm.locals ≤ R.locals) (hc : cells + rm.cells ≤ R.cells) (hs : slots + rm.slots ≤ R.slots)
    (k : ∀ v T' h' L, Stand p l e R s m args below meth c T' (locs ++ L) (cells + rm.cells) (slots + rm.slots) → T'.heap = h' → Q' v h' L → Ends p e below P T' (mkF m (pc + 3) Ls (v.toList ++ rest))) :
    Ends p e below P T (mkF m pc Ls st) := by
  subst has
  obtain ⟨v, _, ⟨T', L', k', n'⟩, -, X', ⟨Lc, hQ, e1, e2, e3⟩, stp⟩ := X.specialBack hx (y := y) hy1 hown (mvT hZ w1) (mvT hZ w2) (mvT hZ w4) hy (backOf (W := (rest.map fun v => v.category).sum) (hM []) hZ w4 w3 hf hl) (g := mkF m pc Ls st) rfl hml (Steps.refl _) (a := a) (argsL := argsL) (rest := rest) hlen hst (by show 2 * 0 + _ ≤ _; omega) hd (fun _ _ => ⟨rfl, eT, hc, hs⟩)
  dsimp only [Pt.U, Pt.locs, Pt.cells, Pt.slots] at X' e1 e2 e3 stp hQ
  subst e1 e2 e3
  exact goS stp (k v T' _ Lc X' rfl hQ)
theorem own_mvN {own host : String} {index : Nat} {y : MethodName} (hZ : Z.Warmed39 s.vm) (w : (Cond.methodLinkNest own index y host).before a0 Z = true) : (Cond.methodLinkNest own index y host).before args s = true := (Cond.methodLinkNest_wide hZ w :)
theorem cInitN {own host : String} {index : Nat} {y : MethodName} {bytes : ByteArray} {maxL : Nat} {rm : Room} {Q' : Option Value → Heap → List Loc → Prop} {pc : Nat} {Ls : Array Slot} {st : List Value}
    (X : Stand p l e R s m args below meth c T locs cells slots) (hx : p.tables.exec = Jvm.exec) (hZ : Z.Warmed39 s.vm) (hown : s.vm.findClass own = some m.cls) (hml : Ls.size = c.maxLocals) (eT : T.heap = h)
    (w1 : (Cond.methodLinkNest own index y host).before a0 Z = true) (w2 : (Cond.instanceMethod y).before a0 Z = true) (w3 : (Cond.initialized y.cls).before a0 Z = true) (w4 : (Cond.code y bytes maxL none).before a0 Z = true)
    (a : Addr) (argsL rest : List Value) {as' : Array Value} (has : (.ref a :: argsL).toArray = as') (hM : Con l y bytes maxL none rm Z as' h Q') (hd : decode c.code pc = .ok (.invokespecial index, 3)) (hst : st = argsL.reverse ++ .ref a :: rest)
    (hlen : ∀ sig, parseMethodDescriptor y.desc = some sig → argsL.length = sig.parameters.length) (hy1 : y.name = "<init>") (hy : y.cls ≠ "java/lang/invoke/MethodHandle" ∧ y.cls ≠ "java/lang/invoke/VarHandle")
    (hf : rm.frames + 1 ≤ R.frames) (hl : (rest.map fun v => v.category).sum + (maxL + 11) + rm.locals ≤ R.locals) (hc : cells + rm.cells ≤ R.cells) (hs : slots + rm.slots ≤ R.slots)
    (k : ∀ v T' h' L, Stand p l e R s m args below meth c T' (locs ++ L) (cells + rm.cells) (slots + rm.slots) → T'.heap = h' → Q' v h' L → Ends p e below P T' (mkF m (pc + 3) Ls (v.toList ++ rest))) :
    Ends p e below P T (mkF m pc Ls st) := by
  subst has
  obtain ⟨v, _, ⟨T', L', k', n'⟩, -, X', ⟨Lc, hQ, e1, e2, e3⟩, stp⟩ := X.specialBackNest hx (y := y) hy1 hown (own_mvN hZ w1) (mvT hZ w2) (mvT hZ w4) hy (backOf (W := (rest.map fun v => v.category).sum) (hM []) hZ w4 w3 hf hl) (g := mkF m pc Ls st) rfl hml (Steps.refl _) (a := a) (argsL := argsL) (rest := rest) hlen hst (by show 2 * 0 + _ ≤ _; omega) hd (fun _ _ => ⟨rfl, eT, hc, hs⟩)
  dsimp only [Pt.U, Pt.locs, Pt.cells, Pt.slots] at X' e1 e2 e3 stp hQ
  subst e1 e2 e3
  exact goS stp (k v T' _ Lc X' rfl hQ)
theorem cVirt {own K : String} {index : Nat} {y z : MethodName} {bytes : ByteArray} {maxL : Nat} {ret : Option FieldType} {rm : Room} {Q' : Option Value → Heap → List Loc → Prop} {pc : Nat} {Ls : Array Slot} {st : List Value}
    (X : Stand p l e R s m args below meth c T locs cells slots) (hx : p.tables.exec = Jvm.exec) (hZ : Z.Warmed39 s.vm) (hown : s.vm.findClass own = some m.cls) (hml : Ls.size = c.maxLocals) (eT : T.heap = h)
    (w1 : (Cond.methodLink own index y).before a0 Z = true) (w2 : (Cond.declares y).before a0 Z = true) (w3 : (Cond.selects K y z).before a0 Z = true) (w4 : (Cond.instanceMethod z).before a0 Z = true) (w5 : (Cond.initialized z.cls).before a0 Z = true) (w6 : (Cond.code z bytes maxL ret).before a0 Z = true) (hnf : NotFace s y)
    (a : Addr) (E : Exa Z h a K) (argsL rest : List Value) {as' : Array Value} (has : (.ref a :: argsL).toArray = as') (hM : Con l z bytes maxL ret rm Z as' h Q') (hd : decode c.code pc = .ok (.invokevirtual index, 3)) (hst : st = argsL.reverse ++ .ref a :: rest)
    (hlen : ∀ sig, parseMethodDescriptor y.desc = some sig → argsL.length = sig.parameters.length) (hy : y.cls ≠ "java/lang/invoke/MethodHandle" ∧ y.cls ≠ "java/lang/invoke/VarHandle")
    (hf : rm.frames + 1 ≤ R.frames) (hl : (rest.map fun v => v.category).sum + (maxL + 11) + rm.locals ≤ R.locals) (hc : cells + rm.cells ≤ R.cells) (hs : slots + rm.slots ≤ R.slots)
    (k : ∀ v T' h' L, Stand p l e R s m args below meth c T' (locs ++ L) (cells + rm.cells) (slots + rm.slots) → T'.heap = h' → Q' v h' L → Ends p e below P T' (mkF m (pc + 3) Ls (v.toList ++ rest))) :
    Ends p e below P T (mkF m pc Ls st) := by
  subst has
  obtain ⟨cq, kq, qa, qb, qc⟩ := isOf hZ eT E
  obtain ⟨v, _, ⟨T', L', k', n'⟩, -, X', ⟨Lc, hQ, e1, e2, e3⟩, stp⟩ := X.virtualBack hx (y := y) (z := z) hown (mvT hZ w1) (mvT hZ w2) hnf (mvT hZ w3) (mvT hZ w4) hy (backOf (W := (rest.map fun v => v.category).sum) (hM []) hZ w6 w5 hf hl) qa qc (g := mkF m pc Ls st) rfl hml (Steps.refl _) (argsL := argsL) (rest := rest) hlen hst (by show 2 * 0 + _ ≤ _; omega) hd (fun _ _ => ⟨rfl, eT, hc, hs⟩)
  dsimp only [Pt.U, Pt.locs, Pt.cells, Pt.slots] at X' e1 e2 e3 stp hQ
  subst e1 e2 e3
  exact goS stp (k v T' _ Lc X' rfl hQ)
theorem cUp {own K owner : String} {index : Nat} {y z : MethodName} {bytes : ByteArray} {maxL : Nat} {ret : Option FieldType} {rm : Room} {Q' : Option Value → Heap → List Loc → Prop} {pc : Nat} {Ls : Array Slot} {st : List Value}
    (X : Stand p l e R s m args below meth c T locs cells slots) (hx : p.tables.exec = Jvm.exec) (hZ : Z.Warmed39 s.vm) (hown : s.vm.findClass own = some m.cls) (hml : Ls.size = c.maxLocals) (eT : T.heap = h)
    (w1 : (Cond.methodLink own index y).before a0 Z = true) (w2 : (Cond.sameMethod y.cls owner y.name y.desc).before a0 Z = true) (w2d : (Cond.declares ⟨owner, y.name, y.desc⟩).before a0 Z = true) (w3 : (Cond.selects K y z).before a0 Z = true) (w4 : (Cond.instanceMethod z).before a0 Z = true) (w5 : (Cond.initialized z.cls).before a0 Z = true) (w6 : (Cond.code z bytes maxL ret).before a0 Z = true)
    (a : Addr) (E : Exa Z h a K) (argsL rest : List Value) {as' : Array Value} (has : (.ref a :: argsL).toArray = as') (hM : Con l z bytes maxL ret rm Z as' h Q') (hd : decode c.code pc = .ok (.invokevirtual index, 3)) (hst : st = argsL.reverse ++ .ref a :: rest)
    (hlen : ∀ sig, parseMethodDescriptor y.desc = some sig → argsL.length = sig.parameters.length) (hy : owner ≠ "java/lang/invoke/MethodHandle" ∧ owner ≠ "java/lang/invoke/VarHandle")
    (hf : rm.frames + 1 ≤ R.frames) (hl : (rest.map fun v => v.category).sum + (maxL + 11) + rm.locals ≤ R.locals) (hc : cells + rm.cells ≤ R.cells) (hs : slots + rm.slots ≤ R.slots)
    (k : ∀ v T' h' L, Stand p l e R s m args below meth c T' (locs ++ L) (cells + rm.cells) (slots + rm.slots) → T'.heap = h' → Q' v h' L → Ends p e below P T' (mkF m (pc + 3) Ls (v.toList ++ rest))) :
    Ends p e below P T (mkF m pc Ls st) := by
  subst has
  obtain ⟨cq, kq, qa, qb, qc⟩ := isOf hZ eT E
  obtain ⟨v, _, ⟨T', L', k', n'⟩, -, X', ⟨Lc, hQ, e1, e2, e3⟩, stp⟩ := X.virtualBackUp hx (x := y) (y := z) hown (mvT hZ w1) (mvT hZ w2) (mvT hZ w2d) hy (mvT hZ w3) (mvT hZ w4) (backOf (W := (rest.map fun v => v.category).sum) (hM []) hZ w6 w5 hf hl) qa qc (g := mkF m pc Ls st) rfl hml (Steps.refl _) (argsL := argsL) (rest := rest) hlen hst (by show 2 * 0 + _ ≤ _; omega) hd (fun _ _ => ⟨rfl, eT, hc, hs⟩)
  dsimp only [Pt.U, Pt.locs, Pt.cells, Pt.slots] at X' e1 e2 e3 stp hQ
  subst e1 e2 e3
  exact goS stp (k v T' _ Lc X' rfl hQ)
theorem cFace {own K : String} {index count : Nat} {y z : MethodName} {bytes : ByteArray} {maxL : Nat} {ret : Option FieldType} {rm : Room} {Q' : Option Value → Heap → List Loc → Prop} {pc : Nat} {Ls : Array Slot} {st : List Value}
    (X : Stand p l e R s m args below meth c T locs cells slots) (hx : p.tables.exec = Jvm.exec) (hZ : Z.Warmed39 s.vm) (hown : s.vm.findClass own = some m.cls) (hml : Ls.size = c.maxLocals) (eT : T.heap = h)
    (w1 : (Cond.methodLink own index y).before a0 Z = true) (w2 : (Cond.declares y).before a0 Z = true) (wf : (Cond.interfaceMethod y.cls y.cls y.name y.desc).before args s = true) (w3 : (Cond.selects K y z).before a0 Z = true) (w4 : (Cond.instanceMethod z).before a0 Z = true) (wp : (Cond.publicMethod z).before a0 Z = true) (wu : (Cond.unhidden K y.name y.desc).before args s = true) (wc : (Cond.castable K y.cls).before a0 Z = true) (w5 : (Cond.initialized z.cls).before a0 Z = true) (w6 : (Cond.code z bytes maxL ret).before a0 Z = true)
    (a : Addr) (E : Exa Z h a K) (argsL rest : List Value) {as' : Array Value} (has : (.ref a :: argsL).toArray = as') (hM : Con l z bytes maxL ret rm Z as' h Q') (hd : decode c.code pc = .ok (.invokeinterface index count, 5)) (hst : st = argsL.reverse ++ .ref a :: rest)
    (hlen : ∀ sig, parseMethodDescriptor y.desc = some sig → argsL.length = sig.parameters.length) (hy : y.cls ≠ "java/lang/invoke/MethodHandle" ∧ y.cls ≠ "java/lang/invoke/VarHandle")
    (hf : rm.frames + 1 ≤ R.frames) (hl : (rest.map fun v => v.category).sum + (maxL + 11) + rm.locals ≤ R.locals) (hc : cells + rm.cells ≤ R.cells) (hs : slots + rm.slots ≤ R.slots)
    (k : ∀ v T' h' L, Stand p l e R s m args below meth c T' (locs ++ L) (cells + rm.cells) (slots + rm.slots) → T'.heap = h' → Q' v h' L → Ends p e below P T' (mkF m (pc + 5) Ls (v.toList ++ rest))) :
    Ends p e below P T (mkF m pc Ls st) := by
  subst has
  obtain ⟨cq, kq, qa, qb, qc⟩ := isOf hZ eT E
  obtain ⟨v, _, ⟨T', L', k', n'⟩, -, X', ⟨Lc, hQ, e1, e2, e3⟩, stp⟩ := X.interfaceBack hx (xi := y) (y := z) hown (mvT hZ w1) (mvT hZ w2) wf (mvT hZ w3) (mvT hZ w4) (mvT hZ wp) wu (mvT hZ wc) hy (backOf (W := (rest.map fun v => v.category).sum) (hM []) hZ w6 w5 hf hl) qa qb qc (g := mkF m pc Ls st) rfl hml (Steps.refl _) (argsL := argsL) (rest := rest) hlen hst (by show 2 * 0 + _ ≤ _; omega) hd (fun _ _ => ⟨rfl, eT, hc, hs⟩)
  dsimp only [Pt.U, Pt.locs, Pt.cells, Pt.slots] at X' e1 e2 e3 stp hQ
  subst e1 e2 e3
  exact goS stp (k v T' _ Lc X' rfl hQ)
theorem cPriv {own K : String} {index nn : Nat} {y : MethodName} {bytes : ByteArray} {maxL : Nat} {ret : Option FieldType} {rm : Room} {Q' : Option Value → Heap → List Loc → Prop} {pc : Nat} {Ls : Array Slot} {st : List Value}
    (X : Stand p l e R s m args below meth c T locs cells slots) (hx : p.tables.exec = Jvm.exec) (hZ : Z.Warmed39 s.vm) (hown : s.vm.findClass own = some m.cls) (hml : Ls.size = c.maxLocals) (eT : T.heap = h)
    (w1 : (Cond.methodLink own index y).before a0 Z = true) (w2 : (Cond.instanceMethod y).before a0 Z = true) (w3 : (Cond.privateMethod y).before a0 Z = true) (w4 : (Cond.instantiable y.cls nn).before a0 Z = true) (w5 : (Cond.initialized y.cls).before a0 Z = true) (w6 : (Cond.code y bytes maxL ret).before a0 Z = true)
    (a : Addr) (E : Exa Z h a K) (argsL rest : List Value) {as' : Array Value} (has : (.ref a :: argsL).toArray = as') (hM : Con l y bytes maxL ret rm Z as' h Q') (hd : decode c.code pc = .ok (.invokevirtual index, 3)) (hst : st = argsL.reverse ++ .ref a :: rest)
    (hlen : ∀ sig, parseMethodDescriptor y.desc = some sig → argsL.length = sig.parameters.length) (hy : y.cls ≠ "java/lang/invoke/MethodHandle" ∧ y.cls ≠ "java/lang/invoke/VarHandle")
    (hf : rm.frames + 1 ≤ R.frames) (hl : (rest.map fun v => v.category).sum + (maxL + 11) + rm.locals ≤ R.locals) (hc : cells + rm.cells ≤ R.cells) (hs : slots + rm.slots ≤ R.slots)
    (k : ∀ v T' h' L, Stand p l e R s m args below meth c T' (locs ++ L) (cells + rm.cells) (slots + rm.slots) → T'.heap = h' → Q' v h' L → Ends p e below P T' (mkF m (pc + 3) Ls (v.toList ++ rest))) :
    Ends p e below P T (mkF m pc Ls st) := by
  subst has
  obtain ⟨cell, q1, q2⟩ := E.cell
  have hpr := Cond.privateMethod_at (mvP hZ w3 (args := #[]))
  obtain ⟨cc, kc, i1, i2, -, i4, -⟩ := Cond.instantiable_spec (mvT (args := args) hZ w4)
  have hni : kc.isInterface = false := by
    cases hq : kc.isInterface with
    | false => rfl
    | true => rw [hq] at i4; simp at i4
  have hsel := Jvm.Stand.selects_self_of_private (args := args) i1 i2 hni hpr (mvT hZ w2) hy
  obtain ⟨v, _, ⟨T', L', k', n'⟩, -, X', ⟨Lc, hQ, e1, e2, e3⟩, stp⟩ := X.privateBack hx (y := y) hown (mvT hZ w1) (mvT hZ w2) hsel hpr (mvT hZ w6) hy (backOf (W := (rest.map fun v => v.category).sum) (hM []) hZ w6 w5 hf hl) (g := mkF m pc Ls st) rfl hml (Steps.refl _) (a := a) (by rw [eT]; exact q1) q2 (argsL := argsL) (rest := rest) hlen hst (by show 2 * 0 + _ ≤ _; omega) hd (fun _ _ => ⟨rfl, eT, hc, hs⟩)
  dsimp only [Pt.U, Pt.locs, Pt.cells, Pt.slots] at X' e1 e2 e3 stp hQ
  subst e1 e2 e3
  exact goS stp (k v T' _ Lc X' rfl hQ)
theorem xx (O : Ext Z.heap h) (E : Ext h h') : Ext Z.heap h' := ⟨Nat.le_trans O.1 E.1, fun a c q => E.2 _ _ (O.2 _ _ q)⟩
theorem xk {ws : List Addr} (O : Ext Z.heap h) (K : Keep h h' ws) (q : ∀ x ∈ ws, Z.heap.size ≤ x) : Ext Z.heap h' := (Old.keep ⟨rfl, O⟩ K q).2
theorem xw {a : Addr} {sl : Nat} {v : Value} (O : Ext Z.heap h) (W : Wr h h' a sl v) (q : Z.heap.size ≤ a) : Ext Z.heap h' := (Old.wr ⟨rfl, O⟩ W q).2
theorem ke (E : Ext h h') : Keep h h' [] := (Keep.refl h []).ext E
theorem ek (K : Keep h h' []) : Ext h h' := ⟨K.1, fun a c q => K.2.1 a c q nin0⟩
end Own
theorem pn_0 : plainName "com/example/pedestrain/pedestrain/core/Person" = true := by first | (simp [plainName, overriddenIn]; done) | decide +kernel
theorem d0_0 : decode prog_27_method_2_code 0 = .ok (.dload_n 0, 1) := by decide +kernel
theorem d0_1 : decode prog_27_method_2_code 1 = .ok (.dconst 0, 1) := by decide +kernel
theorem d0_2 : decode prog_27_method_2_code 2 = .ok (.dcmp .l, 1) := by decide +kernel
theorem d0_3 : decode prog_27_method_2_code 3 = .ok (.ifCond .le 15, 3) := by decide +kernel
theorem d0_6 : decode prog_27_method_2_code 6 = .ok (.dload_n 0, 1) := by decide +kernel
theorem d0_7 : decode prog_27_method_2_code 7 = .ok (.ldc2_w 49, 3) := by decide +kernel
theorem d0_10 : decode prog_27_method_2_code 10 = .ok (.dcmp .g, 1) := by decide +kernel
theorem d0_11 : decode prog_27_method_2_code 11 = .ok (.ifCond .gt 7, 3) := by decide +kernel
theorem d0_18 : decode prog_27_method_2_code 18 = .ok (.iconst 0, 1) := by decide +kernel
theorem d0_19 : decode prog_27_method_2_code 19 = .ok (.ireturn, 1) := by decide +kernel
theorem d0_14 : decode prog_27_method_2_code 14 = .ok (.iconst 1, 1) := by decide +kernel
theorem d0_15 : decode prog_27_method_2_code 15 = .ok (.goto 4, 3) := by decide +kernel
theorem pn_1 : plainName "com/example/pedestrain/pedestrain/core/PersonIsFreeSpeedPinLaw" = true := by first | (simp [plainName, overriddenIn]; done) | decide +kernel
theorem pd_2 : parseMethodDescriptor "(D)Z" = some ⟨[.double], some .boolean⟩ := by decide +kernel
section OwnFl
open Jvm.FP.Core
theorem own_wshift {i : Int} {s : Bool} {c : Nat} {q : Int} (e : Nat) (h : Whole i (.fin s c q)) : Whole (i * ((2 ^ e : Nat) : Int)) (.fin s c (q + e)) := by
  have h' : signed s (c * 2 ^ q.toNat) = i * ((2 ^ (-q).toNat : Nat) : Int) := h
  show signed s (c * 2 ^ (q + e).toNat) = i * ((2 ^ e : Nat) : Int) * ((2 ^ (-(q + e)).toNat : Nat) : Int)
  have p2 : ((2 ^ (-q).toNat : Nat) : Int) ≠ 0 := by have := Nat.two_pow_pos (-q).toNat; omega
  refine Int.eq_of_mul_eq_mul_right p2 ?_
  have hx : (q + e).toNat + (-q).toNat = q.toNat + e + (-(q + e)).toNat := by omega
  rw [← signed_mul, Nat.mul_assoc, ← Nat.pow_add, hx, Nat.pow_add, Nat.pow_add, ← Nat.mul_assoc, ← Nat.mul_assoc, signed_mul, signed_mul, h']
  generalize ((2 ^ (-q).toNat : Nat) : Int) = A
  generalize ((2 ^ e : Nat) : Int) = B
  generalize ((2 ^ (-(q + e)).toNat : Nat) : Int) = D
  rw [Int.mul_assoc, Int.mul_assoc, Int.mul_assoc, Int.mul_assoc, Int.mul_comm A (B * D), Int.mul_assoc]
theorem own_oshift (s t : Bool) (c d : Nat) (q r e : Int) : order (.fin s c q) (.fin t d r) = order (.fin s c (q + e)) (.fin t d (r + e)) := by
  have h1 : q + e - min (q + e) (r + e) = q - min q r := by omega
  have h2 : r + e - min (q + e) (r + e) = r - min q r := by omega
  simp only [order, inUnits, h1, h2]
theorem own_two {d : Nat} {r : Int} {e : Nat} (h : d * 2 ^ r.toNat = 2 ^ e * 2 ^ (-r).toNat) : 2 ^ ((e : Int) - r).toNat = d * 2 ^ (r - e).toNat := by
  by_cases h0 : 0 ≤ r
  · obtain ⟨k, rfl⟩ := Int.eq_ofNat_of_zero_le h0
    have e1 : (Int.ofNat k).toNat = k := rfl
    have e2 : (-((k : Nat) : Int)).toNat = 0 := by omega
    rw [show ((k : Nat) : Int).toNat = k by omega, e2, Nat.pow_zero, Nat.mul_one] at h
    by_cases hk : k ≤ e
    · rw [show (((e : Int)) - (k : Int)).toNat = e - k by omega, show ((k : Int) - (e : Int)).toNat = 0 by omega, Nat.pow_zero, Nat.mul_one]
      have : d * 2 ^ k = 2 ^ (e - k) * 2 ^ k := by rw [h, ← Nat.pow_add]; congr 1; omega
      exact (Nat.eq_of_mul_eq_mul_right (Nat.two_pow_pos k) this).symm
    · exfalso
      have hlt : 2 ^ e < 2 ^ k := Nat.pow_lt_pow_right (by decide) (by omega)
      rw [← h] at hlt
      have hd : 0 < d := Nat.pos_of_ne_zero fun z => by rw [z, Nat.zero_mul] at h; have := Nat.two_pow_pos e; omega
      have := Nat.le_mul_of_pos_left (2 ^ k) hd
      omega
  · rw [show r.toNat = 0 by omega, Nat.pow_zero, Nat.mul_one] at h
    rw [show (r - e).toNat = 0 by omega, Nat.pow_zero, Nat.mul_one, h, ← Nat.pow_add]
    congr 1; omega
/-- n / 2^e is exact -/
theorem own_quot {n : Int} {e : Nat} (hn : n.natAbs ≤ 2 ^ 31) (he : e ≤ 31) {x y : Datum} (fx : Jvm.FP.Core.fits b64 x) (hx : Whole n x) (hy : Whole ((2 ^ e : Nat) : Int) y) : ∃ s c q, quotient b64 x y = .fin s c q ∧ Whole n (.fin s c (q + e)) := by
  cases x with
  | nan => exact hx.elim
  | inf => exact hx.elim
  | fin s c q =>
  cases y with
  | nan => exact hy.elim
  | inf => exact hy.elim
  | fin t d r =>
    have hp := Nat.two_pow_pos e
    have hd0 : d ≠ 0 := fun z => by have := (whole_zero hy).mp z; omega
    have ht : t = false := by
      rw [whole_sign hy (by omega)]; exact decide_eq_false (Int.not_lt.mpr (Int.natCast_nonneg _))
    have hnd := whole_natAbs hy
    rw [Int.natAbs_natCast] at hnd
    have h2 := own_two hnd
    subst ht
    simp only [quotient, hd0, if_false]
    by_cases h0 : n = 0
    · have hc : c = 0 := (whole_zero hx).mpr h0
      subst hc h0
      refine ⟨_, _, _, by simp only [roundRatio, if_true]; rfl, ?_⟩
      simp [Whole, signed]
    · have hc0 : c ≠ 0 := fun z => h0 ((whole_zero hx).mp z)
      have hcn := whole_natAbs hx
      obtain ⟨f1, f2, f3, f4⟩ := fx
      have e1 : b64.qmin = -1074 := by decide
      have e2 : b64.qmax = 971 := by decide
      have e3 : b64.p = 53 := rfl
      have e4 : b64.tails = 2 ^ 52 := by decide
      rw [e1] at f2 f4
      rw [e2] at f3
      rw [e3] at f1
      have hq : -53 < q := by
        refine Int.lt_of_not_ge fun hge => ?_
        rw [show q.toNat = 0 by omega, Nat.pow_zero, Nat.mul_one] at hcn
        have h1 : 2 ^ 53 ≤ 2 ^ (-q).toNat := Nat.pow_le_pow_right (by decide) (by omega)
        have h2 : 1 ≤ n.natAbs := by omega
        have := Nat.le_mul_of_pos_left (2 ^ (-q).toNat) h2
        omega
      refine ⟨s, c, q - e, ?_, by rw [Int.sub_add_cancel]; exact hx⟩
      have : (s != false) = s := by cases s <;> rfl
      rw [this]
      refine roundRatio_exact good_b64 (by omega) ⟨f1, by rw [e1]; omega, by rw [e2]; omega, Or.inr (f4.resolve_left (by omega))⟩ ?_
      rw [show (q - r - (q - (e : Int))).toNat = ((e : Int) - r).toNat by congr 1; omega, show (q - (e : Int) - (q - r)).toNat = (r - e).toNat by congr 1; omega, h2, Nat.mul_assoc]
theorem own_val10 : Whole 10 (val64 4621819117588971520) := by
  have : val64 4621819117588971520 = .fin false 5629499534213120 (-49) := by decide +kernel
  rw [this]; show signed _ _ = _; decide +kernel
theorem own_val0 : Whole 0 (val64 Jvm.FP.Core.dconst0) := by
  rw [val64_dconst0]; simp [Whole, signed]
theorem own_cmpk {n k : Int} {e : Nat} {a b c : UInt64} (hn : n.natAbs ≤ 2 ^ 31) (he : e ≤ 31) (ha : Whole n (val64 a)) (hb : Whole ((2 ^ e : Nat) : Int) (val64 b)) (hc : Whole k (val64 c)) : Jvm.FP.Core.dcmp (Jvm.FP.Core.ddiv a b) c = some (compare n (k * ((2 ^ e : Nat) : Int))) ∧ val64 (Jvm.FP.Core.ddiv a b) ≠ .nan := by
  obtain ⟨s, c', q, h1, h2⟩ := own_quot hn he (val64_fits a) ha hb
  have hv : val64 (Jvm.FP.Core.ddiv a b) = .fin s c' q := by rw [val64_ddiv]; exact h1
  refine ⟨?_, by rw [hv]; simp⟩
  show order (val64 (Jvm.FP.Core.ddiv a b)) (val64 c) = _
  rw [hv]
  generalize val64 c = z at hc
  cases z with
  | nan => exact hc.elim
  | inf => exact hc.elim
  | fin t d r =>
    rw [own_oshift _ _ _ _ _ _ (e : Int)]
    exact order_whole h2 (own_wshift e hc)
end OwnFl
theorem own_cv (o : CmpOp) (N T : Int64) : cmpValue (some (compare N.toInt T.toInt)) o = XT.cmpL N T := by
  have hc : compare N.toInt T.toInt = if N.toInt < T.toInt then .lt else if N.toInt = T.toInt then .eq else .gt := rfl
  rw [hc]
  unfold XT.cmpL
  simp only [Int64.lt_iff_toInt_lt, ← Int64.toInt_inj]
  rcases Int.lt_trichotomy N.toInt T.toInt with h | h | h
  · have h1 : ¬ T.toInt < N.toInt := by omega
    have h2 : ¬ N.toInt = T.toInt := by omega
    simp [h, h1, h2, cmpValue]
  · simp [h, cmpValue]
  · have h1 : ¬ N.toInt < T.toInt := by omega
    have h2 : ¬ N.toInt = T.toInt := by omega
    simp [h, h1, h2, cmpValue]
theorem own_scale : ∀ k : Fin 32, ((1 : Int64) <<< ((Int32.ofInt k.val).toInt64 &&& 63)).toInt = ((2 ^ k.val : Nat) : Int) ∧ ((10 : Int64) * ((1 : Int64) <<< ((Int32.ofInt k.val).toInt64 &&& 63))).toInt = 10 * ((2 ^ k.val : Nat) : Int) := by decide +kernel
theorem own_and31 (x : Int32) : ∃ k : Fin 32, x &&& 31 = Int32.ofInt k.val := by
  have q := c_and x 31 (by decide)
  have e : (31 : Int32).toInt = 31 := by decide
  rw [e] at q
  refine ⟨⟨(x &&& 31).toInt.toNat, by omega⟩, ?_⟩
  rw [show (((x &&& 31).toInt.toNat : Nat) : Int) = (x &&& 31).toInt by omega, Int32.ofInt_toInt]
theorem own_sp (n m : Int32) : Jvm.Free.Fl.NoNaN64 (FP.ddiv (FP.l2d n.toInt64) (FP.l2d ((1 : Int64) <<< ((m &&& (31 : Int32)).toInt64 &&& 63)))) ∧
    (∀ o, cmpValue (FP.dcmp (FP.ddiv (FP.l2d n.toInt64) (FP.l2d ((1 : Int64) <<< ((m &&& (31 : Int32)).toInt64 &&& 63)))) FP.dconst0) o = XT.cmpL n.toInt64 0) ∧
    ∀ o, cmpValue (FP.dcmp (FP.ddiv (FP.l2d n.toInt64) (FP.l2d ((1 : Int64) <<< ((m &&& (31 : Int32)).toInt64 &&& 63)))) 4621819117588971520) o = XT.cmpL n.toInt64 ((10 : Int64) * ((1 : Int64) <<< ((m &&& (31 : Int32)).toInt64 &&& 63))) := by
  obtain ⟨k, hk⟩ := own_and31 m
  rw [hk]
  obtain ⟨s1, s2⟩ := own_scale k
  have hn := c_i2l n
  have hr := rng32 n
  have hpk : (2 ^ k.val : Nat) ≤ 2 ^ 31 := Nat.pow_le_pow_right (by decide) (by have := k.isLt; omega)
  have hb : n.toInt.natAbs ≤ 2 ^ 31 := by omega
  have ha : Jvm.FP.Core.Whole n.toInt (Jvm.FP.Core.val64 (Jvm.FP.Core.l2d n.toInt64)) := by
    have q := Jvm.FP.Core.l2d_int (a := n.toInt64) (by rw [hn]; omega)
    rw [hn] at q; exact q
  generalize hS : ((1 : Int64) <<< ((Int32.ofInt k.val).toInt64 &&& 63)) = S at s1 s2 ⊢
  have hs : Jvm.FP.Core.Whole ((2 ^ k.val : Nat) : Int) (Jvm.FP.Core.val64 (Jvm.FP.Core.l2d S)) := by
    have q := Jvm.FP.Core.l2d_int (a := S) (by rw [s1, Int.natAbs_natCast]; omega)
    rw [s1] at q; exact q
  have c0 := own_cmpk hb (by have := k.isLt; omega) ha hs own_val0
  have c10 := own_cmpk hb (by have := k.isLt; omega) ha hs own_val10
  refine ⟨Jvm.Free.Fl.noNaN64_no.mpr (by rw [Jvm.FP.ddiv_core, Jvm.FP.l2d_core]; exact decide_eq_false c0.2), fun o => ?_, fun o => ?_⟩
  · have q : FP.dcmp (FP.ddiv (FP.l2d n.toInt64) (FP.l2d S)) FP.dconst0 = some (compare n.toInt (0 * ((2 ^ k.val : Nat) : Int))) := by rw [Jvm.FP.dcmp_core, Jvm.FP.ddiv_core, Jvm.FP.l2d_core]; exact c0.1
    rw [q, Int.zero_mul, ← hn]
    exact own_cv o n.toInt64 0
  · have q : FP.dcmp (FP.ddiv (FP.l2d n.toInt64) (FP.l2d S)) 4621819117588971520 = some (compare n.toInt (10 * ((2 ^ k.val : Nat) : Int))) := by rw [Jvm.FP.dcmp_core, Jvm.FP.ddiv_core, Jvm.FP.l2d_core]; exact c10.1
    rw [q, ← s2, ← hn]
    exact own_cv o n.toInt64 (10 * S)
theorem own_pos (n : Int32) : (0 : Int64) < n.toInt64 ↔ (0 : Int32) < n := by
  have q := c_i2l n
  have e : (0 : Int64).toInt = 0 := by decide
  have e' : (0 : Int32).toInt = 0 := by decide
  rw [Int64.lt_iff_toInt_lt, Int32.lt_iff_toInt_lt, q, e, e']
set_option maxRecDepth 65536 in
set_option maxHeartbeats 40000000 in
theorem rm_fs {l : Launch} {Z : State} {a0 : Array Value} (hw : ∀ d ∈ tables_1, d.before a0 Z = true) (x_ : UInt64) (n_ : Int32) (t_ : Int64) (h0 : Heap) (h1 : ∀ o, cmpValue (FP.dcmp x_ FP.dconst0) o = XT.cmpL n_.toInt64 (0 : Int64)) (h2 : ∀ o, cmpValue (FP.dcmp x_ (4621819117588971520 : UInt64)) o = XT.cmpL n_.toInt64 t_) :
    Con l (⟨"com/example/pedestrain/pedestrain/core/Person", "isFreeSpeed", "(D)Z"⟩ : MethodName) prog_27_method_2_code 2 (some .boolean) ({ frames := 0, cells := 0, slots := 0, locals := 0 } : Room) Z #[(.double x_)] h0 (fun v h L => v = some (.int (if (0 : Int32) < n_ then (if t_ < n_.toInt64 then (0 : Int32) else 1) else 0)) ∧ Fr Z.heap.size L ∧ h0 = h) := by
  refine Con.of (plainFor_of_name pn_0) (Ls := #[.val (.double x_), .second]) (fun m => efOf rfl) ?_
  intro p e s m below meth c T0 X0 hx hZ hby hml hown hnm hret hlk e0
  refine go (fun _ => XS.dloadN X0.here hx rfl (hb hby d0_0) rfl) ?_
  show Ends p e below _ T0 (mkF m 1 #[.val (.double x_), .second] [(.double x_)])
  refine go (fun _ => XS.dconst0 X0.here hx rfl (hb hby d0_1) rfl) ?_
  show Ends p e below _ T0 (mkF m 2 #[.val (.double x_), .second] [(.double FP.dconst0), (.double x_)])
  refine go (fun _ => XS.dcmpS X0.here hx rfl (hb hby d0_2) rfl (h1 _)) ?_
  show Ends p e below _ T0 (mkF m 3 #[.val (.double x_), .second] [(.int (XT.cmpL n_.toInt64 (0 : Int64)))])
  by_cases c3_1 : (0 : Int64) < n_.toInt64
  · refine go (fun _ => XS.ifNo X0.here hx rfl (hb hby d0_3) rfl (XT.ll_le_f c3_1)) ?_
    show Ends p e below _ T0 (mkF m 6 #[.val (.double x_), .second] [])
    refine go (fun _ => XS.dloadN X0.here hx rfl (hb hby d0_6) rfl) ?_
    show Ends p e below _ T0 (mkF m 7 #[.val (.double x_), .second] [(.double x_)])
    refine go (X0.ldc2DoubleC hx hown (mvT hZ (hwi hw 5 rfl)) (g := (mkF m 7 #[.val (.double x_), .second] [(.double x_)])) rfl (hb hby d0_7)) ?_
    show Ends p e below _ T0 (mkF m 10 #[.val (.double x_), .second] [(.double (4621819117588971520 : UInt64)), (.double x_)])
    refine go (fun _ => XS.dcmpS X0.here hx rfl (hb hby d0_10) rfl (h2 _)) ?_
    show Ends p e below _ T0 (mkF m 11 #[.val (.double x_), .second] [(.int (XT.cmpL n_.toInt64 t_))])
    by_cases c11_2 : t_ < n_.toInt64
    · refine go (fun _ => XS.ifYes X0.here hx rfl (pc0 := 11) (pc' := 18) rfl (hb hby d0_11) rfl (XT.ll_gt_t c11_2) (by decide) (by decide)) ?_
      show Ends p e below _ T0 (mkF m 18 #[.val (.double x_), .second] [])
      refine go (fun _ => XT.iconstV X0.here hx rfl (0 : Int32) (hb hby d0_18) (by decide)) ?_
      show Ends p e below _ T0 (mkF m 19 #[.val (.double x_), .second] [(.int (0 : Int32))])
      have u3 : (0 : Int32) < n_ := (own_pos n_).mp c3_1
      exact endN X0 hx hret (by simp) (hb hby d0_19) (lvN X0 hlk e0 (fun h => by rw [hret] at h; cases h) ⟨by simp [nar, u3, c11_2], (Fr.nil _), rfl⟩ (by decide) (by decide))
    · refine go (fun _ => XS.ifNo X0.here hx rfl (hb hby d0_11) rfl (XT.ll_gt_f c11_2)) ?_
      show Ends p e below _ T0 (mkF m 14 #[.val (.double x_), .second] [])
      refine go (fun _ => XT.iconstV X0.here hx rfl (1 : Int32) (hb hby d0_14) (by decide)) ?_
      refine go (fun _ => XS.goto X0.here hx rfl (pc0 := 15) (pc' := 19) rfl (hb hby d0_15) (by decide) (by decide)) ?_
      show Ends p e below _ T0 (mkF m 19 #[.val (.double x_), .second] [(.int (1 : Int32))])
      have u5 : (0 : Int32) < n_ := (own_pos n_).mp c3_1
      exact endN X0 hx hret (by simp) (hb hby d0_19) (lvN X0 hlk e0 (fun h => by rw [hret] at h; cases h) ⟨by simp [nar, u5, c11_2], (Fr.nil _), rfl⟩ (by decide) (by decide))
  · refine go (fun _ => XS.ifYes X0.here hx rfl (pc0 := 3) (pc' := 18) rfl (hb hby d0_3) rfl (XT.ll_le_t c3_1) (by decide) (by decide)) ?_
    show Ends p e below _ T0 (mkF m 18 #[.val (.double x_), .second] [])
    refine go (fun _ => XT.iconstV X0.here hx rfl (0 : Int32) (hb hby d0_18) (by decide)) ?_
    show Ends p e below _ T0 (mkF m 19 #[.val (.double x_), .second] [(.int (0 : Int32))])
    have u7 : ¬ (0 : Int32) < n_ := fun z => c3_1 ((own_pos n_).mpr z)
    exact endN X0 hx hret (by simp) (hb hby d0_19) (lvN X0 hlk e0 (fun h => by rw [hret] at h; cases h) ⟨by simp [nar, u7], (Fr.nil _), rfl⟩ (by decide) (by decide))
set_option maxRecDepth 65536 in
set_option maxHeartbeats 40000000 in
theorem rm_law {l : Launch} {Z : State} {a0 : Array Value} (hw : ∀ d ∈ tables_1, d.before a0 Z = true) (i0 i1 : Int32) (h0 : Heap)  :
    Con l x code maxLocals ret room_1 Z #[(.int i0), (.int i1)] h0 (fun v h L => v = some (.int 1) ∧ Fr Z.heap.size L) := by
  refine Con.of (plainFor_of_name pn_1) (Ls := #[iv i0, iv i1, .unset, .unset, .unset, .unset, .unset, .unset]) (fun m => efOf rfl) ?_
  intro p e s m below meth c T0 X0 hx hZ hby hml hown hnm hret hlk e0
  have hml : c.maxLocals = 8 := hml
  refine go (fun _ => XS.iloadN X0.here hx rfl (hb hby at_0) rfl) ?_
  refine go (fun _ => XT.bipushV X0.here hx rfl (31 : Int32) (hb hby at_1) (by decide)) ?_
  refine go (fun _ => XS.iand X0.here hx rfl (hb hby at_3) rfl) ?_
  refine go (fun _ => XS.istoreN X0.here hx rfl (hb hby at_4) rfl (l' := #[iv i0, iv i1, iv (i1 &&& (31 : Int32)), .unset, .unset, .unset, .unset, .unset]) rfl) ?_
  refine go (fun _ => XT.lconstV X0.here hx rfl (1 : Int64) (hb hby at_5) (by decide)) ?_
  refine go (fun _ => XS.iloadN X0.here hx rfl (hb hby at_6) rfl) ?_
  show Ends p e below _ T0 (mkF m 7 #[iv i0, iv i1, iv (i1 &&& (31 : Int32)), .unset, .unset, .unset, .unset, .unset] [(.int (i1 &&& (31 : Int32))), (.long (1 : Int64))])
  refine go (fun _ => XT.lshl X0.here hx rfl (hb hby at_7) rfl) ?_
  refine go (fun _ => XT.lstoreN X0.here hx rfl (hb hby at_8) rfl (l' := #[iv i0, iv i1, iv (i1 &&& (31 : Int32)), .val (.long ((1 : Int64) <<< ((i1 &&& (31 : Int32)).toInt64 &&& 63))), .second, .unset, .unset, .unset]) rfl) ?_
  show Ends p e below _ T0 (mkF m 9 #[iv i0, iv i1, iv (i1 &&& (31 : Int32)), .val (.long ((1 : Int64) <<< ((i1 &&& (31 : Int32)).toInt64 &&& 63))), .second, .unset, .unset, .unset] [])
  have sp := own_sp i0 i1
  refine go (fun _ => XS.iloadN X0.here hx rfl (hb hby at_9) rfl) ?_
  show Ends p e below _ T0 (mkF m 10 #[iv i0, iv i1, iv (i1 &&& (31 : Int32)), .val (.long ((1 : Int64) <<< ((i1 &&& (31 : Int32)).toInt64 &&& 63))), .second, .unset, .unset, .unset] [(.int i0)])
  refine go (fun _ => XS.i2dS X0.here hx rfl (hb hby at_10) rfl (i2d_w i0)) ?_
  show Ends p e below _ T0 (mkF m 11 #[iv i0, iv i1, iv (i1 &&& (31 : Int32)), .val (.long ((1 : Int64) <<< ((i1 &&& (31 : Int32)).toInt64 &&& 63))), .second, .unset, .unset, .unset] [(.double (FP.l2d i0.toInt64))])
  refine go (fun _ => XT.lloadN X0.here hx rfl (hb hby at_11) rfl) ?_
  show Ends p e below _ T0 (mkF m 12 #[iv i0, iv i1, iv (i1 &&& (31 : Int32)), .val (.long ((1 : Int64) <<< ((i1 &&& (31 : Int32)).toInt64 &&& 63))), .second, .unset, .unset, .unset] [(.long ((1 : Int64) <<< ((i1 &&& (31 : Int32)).toInt64 &&& 63))), (.double (FP.l2d i0.toInt64))])
  refine go (fun _ => XS.l2dS X0.here hx rfl (hb hby at_12) rfl rfl) ?_
  show Ends p e below _ T0 (mkF m 13 #[iv i0, iv i1, iv (i1 &&& (31 : Int32)), .val (.long ((1 : Int64) <<< ((i1 &&& (31 : Int32)).toInt64 &&& 63))), .second, .unset, .unset, .unset] [(.double (FP.l2d ((1 : Int64) <<< ((i1 &&& (31 : Int32)).toInt64 &&& 63)))), (.double (FP.l2d i0.toInt64))])
  refine go (fun _ => XS.ddivS X0.here hx rfl (hb hby at_13) rfl sp.1 rfl) ?_
  show Ends p e below _ T0 (mkF m 14 #[iv i0, iv i1, iv (i1 &&& (31 : Int32)), .val (.long ((1 : Int64) <<< ((i1 &&& (31 : Int32)).toInt64 &&& 63))), .second, .unset, .unset, .unset] [(.double (FP.ddiv (FP.l2d i0.toInt64) (FP.l2d ((1 : Int64) <<< ((i1 &&& (31 : Int32)).toInt64 &&& 63)))))])
  refine go (fun _ => XS.dstore X0.here hx rfl (hb hby at_14) rfl (l' := #[iv i0, iv i1, iv (i1 &&& (31 : Int32)), .val (.long ((1 : Int64) <<< ((i1 &&& (31 : Int32)).toInt64 &&& 63))), .second, .val (.double (FP.ddiv (FP.l2d i0.toInt64) (FP.l2d ((1 : Int64) <<< ((i1 &&& (31 : Int32)).toInt64 &&& 63))))), .second, .unset]) rfl) ?_
  show Ends p e below _ T0 (mkF m 16 #[iv i0, iv i1, iv (i1 &&& (31 : Int32)), .val (.long ((1 : Int64) <<< ((i1 &&& (31 : Int32)).toInt64 &&& 63))), .second, .val (.double (FP.ddiv (FP.l2d i0.toInt64) (FP.l2d ((1 : Int64) <<< ((i1 &&& (31 : Int32)).toInt64 &&& 63))))), .second, .unset] [])
  refine go (fun _ => XS.iloadN X0.here hx rfl (hb hby at_16) rfl) ?_
  show Ends p e below _ T0 (mkF m 17 #[iv i0, iv i1, iv (i1 &&& (31 : Int32)), .val (.long ((1 : Int64) <<< ((i1 &&& (31 : Int32)).toInt64 &&& 63))), .second, .val (.double (FP.ddiv (FP.l2d i0.toInt64) (FP.l2d ((1 : Int64) <<< ((i1 &&& (31 : Int32)).toInt64 &&& 63))))), .second, .unset] [(.int i0)])
  by_cases c17_8 : (0 : Int32) < i0
  · refine go (fun _ => XS.ifNo X0.here hx rfl (hb hby at_17) rfl (XT.i0_le_f c17_8)) ?_
    show Ends p e below _ T0 (mkF m 20 #[iv i0, iv i1, iv (i1 &&& (31 : Int32)), .val (.long ((1 : Int64) <<< ((i1 &&& (31 : Int32)).toInt64 &&& 63))), .second, .val (.double (FP.ddiv (FP.l2d i0.toInt64) (FP.l2d ((1 : Int64) <<< ((i1 &&& (31 : Int32)).toInt64 &&& 63))))), .second, .unset] [])
    refine go (fun _ => XS.iloadN X0.here hx rfl (hb hby at_20) rfl) ?_
    refine go (fun _ => XT.i2l X0.here hx rfl (hb hby at_21) rfl) ?_
    show Ends p e below _ T0 (mkF m 22 #[iv i0, iv i1, iv (i1 &&& (31 : Int32)), .val (.long ((1 : Int64) <<< ((i1 &&& (31 : Int32)).toInt64 &&& 63))), .second, .val (.double (FP.ddiv (FP.l2d i0.toInt64) (FP.l2d ((1 : Int64) <<< ((i1 &&& (31 : Int32)).toInt64 &&& 63))))), .second, .unset] [(.long i0.toInt64)])
    refine go (fun _ => Jvm.Stand.ldc2J X0 hx hown (mvT hZ (hwi hw 4 rfl)) rfl (hb hby at_22)) ?_
    show Ends p e below _ T0 (mkF m 25 #[iv i0, iv i1, iv (i1 &&& (31 : Int32)), .val (.long ((1 : Int64) <<< ((i1 &&& (31 : Int32)).toInt64 &&& 63))), .second, .val (.double (FP.ddiv (FP.l2d i0.toInt64) (FP.l2d ((1 : Int64) <<< ((i1 &&& (31 : Int32)).toInt64 &&& 63))))), .second, .unset] [(.long (10 : Int64)), (.long i0.toInt64)])
    refine go (fun _ => XT.lloadN X0.here hx rfl (hb hby at_25) rfl) ?_
    refine go (fun _ => XT.lmul X0.here hx rfl (hb hby at_26) rfl) ?_
    refine go (fun _ => XT.lcmp X0.here hx rfl (hb hby at_27) rfl) ?_
    show Ends p e below _ T0 (mkF m 28 #[iv i0, iv i1, iv (i1 &&& (31 : Int32)), .val (.long ((1 : Int64) <<< ((i1 &&& (31 : Int32)).toInt64 &&& 63))), .second, .val (.double (FP.ddiv (FP.l2d i0.toInt64) (FP.l2d ((1 : Int64) <<< ((i1 &&& (31 : Int32)).toInt64 &&& 63))))), .second, .unset] [(.int (XT.cmpL i0.toInt64 ((10 : Int64) * ((1 : Int64) <<< ((i1 &&& (31 : Int32)).toInt64 &&& 63)))))])
    by_cases c28_9 : ((10 : Int64) * ((1 : Int64) <<< ((i1 &&& (31 : Int32)).toInt64 &&& 63))) < i0.toInt64
    · refine go (fun _ => XS.ifYes X0.here hx rfl (pc0 := 28) (pc' := 35) rfl (hb hby at_28) rfl (XT.ll_gt_t c28_9) (by decide) (by decide)) ?_
      show Ends p e below _ T0 (mkF m 35 #[iv i0, iv i1, iv (i1 &&& (31 : Int32)), .val (.long ((1 : Int64) <<< ((i1 &&& (31 : Int32)).toInt64 &&& 63))), .second, .val (.double (FP.ddiv (FP.l2d i0.toInt64) (FP.l2d ((1 : Int64) <<< ((i1 &&& (31 : Int32)).toInt64 &&& 63))))), .second, .unset] [])
      refine go (fun _ => XT.iconstV X0.here hx rfl (0 : Int32) (hb hby at_35) (by decide)) ?_
      refine go (fun _ => XS.istore X0.here hx rfl (hb hby at_36) rfl (l' := #[iv i0, iv i1, iv (i1 &&& (31 : Int32)), .val (.long ((1 : Int64) <<< ((i1 &&& (31 : Int32)).toInt64 &&& 63))), .second, .val (.double (FP.ddiv (FP.l2d i0.toInt64) (FP.l2d ((1 : Int64) <<< ((i1 &&& (31 : Int32)).toInt64 &&& 63))))), .second, iv (0 : Int32)]) rfl) ?_
      show Ends p e below _ T0 (mkF m 38 #[iv i0, iv i1, iv (i1 &&& (31 : Int32)), .val (.long ((1 : Int64) <<< ((i1 &&& (31 : Int32)).toInt64 &&& 63))), .second, .val (.double (FP.ddiv (FP.l2d i0.toInt64) (FP.l2d ((1 : Int64) <<< ((i1 &&& (31 : Int32)).toInt64 &&& 63))))), .second, iv (0 : Int32)] [])
      refine go (fun _ => XS.dload X0.here hx rfl (hb hby at_38) rfl) ?_
      show Ends p e below _ T0 (mkF m 40 #[iv i0, iv i1, iv (i1 &&& (31 : Int32)), .val (.long ((1 : Int64) <<< ((i1 &&& (31 : Int32)).toInt64 &&& 63))), .second, .val (.double (FP.ddiv (FP.l2d i0.toInt64) (FP.l2d ((1 : Int64) <<< ((i1 &&& (31 : Int32)).toInt64 &&& 63))))), .second, iv (0 : Int32)] [(.double (FP.ddiv (FP.l2d i0.toInt64) (FP.l2d ((1 : Int64) <<< ((i1 &&& (31 : Int32)).toInt64 &&& 63)))))])
      refine cStat X0 hx hZ hown (by rw [hml]; rfl) e0 (hwi hw 0 rfl) (hwi hw 1 rfl) (hwi hw 2 rfl) (hwi hw 3 rfl) [(.double (FP.ddiv (FP.l2d i0.toInt64) (FP.l2d ((1 : Int64) <<< ((i1 &&& (31 : Int32)).toInt64 &&& 63)))))] [] rfl (rm_fs hw (FP.ddiv (FP.l2d i0.toInt64) (FP.l2d ((1 : Int64) <<< ((i1 &&& (31 : Int32)).toInt64 &&& 63)))) i0 ((10 : Int64) * ((1 : Int64) <<< ((i1 &&& (31 : Int32)).toInt64 &&& 63))) _ sp.2.1 sp.2.2) (hb hby at_40) rfl (lenOf pd_2 rfl) (by decide) (by decide) (Nat.le_of_ble_eq_true rfl) (by decide) (by decide) ?_
      rintro v10 T10 h10 L10 X10 e10 ⟨rfl, N10, rfl⟩
      have N10a := Fr.app (Fr.nil _) N10
      show Ends p e below _ T10 (mkF m 43 #[iv i0, iv i1, iv (i1 &&& (31 : Int32)), .val (.long ((1 : Int64) <<< ((i1 &&& (31 : Int32)).toInt64 &&& 63))), .second, .val (.double (FP.ddiv (FP.l2d i0.toInt64) (FP.l2d ((1 : Int64) <<< ((i1 &&& (31 : Int32)).toInt64 &&& 63))))), .second, iv (0 : Int32)] [(.int (if (0 : Int32) < i0 then (if ((10 : Int64) * ((1 : Int64) <<< ((i1 &&& (31 : Int32)).toInt64 &&& 63))) < i0.toInt64 then (0 : Int32) else 1) else 0))])
      have z11 : (if (0 : Int32) < i0 then (if ((10 : Int64) * ((1 : Int64) <<< ((i1 &&& (31 : Int32)).toInt64 &&& 63))) < i0.toInt64 then (0 : Int32) else 1) else 0) = (0 : Int32) := by rw [if_pos c17_8, if_pos c28_9]
      rw [z11]
      show Ends p e below _ T10 (mkF m 43 #[iv i0, iv i1, iv (i1 &&& (31 : Int32)), .val (.long ((1 : Int64) <<< ((i1 &&& (31 : Int32)).toInt64 &&& 63))), .second, .val (.double (FP.ddiv (FP.l2d i0.toInt64) (FP.l2d ((1 : Int64) <<< ((i1 &&& (31 : Int32)).toInt64 &&& 63))))), .second, iv (0 : Int32)] [(.int (0 : Int32))])
      refine go (fun _ => XS.iload X10.here hx rfl (hb hby at_43) rfl) ?_
      show Ends p e below _ T10 (mkF m 45 #[iv i0, iv i1, iv (i1 &&& (31 : Int32)), .val (.long ((1 : Int64) <<< ((i1 &&& (31 : Int32)).toInt64 &&& 63))), .second, .val (.double (FP.ddiv (FP.l2d i0.toInt64) (FP.l2d ((1 : Int64) <<< ((i1 &&& (31 : Int32)).toInt64 &&& 63))))), .second, iv (0 : Int32)] [(.int (0 : Int32)), (.int (0 : Int32))])
      refine go (fun _ => XS.icmpNo X10.here hx rfl (hb hby at_45) rfl (XT.ii_ne_f ((by decide) : (0 : Int32) = (0 : Int32)))) ?_
      show Ends p e below _ T10 (mkF m 48 #[iv i0, iv i1, iv (i1 &&& (31 : Int32)), .val (.long ((1 : Int64) <<< ((i1 &&& (31 : Int32)).toInt64 &&& 63))), .second, .val (.double (FP.ddiv (FP.l2d i0.toInt64) (FP.l2d ((1 : Int64) <<< ((i1 &&& (31 : Int32)).toInt64 &&& 63))))), .second, iv (0 : Int32)] [])
      refine go (fun _ => XT.iconstV X10.here hx rfl (1 : Int32) (hb hby at_48) (by decide)) ?_
      refine go (fun _ => XS.goto X10.here hx rfl (pc0 := 49) (pc' := 53) rfl (hb hby at_49) (by decide) (by decide)) ?_
      show Ends p e below _ T10 (mkF m 53 #[iv i0, iv i1, iv (i1 &&& (31 : Int32)), .val (.long ((1 : Int64) <<< ((i1 &&& (31 : Int32)).toInt64 &&& 63))), .second, .val (.double (FP.ddiv (FP.l2d i0.toInt64) (FP.l2d ((1 : Int64) <<< ((i1 &&& (31 : Int32)).toInt64 &&& 63))))), .second, iv (0 : Int32)] [(.int (1 : Int32))])
      exact endN X10 hx hret (by simp) (hb hby at_53) (lvN X10 hlk e10 (fun h => by rw [hret] at h; cases h) ⟨rfl, N10a⟩ (by decide) (by decide))
    · refine go (fun _ => XS.ifNo X0.here hx rfl (hb hby at_28) rfl (XT.ll_gt_f c28_9)) ?_
      show Ends p e below _ T0 (mkF m 31 #[iv i0, iv i1, iv (i1 &&& (31 : Int32)), .val (.long ((1 : Int64) <<< ((i1 &&& (31 : Int32)).toInt64 &&& 63))), .second, .val (.double (FP.ddiv (FP.l2d i0.toInt64) (FP.l2d ((1 : Int64) <<< ((i1 &&& (31 : Int32)).toInt64 &&& 63))))), .second, .unset] [])
      refine go (fun _ => XT.iconstV X0.here hx rfl (1 : Int32) (hb hby at_31) (by decide)) ?_
      refine go (fun _ => XS.goto X0.here hx rfl (pc0 := 32) (pc' := 36) rfl (hb hby at_32) (by decide) (by decide)) ?_
      refine go (fun _ => XS.istore X0.here hx rfl (hb hby at_36) rfl (l' := #[iv i0, iv i1, iv (i1 &&& (31 : Int32)), .val (.long ((1 : Int64) <<< ((i1 &&& (31 : Int32)).toInt64 &&& 63))), .second, .val (.double (FP.ddiv (FP.l2d i0.toInt64) (FP.l2d ((1 : Int64) <<< ((i1 &&& (31 : Int32)).toInt64 &&& 63))))), .second, iv (1 : Int32)]) rfl) ?_
      show Ends p e below _ T0 (mkF m 38 #[iv i0, iv i1, iv (i1 &&& (31 : Int32)), .val (.long ((1 : Int64) <<< ((i1 &&& (31 : Int32)).toInt64 &&& 63))), .second, .val (.double (FP.ddiv (FP.l2d i0.toInt64) (FP.l2d ((1 : Int64) <<< ((i1 &&& (31 : Int32)).toInt64 &&& 63))))), .second, iv (1 : Int32)] [])
      refine go (fun _ => XS.dload X0.here hx rfl (hb hby at_38) rfl) ?_
      show Ends p e below _ T0 (mkF m 40 #[iv i0, iv i1, iv (i1 &&& (31 : Int32)), .val (.long ((1 : Int64) <<< ((i1 &&& (31 : Int32)).toInt64 &&& 63))), .second, .val (.double (FP.ddiv (FP.l2d i0.toInt64) (FP.l2d ((1 : Int64) <<< ((i1 &&& (31 : Int32)).toInt64 &&& 63))))), .second, iv (1 : Int32)] [(.double (FP.ddiv (FP.l2d i0.toInt64) (FP.l2d ((1 : Int64) <<< ((i1 &&& (31 : Int32)).toInt64 &&& 63)))))])
      refine cStat X0 hx hZ hown (by rw [hml]; rfl) e0 (hwi hw 0 rfl) (hwi hw 1 rfl) (hwi hw 2 rfl) (hwi hw 3 rfl) [(.double (FP.ddiv (FP.l2d i0.toInt64) (FP.l2d ((1 : Int64) <<< ((i1 &&& (31 : Int32)).toInt64 &&& 63)))))] [] rfl (rm_fs hw (FP.ddiv (FP.l2d i0.toInt64) (FP.l2d ((1 : Int64) <<< ((i1 &&& (31 : Int32)).toInt64 &&& 63)))) i0 ((10 : Int64) * ((1 : Int64) <<< ((i1 &&& (31 : Int32)).toInt64 &&& 63))) _ sp.2.1 sp.2.2) (hb hby at_40) rfl (lenOf pd_2 rfl) (by decide) (by decide) (Nat.le_of_ble_eq_true rfl) (by decide) (by decide) ?_
      rintro v12 T12 h12 L12 X12 e12 ⟨rfl, N12, rfl⟩
      have N12a := Fr.app (Fr.nil _) N12
      show Ends p e below _ T12 (mkF m 43 #[iv i0, iv i1, iv (i1 &&& (31 : Int32)), .val (.long ((1 : Int64) <<< ((i1 &&& (31 : Int32)).toInt64 &&& 63))), .second, .val (.double (FP.ddiv (FP.l2d i0.toInt64) (FP.l2d ((1 : Int64) <<< ((i1 &&& (31 : Int32)).toInt64 &&& 63))))), .second, iv (1 : Int32)] [(.int (if (0 : Int32) < i0 then (if ((10 : Int64) * ((1 : Int64) <<< ((i1 &&& (31 : Int32)).toInt64 &&& 63))) < i0.toInt64 then (0 : Int32) else 1) else 0))])
      have z13 : (if (0 : Int32) < i0 then (if ((10 : Int64) * ((1 : Int64) <<< ((i1 &&& (31 : Int32)).toInt64 &&& 63))) < i0.toInt64 then (0 : Int32) else 1) else 0) = (1 : Int32) := by rw [if_pos c17_8, if_neg c28_9]
      rw [z13]
      show Ends p e below _ T12 (mkF m 43 #[iv i0, iv i1, iv (i1 &&& (31 : Int32)), .val (.long ((1 : Int64) <<< ((i1 &&& (31 : Int32)).toInt64 &&& 63))), .second, .val (.double (FP.ddiv (FP.l2d i0.toInt64) (FP.l2d ((1 : Int64) <<< ((i1 &&& (31 : Int32)).toInt64 &&& 63))))), .second, iv (1 : Int32)] [(.int (1 : Int32))])
      refine go (fun _ => XS.iload X12.here hx rfl (hb hby at_43) rfl) ?_
      show Ends p e below _ T12 (mkF m 45 #[iv i0, iv i1, iv (i1 &&& (31 : Int32)), .val (.long ((1 : Int64) <<< ((i1 &&& (31 : Int32)).toInt64 &&& 63))), .second, .val (.double (FP.ddiv (FP.l2d i0.toInt64) (FP.l2d ((1 : Int64) <<< ((i1 &&& (31 : Int32)).toInt64 &&& 63))))), .second, iv (1 : Int32)] [(.int (1 : Int32)), (.int (1 : Int32))])
      refine go (fun _ => XS.icmpNo X12.here hx rfl (hb hby at_45) rfl (XT.ii_ne_f ((by decide) : (1 : Int32) = (1 : Int32)))) ?_
      show Ends p e below _ T12 (mkF m 48 #[iv i0, iv i1, iv (i1 &&& (31 : Int32)), .val (.long ((1 : Int64) <<< ((i1 &&& (31 : Int32)).toInt64 &&& 63))), .second, .val (.double (FP.ddiv (FP.l2d i0.toInt64) (FP.l2d ((1 : Int64) <<< ((i1 &&& (31 : Int32)).toInt64 &&& 63))))), .second, iv (1 : Int32)] [])
      refine go (fun _ => XT.iconstV X12.here hx rfl (1 : Int32) (hb hby at_48) (by decide)) ?_
      refine go (fun _ => XS.goto X12.here hx rfl (pc0 := 49) (pc' := 53) rfl (hb hby at_49) (by decide) (by decide)) ?_
      show Ends p e below _ T12 (mkF m 53 #[iv i0, iv i1, iv (i1 &&& (31 : Int32)), .val (.long ((1 : Int64) <<< ((i1 &&& (31 : Int32)).toInt64 &&& 63))), .second, .val (.double (FP.ddiv (FP.l2d i0.toInt64) (FP.l2d ((1 : Int64) <<< ((i1 &&& (31 : Int32)).toInt64 &&& 63))))), .second, iv (1 : Int32)] [(.int (1 : Int32))])
      exact endN X12 hx hret (by simp) (hb hby at_53) (lvN X12 hlk e12 (fun h => by rw [hret] at h; cases h) ⟨rfl, N12a⟩ (by decide) (by decide))
  · refine go (fun _ => XS.ifYes X0.here hx rfl (pc0 := 17) (pc' := 35) rfl (hb hby at_17) rfl (XT.i0_le_t c17_8) (by decide) (by decide)) ?_
    show Ends p e below _ T0 (mkF m 35 #[iv i0, iv i1, iv (i1 &&& (31 : Int32)), .val (.long ((1 : Int64) <<< ((i1 &&& (31 : Int32)).toInt64 &&& 63))), .second, .val (.double (FP.ddiv (FP.l2d i0.toInt64) (FP.l2d ((1 : Int64) <<< ((i1 &&& (31 : Int32)).toInt64 &&& 63))))), .second, .unset] [])
    refine go (fun _ => XT.iconstV X0.here hx rfl (0 : Int32) (hb hby at_35) (by decide)) ?_
    refine go (fun _ => XS.istore X0.here hx rfl (hb hby at_36) rfl (l' := #[iv i0, iv i1, iv (i1 &&& (31 : Int32)), .val (.long ((1 : Int64) <<< ((i1 &&& (31 : Int32)).toInt64 &&& 63))), .second, .val (.double (FP.ddiv (FP.l2d i0.toInt64) (FP.l2d ((1 : Int64) <<< ((i1 &&& (31 : Int32)).toInt64 &&& 63))))), .second, iv (0 : Int32)]) rfl) ?_
    show Ends p e below _ T0 (mkF m 38 #[iv i0, iv i1, iv (i1 &&& (31 : Int32)), .val (.long ((1 : Int64) <<< ((i1 &&& (31 : Int32)).toInt64 &&& 63))), .second, .val (.double (FP.ddiv (FP.l2d i0.toInt64) (FP.l2d ((1 : Int64) <<< ((i1 &&& (31 : Int32)).toInt64 &&& 63))))), .second, iv (0 : Int32)] [])
    refine go (fun _ => XS.dload X0.here hx rfl (hb hby at_38) rfl) ?_
    show Ends p e below _ T0 (mkF m 40 #[iv i0, iv i1, iv (i1 &&& (31 : Int32)), .val (.long ((1 : Int64) <<< ((i1 &&& (31 : Int32)).toInt64 &&& 63))), .second, .val (.double (FP.ddiv (FP.l2d i0.toInt64) (FP.l2d ((1 : Int64) <<< ((i1 &&& (31 : Int32)).toInt64 &&& 63))))), .second, iv (0 : Int32)] [(.double (FP.ddiv (FP.l2d i0.toInt64) (FP.l2d ((1 : Int64) <<< ((i1 &&& (31 : Int32)).toInt64 &&& 63)))))])
    refine cStat X0 hx hZ hown (by rw [hml]; rfl) e0 (hwi hw 0 rfl) (hwi hw 1 rfl) (hwi hw 2 rfl) (hwi hw 3 rfl) [(.double (FP.ddiv (FP.l2d i0.toInt64) (FP.l2d ((1 : Int64) <<< ((i1 &&& (31 : Int32)).toInt64 &&& 63)))))] [] rfl (rm_fs hw (FP.ddiv (FP.l2d i0.toInt64) (FP.l2d ((1 : Int64) <<< ((i1 &&& (31 : Int32)).toInt64 &&& 63)))) i0 ((10 : Int64) * ((1 : Int64) <<< ((i1 &&& (31 : Int32)).toInt64 &&& 63))) _ sp.2.1 sp.2.2) (hb hby at_40) rfl (lenOf pd_2 rfl) (by decide) (by decide) (Nat.le_of_ble_eq_true rfl) (by decide) (by decide) ?_
    rintro v14 T14 h14 L14 X14 e14 ⟨rfl, N14, rfl⟩
    have N14a := Fr.app (Fr.nil _) N14
    show Ends p e below _ T14 (mkF m 43 #[iv i0, iv i1, iv (i1 &&& (31 : Int32)), .val (.long ((1 : Int64) <<< ((i1 &&& (31 : Int32)).toInt64 &&& 63))), .second, .val (.double (FP.ddiv (FP.l2d i0.toInt64) (FP.l2d ((1 : Int64) <<< ((i1 &&& (31 : Int32)).toInt64 &&& 63))))), .second, iv (0 : Int32)] [(.int (if (0 : Int32) < i0 then (if ((10 : Int64) * ((1 : Int64) <<< ((i1 &&& (31 : Int32)).toInt64 &&& 63))) < i0.toInt64 then (0 : Int32) else 1) else 0))])
    have z15 : (if (0 : Int32) < i0 then (if ((10 : Int64) * ((1 : Int64) <<< ((i1 &&& (31 : Int32)).toInt64 &&& 63))) < i0.toInt64 then (0 : Int32) else 1) else 0) = (0 : Int32) := by rw [if_neg c17_8]
    rw [z15]
    show Ends p e below _ T14 (mkF m 43 #[iv i0, iv i1, iv (i1 &&& (31 : Int32)), .val (.long ((1 : Int64) <<< ((i1 &&& (31 : Int32)).toInt64 &&& 63))), .second, .val (.double (FP.ddiv (FP.l2d i0.toInt64) (FP.l2d ((1 : Int64) <<< ((i1 &&& (31 : Int32)).toInt64 &&& 63))))), .second, iv (0 : Int32)] [(.int (0 : Int32))])
    refine go (fun _ => XS.iload X14.here hx rfl (hb hby at_43) rfl) ?_
    show Ends p e below _ T14 (mkF m 45 #[iv i0, iv i1, iv (i1 &&& (31 : Int32)), .val (.long ((1 : Int64) <<< ((i1 &&& (31 : Int32)).toInt64 &&& 63))), .second, .val (.double (FP.ddiv (FP.l2d i0.toInt64) (FP.l2d ((1 : Int64) <<< ((i1 &&& (31 : Int32)).toInt64 &&& 63))))), .second, iv (0 : Int32)] [(.int (0 : Int32)), (.int (0 : Int32))])
    refine go (fun _ => XS.icmpNo X14.here hx rfl (hb hby at_45) rfl (XT.ii_ne_f ((by decide) : (0 : Int32) = (0 : Int32)))) ?_
    show Ends p e below _ T14 (mkF m 48 #[iv i0, iv i1, iv (i1 &&& (31 : Int32)), .val (.long ((1 : Int64) <<< ((i1 &&& (31 : Int32)).toInt64 &&& 63))), .second, .val (.double (FP.ddiv (FP.l2d i0.toInt64) (FP.l2d ((1 : Int64) <<< ((i1 &&& (31 : Int32)).toInt64 &&& 63))))), .second, iv (0 : Int32)] [])
    refine go (fun _ => XT.iconstV X14.here hx rfl (1 : Int32) (hb hby at_48) (by decide)) ?_
    refine go (fun _ => XS.goto X14.here hx rfl (pc0 := 49) (pc' := 53) rfl (hb hby at_49) (by decide) (by decide)) ?_
    show Ends p e below _ T14 (mkF m 53 #[iv i0, iv i1, iv (i1 &&& (31 : Int32)), .val (.long ((1 : Int64) <<< ((i1 &&& (31 : Int32)).toInt64 &&& 63))), .second, .val (.double (FP.ddiv (FP.l2d i0.toInt64) (FP.l2d ((1 : Int64) <<< ((i1 &&& (31 : Int32)).toInt64 &&& 63))))), .second, iv (0 : Int32)] [(.int (1 : Int32))])
    exact endN X14 hx hret (by simp) (hb hby at_53) (lvN X14 hlk e14 (fun h => by rw [hret] at h; cases h) ⟨rfl, N14a⟩ (by decide) (by decide))
set_option maxRecDepth 65536 in
set_option maxHeartbeats 40000000 in
theorem comes_1 {Post : Tables → Env → Array Value → State → Outcome → State → Prop} (hpost : ∀ tb e args s v u, (limb_1_1.after args s (.returned v) u = true ∧ limb_1_2.after args s (.returned v) u = true ∧ True) → FrameEnd s (.returned v) u (Jvm.fieldLocs frame_1_writes args s ++ Jvm.arrayLocs frame_1_arrays args s ++ Jvm.staticLocs frame_1_statics s) 0 0 → Post tb e args s (.returned v) u) :
    ArmFor flags0 classFile x code maxLocals ret World_1 tables_1 room_1 Calls_1 rest_1 Pre_1 Post := by
  intro l hfl _ _ p e ha hc hk s m args below hf hA hF happ hP
  obtain ⟨hcalls, hrest, hpre⟩ := hP
  obtain ⟨-, -, -, hnamed, -, -, -, hat⟩ := (Spec.applies_iff hf).mp happ
  obtain ⟨hg, hn⟩ := and_e (Cond.before_iff.mp (show (Jvm.Cond.and given_1 narrow_1).before args s = true from hpre))
  obtain ⟨gv0, gvtr⟩ := and_e hg
  obtain ⟨gv1, gv2⟩ := and_e gvtr
  obtain ⟨w0, w1, rfl⟩ : ∃ w0 w1 : Value, args = #[w0, w1] := by
    have hs : args.size = 2 := by simpa [Cond.value, given_1] using gv0
    obtain ⟨L⟩ := args
    match L, hs with
    | [w0, w1], _ => exact ⟨w0, w1, rfl⟩
  have hw := fun d (hd : d ∈ tables_1) => atoms_spec (ws := Jvm.Cond.code x code maxLocals ret :: tables_1) hat d (List.mem_cons_of_mem _ hd)
  have hfit : Fit s := fun {y c} hc i hi => by
    obtain ⟨ha, rfl⟩ := Array.getElem?_eq_some_iff.mp hc
    have q := List.all_eq_true.mp ((Array.all_eq_true_iff_forall_mem.mp hF) _ (Array.getElem_mem ha)) i (List.mem_range.mpr hi)
    simpa [Array.getElem?_eq_getElem hi] using q
  obtain ⟨i0, ei0⟩ := is_v gv1
  obtain rfl : w0 = (.int i0) := Option.some.inj ei0
  obtain ⟨i1, ei1⟩ := is_v gv2
  obtain rfl : w1 = (.int i1) := Option.some.inj ei1
  obtain ⟨n, o, h1, h2, h3, _, L, rfl, ⟨rfl, N⟩, hq⟩ := (rm_law (l := l) hw i0 i1 s.heap) tables_1 p e ha hc hk s m _ below hf ((Spec.applies_iff_loose hf).mp happ).1 ⟨rfl, State.Warmed39.refl s, rfl⟩ trivial
  refine ⟨n, _, h1, h2, h3, hpost _ _ _ _ _ _ ⟨Cond.after_iff.mpr rfl, Cond.after_iff.mpr (eq_i res_at (Term.int_eval (1)) rfl), trivial⟩ ⟨hq.1, hq.2.1, (hq.2.2.sift fun y hy => Or.inr (N y hy)).mono (by decide) (by decide)⟩⟩
theorem main_1_1 : Claimed_1_1 := comes_1 fun _ _ _ _ _ _ h hF => ⟨h.1, hF⟩
theorem main_1_2 : Claimed_1_2 := comes_1 fun _ _ _ _ _ _ h hF => ⟨h.2.1, hF⟩
end Jvm.Pilot.@@N@@
namespace Jvm.Pilot.@@N@@
open Jvm Jvm.ClassFile Sem Op Lib Jvm.Free Jvm.Stand Jvm.Pilot.@@N@@.Jvm.D
/-! MADE BY PROGRAM (witnessworld.py) out of the Statement's table words and the real class files: 10 classes; the members and pool entries that the words name. The judged class is class 1, her method 1. -/
namespace start1
open Jvm.ClassFile
def u (s : String) : CpInfo := .utf8 (stringToUtf16 s)
/-- a pool by its gaps: so many unusable entries, then the entry; so many at the end -/
def gap : Nat → List CpInfo → List CpInfo
  | 0, r => r
  | n + 1, r => .unusable :: gap n r
def poolList (es : List (Nat × CpInfo)) (last : Nat) : List CpInfo := es.foldr (fun e r => gap e.1 (e.2 :: r)) (gap last [])
def pool (es : List (Nat × CpInfo)) (last : Nat) : Array CpInfo := ⟨poolList es last⟩
def fileOf (pool : Array CpInfo) (this : Nat) (attrs : Array Attribute := #[]) (ms : Array MethodInfo := #[]) (fl : Nat := 33) (sup : Nat := 0) (ifs : Array Nat := #[]) (fds : Array FieldInfo := #[]) : ClassFile where
  minorVersion := 0
  majorVersion := 65
  constantPool := pool
  accessFlags := fl
  thisClass := this
  superClass := sup
  interfaces := ifs
  fields := fds
  methods := ms
  attributes := attrs
def plain (name : String) (sup : Option ClassId) : Class where
  name := name
  kind := .ordinary
  loader := none
  accessFlags := 33
  super := sup
  interfaces := #[]
  cf := none
  fields := #[]
  methods := #[]
  instanceTypes := #[]
  staticTypes := #[]
  resolved := #[]
  callSites := []
  init := .initialized
  statics := none
  mirror := none

def pool0 : Array CpInfo := pool [(5, u "<init>"), (0, u "()V"), (1, .class_ 10), (1, u "java/lang/Object")] 113

def k0m0 : Method := { name := "<init>", desc := "()V", sig := { parameters := [], returnType := none }, accessFlags := 1, code := none }
/-- java/lang/Object -/
def k0 : Class := { plain "java/lang/Object" none with
  accessFlags := 33
  interfaces := #[]
  cf := some (fileOf pool0 8 #[] #[{ accessFlags := 1, nameIndex := 5, descriptorIndex := 6, attributes := #[] }] 33 0 #[] #[])
  fields := #[]
  methods := #[k0m0]
  instanceTypes := #[]
  staticTypes := #[]
  resolved := Array.replicate 124 none
  statics := none }

def pool1 : Array CpInfo := pool [(2, .class_ 4), (1, u "java/lang/Object"), (0, u "<init>"), (0, u "()V"), (0, .long 10), (1, .methodref 10 11), (0, .class_ 12), (0, .nameAndType 13 14), (0, u "com/example/pedestrain/pedestrain/core/Person"), (0, u "isFreeSpeed"), (0, u "(D)Z"), (0, .class_ 16), (0, u "com/example/pedestrain/pedestrain/core/PersonIsFreeSpeedPinLaw"), (2, u "law"), (0, u "(II)Z")] 3

def k1m0 : Method := { name := "<init>", desc := "()V", sig := { parameters := [], returnType := none }, accessFlags := 1, code := none }
def k1c1 : Code := { maxStack := 6, maxLocals := 8, code := code, exceptionTable := #[], attributes := #[] }
def k1m1 : Method := { name := "law", desc := "(II)Z", sig := { parameters := [.int, .int], returnType := some .boolean }, accessFlags := 9, code := some k1c1 }
/-- com/example/pedestrain/pedestrain/core/PersonIsFreeSpeedPinLaw -/
def k1 : Class := { plain "com/example/pedestrain/pedestrain/core/PersonIsFreeSpeedPinLaw" (some 0) with
  accessFlags := 49
  interfaces := #[]
  cf := some (fileOf pool1 15 #[] #[{ accessFlags := 1, nameIndex := 5, descriptorIndex := 6, attributes := #[] }, { accessFlags := 9, nameIndex := 19, descriptorIndex := 20, attributes := #[] }] 49 2 #[] #[])
  fields := #[]
  methods := #[k1m0, k1m1]
  instanceTypes := #[]
  staticTypes := #[]
  resolved := Array.replicate 24 none
  statics := none }

def pool2 : Array CpInfo := pool [(2, .class_ 4), (1, u "java/lang/Object"), (0, u "<init>"), (0, u "()V"), (0, .class_ 8), (0, u "java/lang/Record")] 13

def k2m0 : Method := { name := "<init>", desc := "()V", sig := { parameters := [], returnType := none }, accessFlags := 4, code := none }
/-- java/lang/Record -/
def k2 : Class := { plain "java/lang/Record" (some 0) with
  accessFlags := 1057
  interfaces := #[]
  cf := some (fileOf pool2 7 #[] #[{ accessFlags := 4, nameIndex := 5, descriptorIndex := 6, attributes := #[] }] 1057 2 #[] #[])
  fields := #[]
  methods := #[k2m0]
  instanceTypes := #[]
  staticTypes := #[]
  resolved := Array.replicate 22 none
  statics := none }

def pool3 : Array CpInfo := pool [(2, .class_ 4), (1, u "java/lang/Record"), (16, u "(D)Z"), (2, .class_ 26), (1, u "com/example/pedestrain/pedestrain/core/Person"), (0, u "isFreeSpeed"), (9, u "id"), (0, u "I"), (2, u "x"), (0, u "D"), (2, u "y"), (2, u "speed"), (0, .double 4621819117588971520), (15, u "DEFAULT_SPEED"), (3, u "MAX_SPEED")] 46

def k3c0 : Code := { maxStack := 4, maxLocals := 2, code := prog_27_method_2_code, exceptionTable := #[], attributes := #[] }
def k3m0 : Method := { name := "isFreeSpeed", desc := "(D)Z", sig := { parameters := [.double], returnType := some .boolean }, accessFlags := 8, code := some k3c0 }
/-- com/example/pedestrain/pedestrain/core/Person -/
def k3 : Class := { plain "com/example/pedestrain/pedestrain/core/Person" (some 2) with
  accessFlags := 49
  interfaces := #[]
  cf := some (fileOf pool3 24 #[] #[{ accessFlags := 8, nameIndex := 27, descriptorIndex := 21, attributes := #[] }] 49 2 #[] #[{ accessFlags := 18, nameIndex := 37, descriptorIndex := 38, attributes := #[] }, { accessFlags := 18, nameIndex := 41, descriptorIndex := 42, attributes := #[] }, { accessFlags := 18, nameIndex := 45, descriptorIndex := 42, attributes := #[] }, { accessFlags := 18, nameIndex := 48, descriptorIndex := 42, attributes := #[] }, { accessFlags := 25, nameIndex := 65, descriptorIndex := 42, attributes := #[] }, { accessFlags := 25, nameIndex := 69, descriptorIndex := 42, attributes := #[] }])
  fields := #[{ name := "id", type := .int, accessFlags := 18, slot := 0, constantValue := 0 }, { name := "x", type := .double, accessFlags := 18, slot := 1, constantValue := 0 }, { name := "y", type := .double, accessFlags := 18, slot := 2, constantValue := 0 }, { name := "speed", type := .double, accessFlags := 18, slot := 3, constantValue := 0 }, { name := "DEFAULT_SPEED", type := .double, accessFlags := 25, slot := 0, constantValue := 0 }, { name := "MAX_SPEED", type := .double, accessFlags := 25, slot := 1, constantValue := 0 }]
  methods := #[k3m0]
  instanceTypes := #[.int, .double, .double, .double]
  staticTypes := #[.double, .double]
  resolved := Array.replicate 116 none
  statics := none }

def pool4 : Array CpInfo := pool [(1, u "java/lang/Cloneable"), (0, .class_ 1), (0, u "java/lang/Object"), (0, .class_ 3)] 3

/-- java/lang/Cloneable -/
def k4 : Class := { plain "java/lang/Cloneable" (some 0) with
  accessFlags := 1537
  interfaces := #[]
  cf := some (fileOf pool4 2 #[] #[] 1537 4 #[] #[])
  fields := #[]
  methods := #[]
  instanceTypes := #[]
  staticTypes := #[]
  resolved := Array.replicate 8 none
  statics := none }

def pool5 : Array CpInfo := pool [(1, u "java/io/Serializable"), (0, .class_ 1), (0, u "java/lang/Object"), (0, .class_ 3)] 3

/-- java/io/Serializable -/
def k5 : Class := { plain "java/io/Serializable" (some 0) with
  accessFlags := 1537
  interfaces := #[]
  cf := some (fileOf pool5 2 #[] #[] 1537 4 #[] #[])
  fields := #[]
  methods := #[]
  instanceTypes := #[]
  staticTypes := #[]
  resolved := Array.replicate 8 none
  statics := none }

/-- the primitive byte -/
def k6 : Class := { plain "byte" none with kind := .primitive 'B', accessFlags := 0x411 }
/-- [B -/
def k7 : Class := { plain "[B" (some 0) with kind := .array 6 .byte, interfaces := #[4, 5], accessFlags := 1041 }

/-- the primitive int -/
def k8 : Class := { plain "int" none with kind := .primitive 'I', accessFlags := 0x411 }
/-- [I -/
def k9 : Class := { plain "[I" (some 0) with kind := .array 8 .int, interfaces := #[4, 5], accessFlags := 1041 }

def heap : Heap := #[]
def classes : Array Class := #[k0, k1, k2, k3, k4, k5, k6, k7, k8, k9]
def interned : List (Array UInt16 × Addr) := []
def slotsUsed : Nat := 0
def theMethod : MethodId := ⟨1, 1⟩
def args0 : Array Value := #[.int 3, .int 1]
def aboutOver (below : List Frame) : State where
  vm := { classes := classes, interned := interned.toArray }
  heap := heap
  slotsUsed := slotsUsed
  threads := #[{ frames := .invoking theMethod args0 :: below }]
def below0 : List Frame := [.native { method := ⟨0, 0⟩, args := #[] }]
def about1 : State := aboutOver below0
def p0 : Program := .bare "" "" ""
def e0 : Env := launch0.env 0 0 0
theorem w_frames : about1.frames = Frame.invoking theMethod args0 :: below0 := rfl
set_option maxRecDepth 65536 in
theorem w_args : argsFit about1.vm theMethod args0 = true := by decide +kernel
set_option maxRecDepth 65536 in
theorem w_heap : heapFits about1 = true := by decide +kernel
set_option maxRecDepth 65536 in
theorem w_runnable : about1.curStatus? = some .runnable := by decide +kernel
set_option maxRecDepth 65536 in
theorem w_alone : about1.alone = true := by decide +kernel
set_option maxRecDepth 65536 in
theorem w_named : about1.methodNamed? x = some theMethod := by decide +kernel
set_option maxRecDepth 65536 in
theorem w_hears : about1.hears theMethod below0 = true := by decide +kernel
set_option maxRecDepth 65536 in
theorem w_ripe : about1.ripe theMethod args0 below0 = true := by decide +kernel
theorem w_running : about1.status = .running := rfl
set_option maxRecDepth 65536 in
theorem w_room : about1.hasRoom e0.platform room_1 = true :=
  launch0.hasRoom_least _ room_1 (by decide +kernel) (by decide +kernel) (by decide +kernel) (by decide +kernel) (by decide +kernel) (by decide +kernel)
theorem allAtoms_all (ts : List Jvm.Cond) (a : Array Jvm.Value) (st : Jvm.State) : (allAtoms ts).before a st = ts.all (fun c => c.before a st) := by
  induction ts with
  | nil => rfl
  | cons c t ih =>
    show (Jvm.Cond.and c (allAtoms t)).before a st = _
    rw [Jvm.Cond.before_and, ih, List.all_cons]
def words1 : List Jvm.Cond := Jvm.Cond.code x code maxLocals ret :: tables_1
/-- a 'code' word, met by the world's own term for the bytes: nothing is compared byte by byte -/
theorem code_word {y : MethodName} {bytes : ByteArray} {mx : Nat} {rt : Option FieldType} {a : Array Value} {s : State} {m : MethodId} {meth : Method} {c : Code} (h1 : s.methodNamed? y = some m) (h2 : s.vm.method? m = some meth) (h3 : meth.code = some c) (h4 : c.code = bytes)
    (h5 : (c.maxLocals == mx && c.exceptionTable.isEmpty && decide (c.maxStack ≤ mostOperands) && decide (meth.sig.returnType = rt) && !meth.locks && decide (parseMethodDescriptor y.desc = some meth.sig)) = true) : (Jvm.Cond.code y bytes mx rt).before a s = true := by
  simp only [Bool.and_eq_true, beq_iff_eq, Bool.not_eq_true', decide_eq_true_eq] at h5
  obtain ⟨⟨⟨⟨⟨g1, g2⟩, g3⟩, g4⟩, g5⟩, g6⟩ := h5
  simp [Cond.before, Cond.holds, Cond.value, h1, h2, h3, h4, g1, g2, g3, g4, g5, g6]
def isCode : Jvm.Cond → Bool
  | .code _ _ _ _ => true
  | _ => false
theorem all_split {L : List Jvm.Cond} {P : Jvm.Cond → Bool} (h1 : L.all (fun c => isCode c || P c) = true) (h2 : ∀ c ∈ L.filter isCode, P c = true) : L.all P = true := by
  refine List.all_eq_true.mpr fun c hc => ?_
  have h := List.all_eq_true.mp h1 c hc
  rcases Bool.eq_false_or_eq_true (isCode c) with hi | hi
  · exact h2 c (List.mem_filter.mpr ⟨hc, hi⟩)
  · simpa [hi] using h
set_option maxRecDepth 65536 in
theorem w_c0 : (Jvm.Cond.code x code maxLocals ret).before args0 about1 = true := code_word (m := ⟨1, 1⟩) (meth := k1m1) (c := k1c1) (by decide +kernel) rfl rfl rfl (by decide +kernel)
set_option maxRecDepth 65536 in
theorem w_c1 : (Jvm.Cond.code ({ cls := "com/example/pedestrain/pedestrain/core/Person", name := "isFreeSpeed", desc := "(D)Z" } : Jvm.MethodName) prog_27_method_2_code (2 : Nat) (Option.some Jvm.ClassFile.FieldType.boolean)).before args0 about1 = true := code_word (m := ⟨3, 0⟩) (meth := k3m0) (c := k3c0) (by decide +kernel) rfl rfl rfl (by decide +kernel)
def codes1 : List Jvm.Cond := [Jvm.Cond.code x code maxLocals ret, Jvm.Cond.code ({ cls := "com/example/pedestrain/pedestrain/core/Person", name := "isFreeSpeed", desc := "(D)Z" } : Jvm.MethodName) prog_27_method_2_code (2 : Nat) (Option.some Jvm.ClassFile.FieldType.boolean)]
set_option maxRecDepth 65536 in
theorem codes_eq : words1.filter isCode = codes1 := rfl
theorem w_codes : ∀ c ∈ words1.filter isCode, c.before args0 about1 = true := by
  rw [codes_eq]
  intro c hc
  simp only [codes1, List.mem_cons, List.not_mem_nil, or_false] at hc
  rcases hc with rfl | rfl
  · exact w_c0
  · exact w_c1
set_option maxRecDepth 65536 in
theorem w_t1 : words1.all (fun c => isCode c || c.before args0 about1) = true := by decide +kernel
theorem w_tables : (allAtoms (Jvm.Cond.code x code maxLocals ret :: tables_1)).before args0 about1 = true := by
  rw [allAtoms_all]
  show words1.all (fun c => c.before args0 about1) = true
  refine all_split ?_ w_codes
  rw [w_t1]
set_option maxRecDepth 65536 in
theorem w_case : (Jvm.Cond.and given_1 narrow_1).before args0 about1 = true := by decide +kernel
theorem w_applies : (headSpec (Jvm.Cond.code x code maxLocals ret :: tables_1) room_1).applies x e0.platform about1 = true :=
  (Spec.applies_iff w_frames).mpr ⟨w_running, w_runnable, w_alone, w_named, w_hears, w_ripe, w_room, w_tables⟩
theorem atStart : AtStart classFile x code maxLocals ret World_1 tables_1 room_1 Calls_1 rest_1 Pre_1 launch0 p0 e0 about1 theMethod args0 below0 :=
  ⟨lists_1, trivial, launch0.admits_env _ _ _, launch0.least_env, fairChoices_fair.cas, fairChoices_fair.clock, w_frames, w_args, w_heap, w_applies, trivial, trivial, w_case⟩
end start1
theorem witness_1 : WitnessClaimed_1 := ⟨start1.p0, start1.e0, start1.about1, start1.theMethod, start1.args0, start1.below0, start1.atStart⟩
end Jvm.Pilot.@@N@@
