import JvmDerived
import JvmDerived.Pilot.@@N@@Statement
import JvmDerived.Pilot.@@N@@Code
set_option linter.unusedVariables false
set_option linter.unusedSimpArgs false

namespace Jvm.Pilot.@@N@@
open Jvm Jvm.ClassFile Sem Op Lib Jvm.Free Jvm.Stand Jvm.LawKit Jvm.RoadKit Bundle Jvm.Pilot.@@N@@.Jvm.D
section OwnLayer
variable {p : Program} {l : Launch} {e : Env} {R : Room} {s : State} {m : MethodId} {args : Array Value} {below : List Frame} {meth : Method} {c : Code} {T : State} {locs : List Loc} {cells slots : Nat} {Z : State} {a0 : Array Value} {h : Heap} {K : State → Prop}
/-- the run from the frame g at T comes to a state of which K holds -/
def own_Go (p : Program) (e : Env) (below : List Frame) (K : State → Prop) (T : State) (g : JFrame) : Prop := ∃ t, Steps p.tables e below (T.setTop g) t ∧ K t
theorem own_go {T' : State} {g g' : JFrame} (st : ∀ t, Steps p.tables e below (T'.setTop g') t → Steps p.tables e below (T.setTop g) t) (k : own_Go p e below K T' g') : own_Go p e below K T g := by
  obtain ⟨t, h1, h2⟩ := k
  exact ⟨t, st t h1, h2⟩
/-- the method has returned, Q says what, and the frame is kept -/
def own_End (s : State) (below : List Frame) (Q : Option Value → Heap → List Loc → Prop) (C N : Nat) (t : State) : Prop :=
  ∃ o, t.status = .running ∧ Ended t below o ∧ ∃ v L, o = .returned v ∧ Q v t.heap L ∧ FrameEnd s o t L C N
/-- a contract, as the callers of this family ask it -/
abbrev own_Met (l : Launch) (Z : State) (y : MethodName) (bytes : ByteArray) (maxL : Nat) (ret : Option FieldType) (ws : List Jvm.Cond) (rm : Room) (as' : Array Value) (h : Heap) (Q : Option Value → Heap → List Loc → Prop) : Prop :=
  MetFree l y (head1 (Jvm.Cond.code y bytes maxL ret :: ws) rm) (fun a U => a = as' ∧ Z.Warmed39 U.vm ∧ U.heap = h) (fun _ _ _ _ _ => True) (fun _ U o U' => ∃ v L, o = .returned v ∧ Q v U'.heap L ∧ FrameEnd U o U' L rm.cells rm.slots)
theorem own_body {y : MethodName} {bytes : ByteArray} {maxL : Nat} {ret : Option FieldType} {ws : List Jvm.Cond} {rm : Room} {as' : Array Value} {h0 : Heap} {Q : Option Value → Heap → List Loc → Prop} {g : MethodId → JFrame}
    (hp : plainFor y = true) (hef : ∀ m, entryFrame m as' maxL = g m)
    (H : ∀ (p : Program) (e : Env) (s : State) (m : MethodId) (A : Array Value) (below : List Frame) (meth : Method) (c : Code) (T : State) (K : State → Prop), Stand p l e rm s m A below meth c T [] 0 0 → p.tables.exec = Jvm.exec → c.code = bytes → c.maxLocals = maxL → s.vm.findClass y.cls = some m.cls → meth.name = y.name → meth.sig.returnType = ret → meth.locks = false → Z.Warmed39 s.vm → T.heap = h0 → (∀ t, own_End s below Q rm.cells rm.slots t → K t) → own_Go p e below K T (g m)) :
    own_Met l Z y bytes maxL ret ws rm as' h0 Q := by
  refine MetFree.of_bodySF hp hisR ?_
  intro p e s m args below meth c s₁ Bd hml0 hP hK
  obtain ⟨rfl, hZ, hh⟩ := hP
  have e0 : s₁.heap = h0 := by rw [← hh, Bd.state]; rfl
  obtain ⟨t, h1, o, h2, h3, h4⟩ := H p e s m args below meth c s₁ _ (Stand.of_body Bd) Bd.exec Bd.bytes hml0 (findClass_of_methodNamed Bd.named) (name_of_methodNamed Bd.named Bd.method).1 Bd.returns Bd.notSynchronized hZ e0 (fun _ q => q)
  exact ⟨t, o, castTop (hef m) h1, h2, h3, h4⟩
theorem own_ret {Q : Option Value → Heap → List Loc → Prop} {C N : Nat} (X : Stand p l e R s m args below meth c T locs cells slots) (hx : p.tables.exec = Jvm.exec) (hlk : meth.locks = false) (hK : ∀ t, own_End s below Q C N t → K t) {pc : Nat} {Ls : Array Slot} {w : Value} {t : FieldType} {i : Instr} {rest : List Value} (hret : meth.sig.returnType = some t) (hn : narrow t w = w)
    (hi : (i = .ireturn ∧ (t = .int ∨ t = .boolean ∨ t = .byte ∨ t = .char ∨ t = .short) ∧ ∃ z, w = .int z) ∨ (i = .lreturn ∧ t = .long ∧ ∃ z, w = .long z) ∨ (i = .dreturn ∧ t = .double ∧ ∃ z, w = .double z) ∨ (i = .freturn ∧ t = .float ∧ ∃ z, w = .float z) ∨ (i = .areturn ∧ t.isReference = true ∧ w.isRef = true))
    (hd : decode c.code pc = .ok (i, 1)) (hC : cells ≤ C) (hN : slots ≤ N) (hQ : Q (some w) T.heap locs) : own_Go p e below K T (mkF m pc Ls (w :: rest)) := by
  obtain ⟨fs, hr, hrun, hended, hW, hsame⟩ := X.leave (v := some w) (fun h => by rw [hret] at h; cases h) hlk
  exact ⟨_, retOut X hx hret hn hi hd hr, hK _ ⟨_, hrun, hended, _, _, rfl, hQ, ⟨_, rfl⟩, hW, hsame.mono hC hN⟩⟩
theorem own_retI {Q : Option Value → Heap → List Loc → Prop} {C N : Nat} (X : Stand p l e R s m args below meth c T locs cells slots) (hx : p.tables.exec = Jvm.exec) (hlk : meth.locks = false) (hK : ∀ t, own_End s below Q C N t → K t) {pc : Nat} {Ls : Array Slot} {z : Int32} {rest : List Value} (hret : meth.sig.returnType = some .int)
    (hd : decode c.code pc = .ok (.ireturn, 1)) (hC : cells ≤ C) (hN : slots ≤ N) (hQ : Q (some (.int z)) T.heap locs) : own_Go p e below K T (mkF m pc Ls (.int z :: rest)) :=
  own_ret X hx hlk hK hret rfl (Or.inl ⟨rfl, Or.inl rfl, z, rfl⟩) hd hC hN hQ
theorem own_retZ {Q : Option Value → Heap → List Loc → Prop} {C N : Nat} (X : Stand p l e R s m args below meth c T locs cells slots) (hx : p.tables.exec = Jvm.exec) (hlk : meth.locks = false) (hK : ∀ t, own_End s below Q C N t → K t) {pc : Nat} {Ls : Array Slot} {z : Int32} {rest : List Value} (hret : meth.sig.returnType = some .boolean) (hz : z &&& 1 = z)
    (hd : decode c.code pc = .ok (.ireturn, 1)) (hC : cells ≤ C) (hN : slots ≤ N) (hQ : Q (some (.int z)) T.heap locs) : own_Go p e below K T (mkF m pc Ls (.int z :: rest)) :=
  own_ret X hx hlk hK hret (by show Value.int (z &&& 1) = _; rw [hz]) (Or.inl ⟨rfl, Or.inr (Or.inl rfl), z, rfl⟩) hd hC hN hQ
theorem own_retR {Q : Option Value → Heap → List Loc → Prop} {C N : Nat} (X : Stand p l e R s m args below meth c T locs cells slots) (hx : p.tables.exec = Jvm.exec) (hlk : meth.locks = false) (hK : ∀ t, own_End s below Q C N t → K t) {pc : Nat} {Ls : Array Slot} {w : Value} {t : FieldType} {rest : List Value} (hret : meth.sig.returnType = some t) (ht : t.isReference = true) (hw : w.isRef = true)
    (hd : decode c.code pc = .ok (.areturn, 1)) (hC : cells ≤ C) (hN : slots ≤ N) (hQ : Q (some w) T.heap locs) : own_Go p e below K T (mkF m pc Ls (w :: rest)) :=
  own_ret X hx hlk hK hret (by cases t <;> first | (cases ht; done) | rfl) (Or.inr (Or.inr (Or.inr (Or.inr ⟨rfl, ht, hw⟩)))) hd hC hN hQ
theorem own_retV {Q : Option Value → Heap → List Loc → Prop} {C N : Nat} (X : Stand p l e R s m args below meth c T locs cells slots) (hx : p.tables.exec = Jvm.exec) (hlk : meth.locks = false) (hK : ∀ t, own_End s below Q C N t → K t) {pc : Nat} {Ls : Array Slot} (hret : meth.sig.returnType = none)
    (hd : decode c.code pc = .ok (.return_, 1)) (hC : cells ≤ C) (hN : slots ≤ N) (hQ : Q none T.heap locs) : own_Go p e below K T (mkF m pc Ls []) := by
  obtain ⟨fs, hr, hrun, hended, hW, hsame⟩ := X.leave (v := none) (fun _ => rfl) hlk
  exact ⟨_, X.returnOut hx hret hd hr, hK _ ⟨_, hrun, hended, _, _, rfl, hQ, ⟨_, rfl⟩, hW, hsame.mono hC hN⟩⟩
theorem own_callS (X : Stand p l e R s m args below meth c T locs cells slots) (hx : p.tables.exec = Jvm.exec) (hZ : Z.Warmed39 s.vm) {own : String} {index : Nat} {y : MethodName} {bytes : ByteArray} {maxL : Nat} {ret : Option FieldType}
    (hown : s.vm.findClass own = some m.cls) (wl : (Jvm.Cond.methodLink own index y).before a0 Z = true) (wt : (Jvm.Cond.static y).before a0 Z = true) (wz : (Jvm.Cond.initialized y.cls).before a0 Z = true) (wc : (Jvm.Cond.code y bytes maxL ret).before a0 Z = true)
    (hy : y.cls ≠ "java/lang/invoke/MethodHandle" ∧ y.cls ≠ "java/lang/invoke/VarHandle") (eT : T.heap = h) {rm : Room} {Q : Option Value → Heap → List Loc → Prop} {argsL rest : List Value} (hM : own_Met l Z y bytes maxL ret [] rm argsL.toArray h Q)
    {W : Nat} (hf : rm.frames + 1 ≤ R.frames) (hl : W + (maxL + 11) + rm.locals ≤ R.locals) (hc : cells + rm.cells ≤ R.cells) (hs : slots + rm.slots ≤ R.slots)
    {g : JFrame} (hg : g.method = m) (hsize : g.locals.size = c.maxLocals) (hlen : ∀ sig, parseMethodDescriptor y.desc = some sig → argsL.length = sig.parameters.length)
    (hstack : g.stack = argsL.reverse ++ rest) (hW : 2 * g.monitorRoom + (rest.map fun v => v.category).sum ≤ W) (hd : decode c.code g.pc = .ok (.invokestatic index, 3))
    (k : ∀ (v : Option Value) (T' : State) (L : List Loc), Stand p l e R s m args below meth c T' (locs ++ L) (cells + rm.cells) (slots + rm.slots) → Q v T'.heap L → own_Go p e below K T' { g with pc := g.pc + 3, stack := v.toList ++ rest }) : own_Go p e below K T g := by
  obtain ⟨v, vm₁, ⟨T', L', k', n'⟩, -, X', ⟨L, hQ, hl', hk', hn'⟩, st⟩ := Jvm.LawKit.callS X hx (y := y) hown (mvT hZ wl) (mvT hZ wt) (mvT hZ wz) (mvT hZ wc) hy (backOf (W := W) hM hZ wc wz hf hl) (g := g) hg hsize (argsL := argsL) (rest := rest) hlen hstack hW hd (fun _ _ => ⟨rfl, eT, hc, hs⟩)
  dsimp only [Pt.U, Pt.locs, Pt.cells, Pt.slots] at X' hl' hk' hn' st hQ
  subst hl' hk' hn'
  exact own_go st (k v T' L X' hQ)
theorem own_callI (X : Stand p l e R s m args below meth c T locs cells slots) (hx : p.tables.exec = Jvm.exec) (hZ : Z.Warmed39 s.vm) {own : String} {index : Nat} {y : MethodName} (hy1 : y.name = "<init>") {bytes : ByteArray} {maxL : Nat}
    (hown : s.vm.findClass own = some m.cls) (wl : (Jvm.Cond.methodLink own index y).before a0 Z = true) (wt : (Jvm.Cond.instanceMethod y).before a0 Z = true) (wz : (Jvm.Cond.initialized y.cls).before a0 Z = true) (wc : (Jvm.Cond.code y bytes maxL none).before a0 Z = true)
    (hy : y.cls ≠ "java/lang/invoke/MethodHandle" ∧ y.cls ≠ "java/lang/invoke/VarHandle") (eT : T.heap = h) {rm : Room} {Q : Option Value → Heap → List Loc → Prop} {a : Addr} {argsL rest : List Value} (hM : own_Met l Z y bytes maxL none [] rm (.ref a :: argsL).toArray h Q)
    {W : Nat} (hf : rm.frames + 1 ≤ R.frames) (hl : W + (maxL + 11) + rm.locals ≤ R.locals) (hc : cells + rm.cells ≤ R.cells) (hs : slots + rm.slots ≤ R.slots)
    {g : JFrame} (hg : g.method = m) (hsize : g.locals.size = c.maxLocals) (hlen : ∀ sig, parseMethodDescriptor y.desc = some sig → argsL.length = sig.parameters.length)
    (hstack : g.stack = argsL.reverse ++ .ref a :: rest) (hW : 2 * g.monitorRoom + (rest.map fun v => v.category).sum ≤ W) (hd : decode c.code g.pc = .ok (.invokespecial index, 3))
    (k : ∀ (v : Option Value) (T' : State) (L : List Loc), Stand p l e R s m args below meth c T' (locs ++ L) (cells + rm.cells) (slots + rm.slots) → Q v T'.heap L → own_Go p e below K T' { g with pc := g.pc + 3, stack := v.toList ++ rest }) : own_Go p e below K T g := by
  obtain ⟨v, vm₁, ⟨T', L', k', n'⟩, -, X', ⟨L, hQ, hl', hk', hn'⟩, st⟩ := X.specialBack hx (y := y) hy1 hown (mvT hZ wl) (mvT hZ wt) (mvT hZ wc) hy (backOf (W := W) hM hZ wc wz hf hl) (g := g) hg hsize (Steps.refl _) (a := a) (argsL := argsL) (rest := rest) hlen hstack hW hd (fun _ _ => ⟨rfl, eT, hc, hs⟩)
  dsimp only [Pt.U, Pt.locs, Pt.cells, Pt.slots] at X' hl' hk' hn' st hQ
  subst hl' hk' hn'
  exact own_go (fun _ q => st.trans q) (k v T' L X' hQ)
theorem own_callV (X : Stand p l e R s m args below meth c T locs cells slots) (hx : p.tables.exec = Jvm.exec) (hZ : Z.Warmed39 s.vm) {own C : String} {index : Nat} {y z : MethodName} {bytes : ByteArray} {maxL : Nat} {ret : Option FieldType}
    (hown : s.vm.findClass own = some m.cls) (wl : (Jvm.Cond.methodLink own index y).before a0 Z = true) (wd : (Jvm.Cond.declares y).before a0 Z = true) (hnf : NotFace s y) (wsel : (Jvm.Cond.selects C y z).before a0 Z = true) (wt : (Jvm.Cond.instanceMethod z).before a0 Z = true) (wz : (Jvm.Cond.initialized z.cls).before a0 Z = true) (wc : (Jvm.Cond.code z bytes maxL ret).before a0 Z = true)
    (hy : y.cls ≠ "java/lang/invoke/MethodHandle" ∧ y.cls ≠ "java/lang/invoke/VarHandle") (eT : T.heap = h) {rm : Room} {Q : Option Value → Heap → List Loc → Prop} {a : Addr} (E : Exa Z h a C) {argsL rest : List Value} (hM : own_Met l Z z bytes maxL ret [] rm (.ref a :: argsL).toArray h Q)
    {W : Nat} (hf : rm.frames + 1 ≤ R.frames) (hl : W + (maxL + 11) + rm.locals ≤ R.locals) (hc : cells + rm.cells ≤ R.cells) (hs : slots + rm.slots ≤ R.slots)
    {g : JFrame} (hg : g.method = m) (hsize : g.locals.size = c.maxLocals) (hlen : ∀ sig, parseMethodDescriptor y.desc = some sig → argsL.length = sig.parameters.length)
    (hstack : g.stack = argsL.reverse ++ .ref a :: rest) (hW : 2 * g.monitorRoom + (rest.map fun v => v.category).sum ≤ W) (hd : decode c.code g.pc = .ok (.invokevirtual index, 3))
    (k : ∀ (v : Option Value) (T' : State) (L : List Loc), Stand p l e R s m args below meth c T' (locs ++ L) (cells + rm.cells) (slots + rm.slots) → Q v T'.heap L → own_Go p e below K T' { g with pc := g.pc + 3, stack := v.toList ++ rest }) : own_Go p e below K T g := by
  obtain ⟨cq, kq, qa, qb, qc⟩ := isOf hZ eT E
  obtain ⟨v, vm₁, ⟨T', L', k', n'⟩, -, X', ⟨L, hQ, hl', hk', hn'⟩, st⟩ := X.virtualBack hx (y := y) (z := z) hown (mvT hZ wl) (mvT hZ wd) hnf (mvT hZ wsel) (mvT hZ wt) hy (backOf (W := W) hM hZ wc wz hf hl) qa qc (g := g) hg hsize (Steps.refl _) (argsL := argsL) (rest := rest) hlen hstack hW hd (fun _ _ => ⟨rfl, eT, hc, hs⟩)
  dsimp only [Pt.U, Pt.locs, Pt.cells, Pt.slots] at X' hl' hk' hn' st hQ
  subst hl' hk' hn'
  exact own_go (fun _ q => st.trans q) (k v T' L X' hQ)
theorem own_callF (X : Stand p l e R s m args below meth c T locs cells slots) (hx : p.tables.exec = Jvm.exec) (hZ : Z.Warmed39 s.vm) {own C : String} {index count : Nat} {xi z : MethodName} {bytes : ByteArray} {maxL : Nat} {ret : Option FieldType}
    (hown : s.vm.findClass own = some m.cls) (wl : (Jvm.Cond.methodLink own index xi).before a0 Z = true) (wd : (Jvm.Cond.declares xi).before a0 Z = true) (wf : (Jvm.Cond.interfaceMethod xi.cls xi.cls xi.name xi.desc).before args s = true) (wsel : (Jvm.Cond.selects C xi z).before a0 Z = true) (wt : (Jvm.Cond.instanceMethod z).before a0 Z = true)
    (wp : (Jvm.Cond.publicMethod z).before a0 Z = true) (wu : (Jvm.Cond.unhidden C xi.name xi.desc).before a0 Z = true) (wk : (Jvm.Cond.castable C xi.cls).before a0 Z = true) (wz : (Jvm.Cond.initialized z.cls).before a0 Z = true) (wc : (Jvm.Cond.code z bytes maxL ret).before a0 Z = true)
    (hy : xi.cls ≠ "java/lang/invoke/MethodHandle" ∧ xi.cls ≠ "java/lang/invoke/VarHandle") (eT : T.heap = h) {rm : Room} {Q : Option Value → Heap → List Loc → Prop} {a : Addr} (E : Exa Z h a C) {argsL rest : List Value} (hM : own_Met l Z z bytes maxL ret [] rm (.ref a :: argsL).toArray h Q)
    {W : Nat} (hf : rm.frames + 1 ≤ R.frames) (hl : W + (maxL + 11) + rm.locals ≤ R.locals) (hc : cells + rm.cells ≤ R.cells) (hs : slots + rm.slots ≤ R.slots)
    {g : JFrame} (hg : g.method = m) (hsize : g.locals.size = c.maxLocals) (hlen : ∀ sig, parseMethodDescriptor xi.desc = some sig → argsL.length = sig.parameters.length)
    (hstack : g.stack = argsL.reverse ++ .ref a :: rest) (hW : 2 * g.monitorRoom + (rest.map fun v => v.category).sum ≤ W) (hd : decode c.code g.pc = .ok (.invokeinterface index count, 5))
    (k : ∀ (v : Option Value) (T' : State) (L : List Loc), Stand p l e R s m args below meth c T' (locs ++ L) (cells + rm.cells) (slots + rm.slots) → Q v T'.heap L → own_Go p e below K T' { g with pc := g.pc + 5, stack := v.toList ++ rest }) : own_Go p e below K T g := by
  obtain ⟨cq, kq, qa, qb, qc⟩ := isOf hZ eT E
  obtain ⟨v, vm₁, ⟨T', L', k', n'⟩, -, X', ⟨L, hQ, hl', hk', hn'⟩, st⟩ := X.interfaceBack hx (xi := xi) (y := z) hown (mvT hZ wl) (mvT hZ wd) wf (mvT hZ wsel) (mvT hZ wt) (mvT hZ wp) (mvT hZ wu) (mvT hZ wk) hy (backOf (W := W) hM hZ wc wz hf hl) qa qb qc (g := g) hg hsize (Steps.refl _) (argsL := argsL) (rest := rest) hlen hstack hW hd (fun _ _ => ⟨rfl, eT, hc, hs⟩)
  dsimp only [Pt.U, Pt.locs, Pt.cells, Pt.slots] at X' hl' hk' hn' st hQ
  subst hl' hk' hn'
  exact own_go (fun _ q => st.trans q) (k v T' L X' hQ)
theorem own_callP (X : Stand p l e R s m args below meth c T locs cells slots) (hx : p.tables.exec = Jvm.exec) (hZ : Z.Warmed39 s.vm) {own : String} {index : Nat} {y : MethodName} {bytes : ByteArray} {maxL : Nat} {ret : Option FieldType}
    (hown : s.vm.findClass own = some m.cls) (wl : (Jvm.Cond.methodLink own index y).before a0 Z = true) (wt : (Jvm.Cond.instanceMethod y).before a0 Z = true) (wsel : (Jvm.Cond.selects y.cls y y).before a0 Z = true) (wp : (Jvm.Cond.privateMethod y).before a0 Z = true) (wz : (Jvm.Cond.initialized y.cls).before a0 Z = true) (wc : (Jvm.Cond.code y bytes maxL ret).before a0 Z = true)
    (hy : y.cls ≠ "java/lang/invoke/MethodHandle" ∧ y.cls ≠ "java/lang/invoke/VarHandle") (eT : T.heap = h) {rm : Room} {Q : Option Value → Heap → List Loc → Prop} {a : Addr} {C : String} (E : Exa Z h a C) {argsL rest : List Value} (hM : own_Met l Z y bytes maxL ret [] rm (.ref a :: argsL).toArray h Q)
    {W : Nat} (hf : rm.frames + 1 ≤ R.frames) (hl : W + (maxL + 11) + rm.locals ≤ R.locals) (hc : cells + rm.cells ≤ R.cells) (hs : slots + rm.slots ≤ R.slots)
    {g : JFrame} (hg : g.method = m) (hsize : g.locals.size = c.maxLocals) (hlen : ∀ sig, parseMethodDescriptor y.desc = some sig → argsL.length = sig.parameters.length)
    (hstack : g.stack = argsL.reverse ++ .ref a :: rest) (hW : 2 * g.monitorRoom + (rest.map fun v => v.category).sum ≤ W) (hd : decode c.code g.pc = .ok (.invokevirtual index, 3))
    (k : ∀ (v : Option Value) (T' : State) (L : List Loc), Stand p l e R s m args below meth c T' (locs ++ L) (cells + rm.cells) (slots + rm.slots) → Q v T'.heap L → own_Go p e below K T' { g with pc := g.pc + 3, stack := v.toList ++ rest }) : own_Go p e below K T g := by
  obtain ⟨cq, q1, q2⟩ := E.cell
  obtain ⟨v, vm₁, ⟨T', L', k', n'⟩, -, X', ⟨L, hQ, hl', hk', hn'⟩, st⟩ := X.privateBack hx (y := y) hown (mvT hZ wl) (mvT hZ wt) (mvT hZ wsel) (Cond.privateMethod_at (mvP hZ wp (args := #[]))) (mvT hZ wc) hy (backOf (W := W) hM hZ wc wz hf hl) (g := g) hg hsize (Steps.refl _) (a := a) (by rw [eT]; exact q1) q2 (argsL := argsL) (rest := rest) hlen hstack hW hd (fun _ _ => ⟨rfl, eT, hc, hs⟩)
  dsimp only [Pt.U, Pt.locs, Pt.cells, Pt.slots] at X' hl' hk' hn' st hQ
  subst hl' hk' hn'
  exact own_go (fun _ q => st.trans q) (k v T' L X' hQ)
theorem own_ins_keep {h h' : Heap} {a : Addr} {C : String} {b : Bool} {ws : List Addr} (F : Ins Z h a C b) (K : Keep h h' ws) : Ins Z h' a C b := by
  obtain ⟨cell, cT, h1, h2, h3⟩ := F
  obtain ⟨c', q1, q2, q3, -⟩ := K.2.2 _ _ h1
  exact ⟨c', cT, q1, h2, by rw [q2, q3]; exact h3⟩
theorem own_ne_arv {h : Heap} {a b : Addr} {C : String} {n : Nat} {k : ClassId} {ty : FieldType} {z : Int32} {vs : List Value} {d : Value} (F : Exa Z h a C) (wi : (Jvm.Cond.instantiable C n).before a0 Z = true) (G : Arv Z h b k ty z vs d) : a ≠ b := by
  obtain ⟨c, A, -⟩ := G
  exact ne_arr F wi A
end OwnLayer
theorem own_d1_0 : decode prog_10_method_2_code 0 = .ok (.iload_n 0, 1) := by decide +kernel
theorem own_d1_1 : decode prog_10_method_2_code 1 = .ok (.sipush 1024, 3) := by decide +kernel
theorem own_d1_4 : decode prog_10_method_2_code 4 = .ok (.if_icmp .ge 15, 3) := by decide +kernel
theorem own_d1_7 : decode prog_10_method_2_code 7 = .ok (.getstatic 9, 3) := by decide +kernel
theorem own_d1_10 : decode prog_10_method_2_code 10 = .ok (.iload_n 0, 1) := by decide +kernel
theorem own_d1_11 : decode prog_10_method_2_code 11 = .ok (.baload, 1) := by decide +kernel
theorem own_d1_12 : decode prog_10_method_2_code 12 = .ok (.ifCond .eq 7, 3) := by decide +kernel
theorem own_d1_15 : decode prog_10_method_2_code 15 = .ok (.iconst 1, 1) := by decide +kernel
theorem own_d1_16 : decode prog_10_method_2_code 16 = .ok (.goto 4, 3) := by decide +kernel
theorem own_d1_19 : decode prog_10_method_2_code 19 = .ok (.iconst 0, 1) := by decide +kernel
theorem own_d1_20 : decode prog_10_method_2_code 20 = .ok (.ireturn, 1) := by decide +kernel
theorem own_d2_0 : decode method_2_code 0 = .ok (.iload_n 0, 1) := by decide +kernel
theorem own_d2_1 : decode method_2_code 1 = .ok (.bipush 8, 2) := by decide +kernel
theorem own_d2_3 : decode method_2_code 3 = .ok (.if_icmp .eq 163, 3) := by decide +kernel
theorem own_d2_6 : decode method_2_code 6 = .ok (.iload_n 0, 1) := by decide +kernel
theorem own_d2_7 : decode method_2_code 7 = .ok (.bipush 9, 2) := by decide +kernel
theorem own_d2_9 : decode method_2_code 9 = .ok (.if_icmp .eq 157, 3) := by decide +kernel
theorem own_d2_12 : decode method_2_code 12 = .ok (.iload_n 0, 1) := by decide +kernel
theorem own_d2_13 : decode method_2_code 13 = .ok (.bipush 34, 2) := by decide +kernel
theorem own_d2_15 : decode method_2_code 15 = .ok (.if_icmp .eq 151, 3) := by decide +kernel
theorem own_d2_18 : decode method_2_code 18 = .ok (.iload_n 0, 1) := by decide +kernel
theorem own_d2_19 : decode method_2_code 19 = .ok (.bipush 35, 2) := by decide +kernel
theorem own_d2_21 : decode method_2_code 21 = .ok (.if_icmp .eq 145, 3) := by decide +kernel
theorem own_d2_24 : decode method_2_code 24 = .ok (.iload_n 0, 1) := by decide +kernel
theorem own_d2_25 : decode method_2_code 25 = .ok (.bipush 43, 2) := by decide +kernel
theorem own_d2_27 : decode method_2_code 27 = .ok (.if_icmp .eq 139, 3) := by decide +kernel
theorem own_d2_30 : decode method_2_code 30 = .ok (.iload_n 0, 1) := by decide +kernel
theorem own_d2_31 : decode method_2_code 31 = .ok (.bipush 49, 2) := by decide +kernel
theorem own_d2_33 : decode method_2_code 33 = .ok (.if_icmp .eq 133, 3) := by decide +kernel
theorem own_d2_36 : decode method_2_code 36 = .ok (.iload_n 0, 1) := by decide +kernel
theorem own_d2_37 : decode method_2_code 37 = .ok (.bipush 50, 2) := by decide +kernel
theorem own_d2_39 : decode method_2_code 39 = .ok (.if_icmp .eq 127, 3) := by decide +kernel
theorem own_d2_42 : decode method_2_code 42 = .ok (.iload_n 0, 1) := by decide +kernel
theorem own_d2_43 : decode method_2_code 43 = .ok (.bipush 52, 2) := by decide +kernel
theorem own_d2_45 : decode method_2_code 45 = .ok (.if_icmp .eq 121, 3) := by decide +kernel
theorem own_d2_48 : decode method_2_code 48 = .ok (.iload_n 0, 1) := by decide +kernel
theorem own_d2_49 : decode method_2_code 49 = .ok (.bipush 56, 2) := by decide +kernel
theorem own_d2_51 : decode method_2_code 51 = .ok (.if_icmp .eq 115, 3) := by decide +kernel
theorem own_d2_54 : decode method_2_code 54 = .ok (.iload_n 0, 1) := by decide +kernel
theorem own_d2_55 : decode method_2_code 55 = .ok (.bipush 57, 2) := by decide +kernel
theorem own_d2_57 : decode method_2_code 57 = .ok (.if_icmp .eq 109, 3) := by decide +kernel
theorem own_d2_60 : decode method_2_code 60 = .ok (.iload_n 0, 1) := by decide +kernel
theorem own_d2_61 : decode method_2_code 61 = .ok (.bipush 90, 2) := by decide +kernel
theorem own_d2_63 : decode method_2_code 63 = .ok (.if_icmp .eq 103, 3) := by decide +kernel
theorem own_d2_66 : decode method_2_code 66 = .ok (.iload_n 0, 1) := by decide +kernel
theorem own_d2_67 : decode method_2_code 67 = .ok (.bipush 91, 2) := by decide +kernel
theorem own_d2_69 : decode method_2_code 69 = .ok (.if_icmp .eq 97, 3) := by decide +kernel
theorem own_d2_72 : decode method_2_code 72 = .ok (.iload_n 0, 1) := by decide +kernel
theorem own_d2_73 : decode method_2_code 73 = .ok (.bipush 97, 2) := by decide +kernel
theorem own_d2_75 : decode method_2_code 75 = .ok (.if_icmp .eq 91, 3) := by decide +kernel
theorem own_d2_78 : decode method_2_code 78 = .ok (.iload_n 0, 1) := by decide +kernel
theorem own_d2_79 : decode method_2_code 79 = .ok (.bipush 115, 2) := by decide +kernel
theorem own_d2_81 : decode method_2_code 81 = .ok (.if_icmp .eq 85, 3) := by decide +kernel
theorem own_d2_84 : decode method_2_code 84 = .ok (.iload_n 0, 1) := by decide +kernel
theorem own_d2_85 : decode method_2_code 85 = .ok (.bipush 116, 2) := by decide +kernel
theorem own_d2_87 : decode method_2_code 87 = .ok (.if_icmp .eq 79, 3) := by decide +kernel
theorem own_d2_90 : decode method_2_code 90 = .ok (.iload_n 0, 1) := by decide +kernel
theorem own_d2_91 : decode method_2_code 91 = .ok (.bipush 122, 2) := by decide +kernel
theorem own_d2_93 : decode method_2_code 93 = .ok (.if_icmp .eq 73, 3) := by decide +kernel
theorem own_d2_96 : decode method_2_code 96 = .ok (.iload_n 0, 1) := by decide +kernel
theorem own_d2_97 : decode method_2_code 97 = .ok (.sipush 128, 3) := by decide +kernel
theorem own_d2_100 : decode method_2_code 100 = .ok (.if_icmp .eq 66, 3) := by decide +kernel
theorem own_d2_103 : decode method_2_code 103 = .ok (.iload_n 0, 1) := by decide +kernel
theorem own_d2_104 : decode method_2_code 104 = .ok (.sipush 129, 3) := by decide +kernel
theorem own_d2_107 : decode method_2_code 107 = .ok (.if_icmp .eq 59, 3) := by decide +kernel
theorem own_d2_110 : decode method_2_code 110 = .ok (.iload_n 0, 1) := by decide +kernel
theorem own_d2_111 : decode method_2_code 111 = .ok (.sipush 142, 3) := by decide +kernel
theorem own_d2_114 : decode method_2_code 114 = .ok (.if_icmp .lt 10, 3) := by decide +kernel
theorem own_d2_117 : decode method_2_code 117 = .ok (.iload_n 0, 1) := by decide +kernel
theorem own_d2_118 : decode method_2_code 118 = .ok (.sipush 145, 3) := by decide +kernel
theorem own_d2_121 : decode method_2_code 121 = .ok (.if_icmp .le 45, 3) := by decide +kernel
theorem own_d2_124 : decode method_2_code 124 = .ok (.iload_n 0, 1) := by decide +kernel
theorem own_d2_125 : decode method_2_code 125 = .ok (.sipush 212, 3) := by decide +kernel
theorem own_d2_128 : decode method_2_code 128 = .ok (.if_icmp .eq 38, 3) := by decide +kernel
theorem own_d2_131 : decode method_2_code 131 = .ok (.iload_n 0, 1) := by decide +kernel
theorem own_d2_132 : decode method_2_code 132 = .ok (.sipush 213, 3) := by decide +kernel
theorem own_d2_135 : decode method_2_code 135 = .ok (.if_icmp .eq 31, 3) := by decide +kernel
theorem own_d2_138 : decode method_2_code 138 = .ok (.iload_n 0, 1) := by decide +kernel
theorem own_d2_139 : decode method_2_code 139 = .ok (.sipush 347, 3) := by decide +kernel
theorem own_d2_142 : decode method_2_code 142 = .ok (.if_icmp .eq 24, 3) := by decide +kernel
theorem own_d2_145 : decode method_2_code 145 = .ok (.iload_n 0, 1) := by decide +kernel
theorem own_d2_146 : decode method_2_code 146 = .ok (.sipush 369, 3) := by decide +kernel
theorem own_d2_149 : decode method_2_code 149 = .ok (.if_icmp .eq 17, 3) := by decide +kernel
theorem own_d2_152 : decode method_2_code 152 = .ok (.iload_n 0, 1) := by decide +kernel
theorem own_d2_153 : decode method_2_code 153 = .ok (.sipush 627, 3) := by decide +kernel
theorem own_d2_156 : decode method_2_code 156 = .ok (.if_icmp .lt 14, 3) := by decide +kernel
theorem own_d2_159 : decode method_2_code 159 = .ok (.iload_n 0, 1) := by decide +kernel
theorem own_d2_160 : decode method_2_code 160 = .ok (.sipush 630, 3) := by decide +kernel
theorem own_d2_163 : decode method_2_code 163 = .ok (.if_icmp .gt 7, 3) := by decide +kernel
theorem own_d2_166 : decode method_2_code 166 = .ok (.iconst 1, 1) := by decide +kernel
theorem own_d2_167 : decode method_2_code 167 = .ok (.goto 4, 3) := by decide +kernel
theorem own_d2_170 : decode method_2_code 170 = .ok (.iconst 0, 1) := by decide +kernel
theorem own_d2_171 : decode method_2_code 171 = .ok (.ireturn, 1) := by decide +kernel
def own_hdr2 (t : Int32) : Int32 := if t = 212 then 1 else if t = 213 then 1 else if t = 347 then 1 else if t = 369 then 1 else if t < 627 then 0 else if 630 < t then 0 else 1
def own_hdr (t : Int32) : Int32 := if t = 8 then 1 else if t = 9 then 1 else if t = 34 then 1 else if t = 35 then 1 else if t = 43 then 1 else if t = 49 then 1 else if t = 50 then 1 else if t = 52 then 1 else if t = 56 then 1 else if t = 57 then 1 else if t = 90 then 1 else if t = 91 then 1 else if t = 97 then 1 else if t = 115 then 1 else if t = 116 then 1 else if t = 122 then 1 else if t = 128 then 1 else if t = 129 then 1 else if t < 142 then own_hdr2 t else if 145 < t then own_hdr2 t else 1
def own_isH (c : Cell) (t : Int32) : Int32 := if t < 1024 then (if atv c t = 0 then 0 else 1) else 0
def own_Qh (t : Int32) (h0 : Heap) (n0 : Nat) (v : Option Value) (h : Heap) (L : List Loc) : Prop := v = some (.int (own_hdr t)) ∧ Fr n0 L ∧ h = h0
abbrev own_rmh : Room := { frames := 0, cells := 0, slots := 0, locals := 0 }
set_option maxRecDepth 65536 in
set_option maxHeartbeats 40000000 in
theorem own_mh (l : Launch) (Z : State) (a0 : Array Value) (hw : ∀ d ∈ tables_1, d.before a0 Z = true) (t : Int32) (h0 : Heap) (n0 : Nat) (Z0 : n0 ≤ h0.size) :
    own_Met l Z (⟨"com/example/tidewire/tidewire/fix/TagsIsHeaderPinLaw", "header", "(I)Z"⟩ : MethodName) method_2_code 1 (some .boolean) [] own_rmh #[(.int t)] h0 (own_Qh t h0 n0) := by
  refine own_body (plainFor_of_name (by first | (simp [plainName, overriddenIn]; done) | decide +kernel)) (g := fun m => mkF m 0 #[.val (.int t)] []) (fun m => by first | (simp [entryFrame, mkF, argsToLocals, Value.category]; done) | rfl) ?_
  intro p e s m A below meth c T0 K X0 hx hby hml hown hnm hret hlk hZ e0 hK
  have N0 := Fr.nil n0
  show own_Go p e below K T0 (mkF m 0 #[.val (.int t)] [])
  refine own_go (fun _ kk' => XS.iloadN X0.here hx rfl (hb hby own_d2_0) rfl  kk') ?_
  show own_Go p e below K T0 (mkF m 1 #[.val (.int t)] [(.int t)])
  refine own_go (fun _ kk' => XS.bipush X0.here hx rfl (hb hby own_d2_1) kk') ?_
  show own_Go p e below K T0 (mkF m 3 #[.val (.int t)] [(.int (8 : Int32)), (.int t)])
  by_cases hc3_1 : t = (8 : Int32)
  · refine own_go (fun _ kk' => XS.icmpYes X0.here hx rfl (pc0 := 3) (pc' := 166) rfl (hb hby own_d2_3) rfl (teq (hc3_1 : t = (8 : Int32))).1 (by decide) (by decide) kk') ?_
    show own_Go p e below K T0 (mkF m 166 #[.val (.int t)] [])
    refine own_go (fun _ kk' => XS.iconst X0.here hx rfl (hb hby own_d2_166) kk') ?_
    show own_Go p e below K T0 (mkF m 167 #[.val (.int t)] [(.int (1 : Int32))])
    refine own_go (fun _ kk' => XS.goto X0.here hx rfl (pc0 := 167) (pc' := 171) rfl (hb hby own_d2_167) (by decide) (by decide) kk') ?_
    show own_Go p e below K T0 (mkF m 171 #[.val (.int t)] [(.int (1 : Int32))])
    exact own_retZ X0 hx hlk hK hret (by decide) (hb hby own_d2_171) (by decide) (by decide) ⟨by rw [show own_hdr t = (1 : Int32) from (if_pos hc3_1)], N0, e0⟩
  · refine own_go (fun _ kk' => XS.icmpNo X0.here hx rfl (hb hby own_d2_3) rfl (feq (hc3_1 : ¬ (t = (8 : Int32)))).1 kk') ?_
    show own_Go p e below K T0 (mkF m 6 #[.val (.int t)] [])
    refine own_go (fun _ kk' => XS.iloadN X0.here hx rfl (hb hby own_d2_6) rfl  kk') ?_
    show own_Go p e below K T0 (mkF m 7 #[.val (.int t)] [(.int t)])
    refine own_go (fun _ kk' => XS.bipush X0.here hx rfl (hb hby own_d2_7) kk') ?_
    show own_Go p e below K T0 (mkF m 9 #[.val (.int t)] [(.int (9 : Int32)), (.int t)])
    by_cases hc9_2 : t = (9 : Int32)
    · refine own_go (fun _ kk' => XS.icmpYes X0.here hx rfl (pc0 := 9) (pc' := 166) rfl (hb hby own_d2_9) rfl (teq (hc9_2 : t = (9 : Int32))).1 (by decide) (by decide) kk') ?_
      show own_Go p e below K T0 (mkF m 166 #[.val (.int t)] [])
      refine own_go (fun _ kk' => XS.iconst X0.here hx rfl (hb hby own_d2_166) kk') ?_
      show own_Go p e below K T0 (mkF m 167 #[.val (.int t)] [(.int (1 : Int32))])
      refine own_go (fun _ kk' => XS.goto X0.here hx rfl (pc0 := 167) (pc' := 171) rfl (hb hby own_d2_167) (by decide) (by decide) kk') ?_
      show own_Go p e below K T0 (mkF m 171 #[.val (.int t)] [(.int (1 : Int32))])
      exact own_retZ X0 hx hlk hK hret (by decide) (hb hby own_d2_171) (by decide) (by decide) ⟨by rw [show own_hdr t = (1 : Int32) from ((if_neg hc3_1).trans (if_pos hc9_2))], N0, e0⟩
    · refine own_go (fun _ kk' => XS.icmpNo X0.here hx rfl (hb hby own_d2_9) rfl (feq (hc9_2 : ¬ (t = (9 : Int32)))).1 kk') ?_
      show own_Go p e below K T0 (mkF m 12 #[.val (.int t)] [])
      refine own_go (fun _ kk' => XS.iloadN X0.here hx rfl (hb hby own_d2_12) rfl  kk') ?_
      show own_Go p e below K T0 (mkF m 13 #[.val (.int t)] [(.int t)])
      refine own_go (fun _ kk' => XS.bipush X0.here hx rfl (hb hby own_d2_13) kk') ?_
      show own_Go p e below K T0 (mkF m 15 #[.val (.int t)] [(.int (34 : Int32)), (.int t)])
      by_cases hc15_3 : t = (34 : Int32)
      · refine own_go (fun _ kk' => XS.icmpYes X0.here hx rfl (pc0 := 15) (pc' := 166) rfl (hb hby own_d2_15) rfl (teq (hc15_3 : t = (34 : Int32))).1 (by decide) (by decide) kk') ?_
        show own_Go p e below K T0 (mkF m 166 #[.val (.int t)] [])
        refine own_go (fun _ kk' => XS.iconst X0.here hx rfl (hb hby own_d2_166) kk') ?_
        show own_Go p e below K T0 (mkF m 167 #[.val (.int t)] [(.int (1 : Int32))])
        refine own_go (fun _ kk' => XS.goto X0.here hx rfl (pc0 := 167) (pc' := 171) rfl (hb hby own_d2_167) (by decide) (by decide) kk') ?_
        show own_Go p e below K T0 (mkF m 171 #[.val (.int t)] [(.int (1 : Int32))])
        exact own_retZ X0 hx hlk hK hret (by decide) (hb hby own_d2_171) (by decide) (by decide) ⟨by rw [show own_hdr t = (1 : Int32) from ((if_neg hc3_1).trans ((if_neg hc9_2).trans (if_pos hc15_3)))], N0, e0⟩
      · refine own_go (fun _ kk' => XS.icmpNo X0.here hx rfl (hb hby own_d2_15) rfl (feq (hc15_3 : ¬ (t = (34 : Int32)))).1 kk') ?_
        show own_Go p e below K T0 (mkF m 18 #[.val (.int t)] [])
        refine own_go (fun _ kk' => XS.iloadN X0.here hx rfl (hb hby own_d2_18) rfl  kk') ?_
        show own_Go p e below K T0 (mkF m 19 #[.val (.int t)] [(.int t)])
        refine own_go (fun _ kk' => XS.bipush X0.here hx rfl (hb hby own_d2_19) kk') ?_
        show own_Go p e below K T0 (mkF m 21 #[.val (.int t)] [(.int (35 : Int32)), (.int t)])
        by_cases hc21_4 : t = (35 : Int32)
        · refine own_go (fun _ kk' => XS.icmpYes X0.here hx rfl (pc0 := 21) (pc' := 166) rfl (hb hby own_d2_21) rfl (teq (hc21_4 : t = (35 : Int32))).1 (by decide) (by decide) kk') ?_
          show own_Go p e below K T0 (mkF m 166 #[.val (.int t)] [])
          refine own_go (fun _ kk' => XS.iconst X0.here hx rfl (hb hby own_d2_166) kk') ?_
          show own_Go p e below K T0 (mkF m 167 #[.val (.int t)] [(.int (1 : Int32))])
          refine own_go (fun _ kk' => XS.goto X0.here hx rfl (pc0 := 167) (pc' := 171) rfl (hb hby own_d2_167) (by decide) (by decide) kk') ?_
          show own_Go p e below K T0 (mkF m 171 #[.val (.int t)] [(.int (1 : Int32))])
          exact own_retZ X0 hx hlk hK hret (by decide) (hb hby own_d2_171) (by decide) (by decide) ⟨by rw [show own_hdr t = (1 : Int32) from ((if_neg hc3_1).trans ((if_neg hc9_2).trans ((if_neg hc15_3).trans (if_pos hc21_4))))], N0, e0⟩
        · refine own_go (fun _ kk' => XS.icmpNo X0.here hx rfl (hb hby own_d2_21) rfl (feq (hc21_4 : ¬ (t = (35 : Int32)))).1 kk') ?_
          show own_Go p e below K T0 (mkF m 24 #[.val (.int t)] [])
          refine own_go (fun _ kk' => XS.iloadN X0.here hx rfl (hb hby own_d2_24) rfl  kk') ?_
          show own_Go p e below K T0 (mkF m 25 #[.val (.int t)] [(.int t)])
          refine own_go (fun _ kk' => XS.bipush X0.here hx rfl (hb hby own_d2_25) kk') ?_
          show own_Go p e below K T0 (mkF m 27 #[.val (.int t)] [(.int (43 : Int32)), (.int t)])
          by_cases hc27_5 : t = (43 : Int32)
          · refine own_go (fun _ kk' => XS.icmpYes X0.here hx rfl (pc0 := 27) (pc' := 166) rfl (hb hby own_d2_27) rfl (teq (hc27_5 : t = (43 : Int32))).1 (by decide) (by decide) kk') ?_
            show own_Go p e below K T0 (mkF m 166 #[.val (.int t)] [])
            refine own_go (fun _ kk' => XS.iconst X0.here hx rfl (hb hby own_d2_166) kk') ?_
            show own_Go p e below K T0 (mkF m 167 #[.val (.int t)] [(.int (1 : Int32))])
            refine own_go (fun _ kk' => XS.goto X0.here hx rfl (pc0 := 167) (pc' := 171) rfl (hb hby own_d2_167) (by decide) (by decide) kk') ?_
            show own_Go p e below K T0 (mkF m 171 #[.val (.int t)] [(.int (1 : Int32))])
            exact own_retZ X0 hx hlk hK hret (by decide) (hb hby own_d2_171) (by decide) (by decide) ⟨by rw [show own_hdr t = (1 : Int32) from ((if_neg hc3_1).trans ((if_neg hc9_2).trans ((if_neg hc15_3).trans ((if_neg hc21_4).trans (if_pos hc27_5)))))], N0, e0⟩
          · refine own_go (fun _ kk' => XS.icmpNo X0.here hx rfl (hb hby own_d2_27) rfl (feq (hc27_5 : ¬ (t = (43 : Int32)))).1 kk') ?_
            show own_Go p e below K T0 (mkF m 30 #[.val (.int t)] [])
            refine own_go (fun _ kk' => XS.iloadN X0.here hx rfl (hb hby own_d2_30) rfl  kk') ?_
            show own_Go p e below K T0 (mkF m 31 #[.val (.int t)] [(.int t)])
            refine own_go (fun _ kk' => XS.bipush X0.here hx rfl (hb hby own_d2_31) kk') ?_
            show own_Go p e below K T0 (mkF m 33 #[.val (.int t)] [(.int (49 : Int32)), (.int t)])
            by_cases hc33_6 : t = (49 : Int32)
            · refine own_go (fun _ kk' => XS.icmpYes X0.here hx rfl (pc0 := 33) (pc' := 166) rfl (hb hby own_d2_33) rfl (teq (hc33_6 : t = (49 : Int32))).1 (by decide) (by decide) kk') ?_
              show own_Go p e below K T0 (mkF m 166 #[.val (.int t)] [])
              refine own_go (fun _ kk' => XS.iconst X0.here hx rfl (hb hby own_d2_166) kk') ?_
              show own_Go p e below K T0 (mkF m 167 #[.val (.int t)] [(.int (1 : Int32))])
              refine own_go (fun _ kk' => XS.goto X0.here hx rfl (pc0 := 167) (pc' := 171) rfl (hb hby own_d2_167) (by decide) (by decide) kk') ?_
              show own_Go p e below K T0 (mkF m 171 #[.val (.int t)] [(.int (1 : Int32))])
              exact own_retZ X0 hx hlk hK hret (by decide) (hb hby own_d2_171) (by decide) (by decide) ⟨by rw [show own_hdr t = (1 : Int32) from ((if_neg hc3_1).trans ((if_neg hc9_2).trans ((if_neg hc15_3).trans ((if_neg hc21_4).trans ((if_neg hc27_5).trans (if_pos hc33_6))))))], N0, e0⟩
            · refine own_go (fun _ kk' => XS.icmpNo X0.here hx rfl (hb hby own_d2_33) rfl (feq (hc33_6 : ¬ (t = (49 : Int32)))).1 kk') ?_
              show own_Go p e below K T0 (mkF m 36 #[.val (.int t)] [])
              refine own_go (fun _ kk' => XS.iloadN X0.here hx rfl (hb hby own_d2_36) rfl  kk') ?_
              show own_Go p e below K T0 (mkF m 37 #[.val (.int t)] [(.int t)])
              refine own_go (fun _ kk' => XS.bipush X0.here hx rfl (hb hby own_d2_37) kk') ?_
              show own_Go p e below K T0 (mkF m 39 #[.val (.int t)] [(.int (50 : Int32)), (.int t)])
              by_cases hc39_7 : t = (50 : Int32)
              · refine own_go (fun _ kk' => XS.icmpYes X0.here hx rfl (pc0 := 39) (pc' := 166) rfl (hb hby own_d2_39) rfl (teq (hc39_7 : t = (50 : Int32))).1 (by decide) (by decide) kk') ?_
                show own_Go p e below K T0 (mkF m 166 #[.val (.int t)] [])
                refine own_go (fun _ kk' => XS.iconst X0.here hx rfl (hb hby own_d2_166) kk') ?_
                show own_Go p e below K T0 (mkF m 167 #[.val (.int t)] [(.int (1 : Int32))])
                refine own_go (fun _ kk' => XS.goto X0.here hx rfl (pc0 := 167) (pc' := 171) rfl (hb hby own_d2_167) (by decide) (by decide) kk') ?_
                show own_Go p e below K T0 (mkF m 171 #[.val (.int t)] [(.int (1 : Int32))])
                exact own_retZ X0 hx hlk hK hret (by decide) (hb hby own_d2_171) (by decide) (by decide) ⟨by rw [show own_hdr t = (1 : Int32) from ((if_neg hc3_1).trans ((if_neg hc9_2).trans ((if_neg hc15_3).trans ((if_neg hc21_4).trans ((if_neg hc27_5).trans ((if_neg hc33_6).trans (if_pos hc39_7)))))))], N0, e0⟩
              · refine own_go (fun _ kk' => XS.icmpNo X0.here hx rfl (hb hby own_d2_39) rfl (feq (hc39_7 : ¬ (t = (50 : Int32)))).1 kk') ?_
                show own_Go p e below K T0 (mkF m 42 #[.val (.int t)] [])
                refine own_go (fun _ kk' => XS.iloadN X0.here hx rfl (hb hby own_d2_42) rfl  kk') ?_
                show own_Go p e below K T0 (mkF m 43 #[.val (.int t)] [(.int t)])
                refine own_go (fun _ kk' => XS.bipush X0.here hx rfl (hb hby own_d2_43) kk') ?_
                show own_Go p e below K T0 (mkF m 45 #[.val (.int t)] [(.int (52 : Int32)), (.int t)])
                by_cases hc45_8 : t = (52 : Int32)
                · refine own_go (fun _ kk' => XS.icmpYes X0.here hx rfl (pc0 := 45) (pc' := 166) rfl (hb hby own_d2_45) rfl (teq (hc45_8 : t = (52 : Int32))).1 (by decide) (by decide) kk') ?_
                  show own_Go p e below K T0 (mkF m 166 #[.val (.int t)] [])
                  refine own_go (fun _ kk' => XS.iconst X0.here hx rfl (hb hby own_d2_166) kk') ?_
                  show own_Go p e below K T0 (mkF m 167 #[.val (.int t)] [(.int (1 : Int32))])
                  refine own_go (fun _ kk' => XS.goto X0.here hx rfl (pc0 := 167) (pc' := 171) rfl (hb hby own_d2_167) (by decide) (by decide) kk') ?_
                  show own_Go p e below K T0 (mkF m 171 #[.val (.int t)] [(.int (1 : Int32))])
                  exact own_retZ X0 hx hlk hK hret (by decide) (hb hby own_d2_171) (by decide) (by decide) ⟨by rw [show own_hdr t = (1 : Int32) from ((if_neg hc3_1).trans ((if_neg hc9_2).trans ((if_neg hc15_3).trans ((if_neg hc21_4).trans ((if_neg hc27_5).trans ((if_neg hc33_6).trans ((if_neg hc39_7).trans (if_pos hc45_8))))))))], N0, e0⟩
                · refine own_go (fun _ kk' => XS.icmpNo X0.here hx rfl (hb hby own_d2_45) rfl (feq (hc45_8 : ¬ (t = (52 : Int32)))).1 kk') ?_
                  show own_Go p e below K T0 (mkF m 48 #[.val (.int t)] [])
                  refine own_go (fun _ kk' => XS.iloadN X0.here hx rfl (hb hby own_d2_48) rfl  kk') ?_
                  show own_Go p e below K T0 (mkF m 49 #[.val (.int t)] [(.int t)])
                  refine own_go (fun _ kk' => XS.bipush X0.here hx rfl (hb hby own_d2_49) kk') ?_
                  show own_Go p e below K T0 (mkF m 51 #[.val (.int t)] [(.int (56 : Int32)), (.int t)])
                  by_cases hc51_9 : t = (56 : Int32)
                  · refine own_go (fun _ kk' => XS.icmpYes X0.here hx rfl (pc0 := 51) (pc' := 166) rfl (hb hby own_d2_51) rfl (teq (hc51_9 : t = (56 : Int32))).1 (by decide) (by decide) kk') ?_
                    show own_Go p e below K T0 (mkF m 166 #[.val (.int t)] [])
                    refine own_go (fun _ kk' => XS.iconst X0.here hx rfl (hb hby own_d2_166) kk') ?_
                    show own_Go p e below K T0 (mkF m 167 #[.val (.int t)] [(.int (1 : Int32))])
                    refine own_go (fun _ kk' => XS.goto X0.here hx rfl (pc0 := 167) (pc' := 171) rfl (hb hby own_d2_167) (by decide) (by decide) kk') ?_
                    show own_Go p e below K T0 (mkF m 171 #[.val (.int t)] [(.int (1 : Int32))])
                    exact own_retZ X0 hx hlk hK hret (by decide) (hb hby own_d2_171) (by decide) (by decide) ⟨by rw [show own_hdr t = (1 : Int32) from ((if_neg hc3_1).trans ((if_neg hc9_2).trans ((if_neg hc15_3).trans ((if_neg hc21_4).trans ((if_neg hc27_5).trans ((if_neg hc33_6).trans ((if_neg hc39_7).trans ((if_neg hc45_8).trans (if_pos hc51_9)))))))))], N0, e0⟩
                  · refine own_go (fun _ kk' => XS.icmpNo X0.here hx rfl (hb hby own_d2_51) rfl (feq (hc51_9 : ¬ (t = (56 : Int32)))).1 kk') ?_
                    show own_Go p e below K T0 (mkF m 54 #[.val (.int t)] [])
                    refine own_go (fun _ kk' => XS.iloadN X0.here hx rfl (hb hby own_d2_54) rfl  kk') ?_
                    show own_Go p e below K T0 (mkF m 55 #[.val (.int t)] [(.int t)])
                    refine own_go (fun _ kk' => XS.bipush X0.here hx rfl (hb hby own_d2_55) kk') ?_
                    show own_Go p e below K T0 (mkF m 57 #[.val (.int t)] [(.int (57 : Int32)), (.int t)])
                    by_cases hc57_10 : t = (57 : Int32)
                    · refine own_go (fun _ kk' => XS.icmpYes X0.here hx rfl (pc0 := 57) (pc' := 166) rfl (hb hby own_d2_57) rfl (teq (hc57_10 : t = (57 : Int32))).1 (by decide) (by decide) kk') ?_
                      show own_Go p e below K T0 (mkF m 166 #[.val (.int t)] [])
                      refine own_go (fun _ kk' => XS.iconst X0.here hx rfl (hb hby own_d2_166) kk') ?_
                      show own_Go p e below K T0 (mkF m 167 #[.val (.int t)] [(.int (1 : Int32))])
                      refine own_go (fun _ kk' => XS.goto X0.here hx rfl (pc0 := 167) (pc' := 171) rfl (hb hby own_d2_167) (by decide) (by decide) kk') ?_
                      show own_Go p e below K T0 (mkF m 171 #[.val (.int t)] [(.int (1 : Int32))])
                      exact own_retZ X0 hx hlk hK hret (by decide) (hb hby own_d2_171) (by decide) (by decide) ⟨by rw [show own_hdr t = (1 : Int32) from ((if_neg hc3_1).trans ((if_neg hc9_2).trans ((if_neg hc15_3).trans ((if_neg hc21_4).trans ((if_neg hc27_5).trans ((if_neg hc33_6).trans ((if_neg hc39_7).trans ((if_neg hc45_8).trans ((if_neg hc51_9).trans (if_pos hc57_10))))))))))], N0, e0⟩
                    · refine own_go (fun _ kk' => XS.icmpNo X0.here hx rfl (hb hby own_d2_57) rfl (feq (hc57_10 : ¬ (t = (57 : Int32)))).1 kk') ?_
                      show own_Go p e below K T0 (mkF m 60 #[.val (.int t)] [])
                      refine own_go (fun _ kk' => XS.iloadN X0.here hx rfl (hb hby own_d2_60) rfl  kk') ?_
                      show own_Go p e below K T0 (mkF m 61 #[.val (.int t)] [(.int t)])
                      refine own_go (fun _ kk' => XS.bipush X0.here hx rfl (hb hby own_d2_61) kk') ?_
                      show own_Go p e below K T0 (mkF m 63 #[.val (.int t)] [(.int (90 : Int32)), (.int t)])
                      by_cases hc63_11 : t = (90 : Int32)
                      · refine own_go (fun _ kk' => XS.icmpYes X0.here hx rfl (pc0 := 63) (pc' := 166) rfl (hb hby own_d2_63) rfl (teq (hc63_11 : t = (90 : Int32))).1 (by decide) (by decide) kk') ?_
                        show own_Go p e below K T0 (mkF m 166 #[.val (.int t)] [])
                        refine own_go (fun _ kk' => XS.iconst X0.here hx rfl (hb hby own_d2_166) kk') ?_
                        show own_Go p e below K T0 (mkF m 167 #[.val (.int t)] [(.int (1 : Int32))])
                        refine own_go (fun _ kk' => XS.goto X0.here hx rfl (pc0 := 167) (pc' := 171) rfl (hb hby own_d2_167) (by decide) (by decide) kk') ?_
                        show own_Go p e below K T0 (mkF m 171 #[.val (.int t)] [(.int (1 : Int32))])
                        exact own_retZ X0 hx hlk hK hret (by decide) (hb hby own_d2_171) (by decide) (by decide) ⟨by rw [show own_hdr t = (1 : Int32) from ((if_neg hc3_1).trans ((if_neg hc9_2).trans ((if_neg hc15_3).trans ((if_neg hc21_4).trans ((if_neg hc27_5).trans ((if_neg hc33_6).trans ((if_neg hc39_7).trans ((if_neg hc45_8).trans ((if_neg hc51_9).trans ((if_neg hc57_10).trans (if_pos hc63_11)))))))))))], N0, e0⟩
                      · refine own_go (fun _ kk' => XS.icmpNo X0.here hx rfl (hb hby own_d2_63) rfl (feq (hc63_11 : ¬ (t = (90 : Int32)))).1 kk') ?_
                        show own_Go p e below K T0 (mkF m 66 #[.val (.int t)] [])
                        refine own_go (fun _ kk' => XS.iloadN X0.here hx rfl (hb hby own_d2_66) rfl  kk') ?_
                        show own_Go p e below K T0 (mkF m 67 #[.val (.int t)] [(.int t)])
                        refine own_go (fun _ kk' => XS.bipush X0.here hx rfl (hb hby own_d2_67) kk') ?_
                        show own_Go p e below K T0 (mkF m 69 #[.val (.int t)] [(.int (91 : Int32)), (.int t)])
                        by_cases hc69_12 : t = (91 : Int32)
                        · refine own_go (fun _ kk' => XS.icmpYes X0.here hx rfl (pc0 := 69) (pc' := 166) rfl (hb hby own_d2_69) rfl (teq (hc69_12 : t = (91 : Int32))).1 (by decide) (by decide) kk') ?_
                          show own_Go p e below K T0 (mkF m 166 #[.val (.int t)] [])
                          refine own_go (fun _ kk' => XS.iconst X0.here hx rfl (hb hby own_d2_166) kk') ?_
                          show own_Go p e below K T0 (mkF m 167 #[.val (.int t)] [(.int (1 : Int32))])
                          refine own_go (fun _ kk' => XS.goto X0.here hx rfl (pc0 := 167) (pc' := 171) rfl (hb hby own_d2_167) (by decide) (by decide) kk') ?_
                          show own_Go p e below K T0 (mkF m 171 #[.val (.int t)] [(.int (1 : Int32))])
                          exact own_retZ X0 hx hlk hK hret (by decide) (hb hby own_d2_171) (by decide) (by decide) ⟨by rw [show own_hdr t = (1 : Int32) from ((if_neg hc3_1).trans ((if_neg hc9_2).trans ((if_neg hc15_3).trans ((if_neg hc21_4).trans ((if_neg hc27_5).trans ((if_neg hc33_6).trans ((if_neg hc39_7).trans ((if_neg hc45_8).trans ((if_neg hc51_9).trans ((if_neg hc57_10).trans ((if_neg hc63_11).trans (if_pos hc69_12))))))))))))], N0, e0⟩
                        · refine own_go (fun _ kk' => XS.icmpNo X0.here hx rfl (hb hby own_d2_69) rfl (feq (hc69_12 : ¬ (t = (91 : Int32)))).1 kk') ?_
                          show own_Go p e below K T0 (mkF m 72 #[.val (.int t)] [])
                          refine own_go (fun _ kk' => XS.iloadN X0.here hx rfl (hb hby own_d2_72) rfl  kk') ?_
                          show own_Go p e below K T0 (mkF m 73 #[.val (.int t)] [(.int t)])
                          refine own_go (fun _ kk' => XS.bipush X0.here hx rfl (hb hby own_d2_73) kk') ?_
                          show own_Go p e below K T0 (mkF m 75 #[.val (.int t)] [(.int (97 : Int32)), (.int t)])
                          by_cases hc75_13 : t = (97 : Int32)
                          · refine own_go (fun _ kk' => XS.icmpYes X0.here hx rfl (pc0 := 75) (pc' := 166) rfl (hb hby own_d2_75) rfl (teq (hc75_13 : t = (97 : Int32))).1 (by decide) (by decide) kk') ?_
                            show own_Go p e below K T0 (mkF m 166 #[.val (.int t)] [])
                            refine own_go (fun _ kk' => XS.iconst X0.here hx rfl (hb hby own_d2_166) kk') ?_
                            show own_Go p e below K T0 (mkF m 167 #[.val (.int t)] [(.int (1 : Int32))])
                            refine own_go (fun _ kk' => XS.goto X0.here hx rfl (pc0 := 167) (pc' := 171) rfl (hb hby own_d2_167) (by decide) (by decide) kk') ?_
                            show own_Go p e below K T0 (mkF m 171 #[.val (.int t)] [(.int (1 : Int32))])
                            exact own_retZ X0 hx hlk hK hret (by decide) (hb hby own_d2_171) (by decide) (by decide) ⟨by rw [show own_hdr t = (1 : Int32) from ((if_neg hc3_1).trans ((if_neg hc9_2).trans ((if_neg hc15_3).trans ((if_neg hc21_4).trans ((if_neg hc27_5).trans ((if_neg hc33_6).trans ((if_neg hc39_7).trans ((if_neg hc45_8).trans ((if_neg hc51_9).trans ((if_neg hc57_10).trans ((if_neg hc63_11).trans ((if_neg hc69_12).trans (if_pos hc75_13)))))))))))))], N0, e0⟩
                          · refine own_go (fun _ kk' => XS.icmpNo X0.here hx rfl (hb hby own_d2_75) rfl (feq (hc75_13 : ¬ (t = (97 : Int32)))).1 kk') ?_
                            show own_Go p e below K T0 (mkF m 78 #[.val (.int t)] [])
                            refine own_go (fun _ kk' => XS.iloadN X0.here hx rfl (hb hby own_d2_78) rfl  kk') ?_
                            show own_Go p e below K T0 (mkF m 79 #[.val (.int t)] [(.int t)])
                            refine own_go (fun _ kk' => XS.bipush X0.here hx rfl (hb hby own_d2_79) kk') ?_
                            show own_Go p e below K T0 (mkF m 81 #[.val (.int t)] [(.int (115 : Int32)), (.int t)])
                            by_cases hc81_14 : t = (115 : Int32)
                            · refine own_go (fun _ kk' => XS.icmpYes X0.here hx rfl (pc0 := 81) (pc' := 166) rfl (hb hby own_d2_81) rfl (teq (hc81_14 : t = (115 : Int32))).1 (by decide) (by decide) kk') ?_
                              show own_Go p e below K T0 (mkF m 166 #[.val (.int t)] [])
                              refine own_go (fun _ kk' => XS.iconst X0.here hx rfl (hb hby own_d2_166) kk') ?_
                              show own_Go p e below K T0 (mkF m 167 #[.val (.int t)] [(.int (1 : Int32))])
                              refine own_go (fun _ kk' => XS.goto X0.here hx rfl (pc0 := 167) (pc' := 171) rfl (hb hby own_d2_167) (by decide) (by decide) kk') ?_
                              show own_Go p e below K T0 (mkF m 171 #[.val (.int t)] [(.int (1 : Int32))])
                              exact own_retZ X0 hx hlk hK hret (by decide) (hb hby own_d2_171) (by decide) (by decide) ⟨by rw [show own_hdr t = (1 : Int32) from ((if_neg hc3_1).trans ((if_neg hc9_2).trans ((if_neg hc15_3).trans ((if_neg hc21_4).trans ((if_neg hc27_5).trans ((if_neg hc33_6).trans ((if_neg hc39_7).trans ((if_neg hc45_8).trans ((if_neg hc51_9).trans ((if_neg hc57_10).trans ((if_neg hc63_11).trans ((if_neg hc69_12).trans ((if_neg hc75_13).trans (if_pos hc81_14))))))))))))))], N0, e0⟩
                            · refine own_go (fun _ kk' => XS.icmpNo X0.here hx rfl (hb hby own_d2_81) rfl (feq (hc81_14 : ¬ (t = (115 : Int32)))).1 kk') ?_
                              show own_Go p e below K T0 (mkF m 84 #[.val (.int t)] [])
                              refine own_go (fun _ kk' => XS.iloadN X0.here hx rfl (hb hby own_d2_84) rfl  kk') ?_
                              show own_Go p e below K T0 (mkF m 85 #[.val (.int t)] [(.int t)])
                              refine own_go (fun _ kk' => XS.bipush X0.here hx rfl (hb hby own_d2_85) kk') ?_
                              show own_Go p e below K T0 (mkF m 87 #[.val (.int t)] [(.int (116 : Int32)), (.int t)])
                              by_cases hc87_15 : t = (116 : Int32)
                              · refine own_go (fun _ kk' => XS.icmpYes X0.here hx rfl (pc0 := 87) (pc' := 166) rfl (hb hby own_d2_87) rfl (teq (hc87_15 : t = (116 : Int32))).1 (by decide) (by decide) kk') ?_
                                show own_Go p e below K T0 (mkF m 166 #[.val (.int t)] [])
                                refine own_go (fun _ kk' => XS.iconst X0.here hx rfl (hb hby own_d2_166) kk') ?_
                                show own_Go p e below K T0 (mkF m 167 #[.val (.int t)] [(.int (1 : Int32))])
                                refine own_go (fun _ kk' => XS.goto X0.here hx rfl (pc0 := 167) (pc' := 171) rfl (hb hby own_d2_167) (by decide) (by decide) kk') ?_
                                show own_Go p e below K T0 (mkF m 171 #[.val (.int t)] [(.int (1 : Int32))])
                                exact own_retZ X0 hx hlk hK hret (by decide) (hb hby own_d2_171) (by decide) (by decide) ⟨by rw [show own_hdr t = (1 : Int32) from ((if_neg hc3_1).trans ((if_neg hc9_2).trans ((if_neg hc15_3).trans ((if_neg hc21_4).trans ((if_neg hc27_5).trans ((if_neg hc33_6).trans ((if_neg hc39_7).trans ((if_neg hc45_8).trans ((if_neg hc51_9).trans ((if_neg hc57_10).trans ((if_neg hc63_11).trans ((if_neg hc69_12).trans ((if_neg hc75_13).trans ((if_neg hc81_14).trans (if_pos hc87_15)))))))))))))))], N0, e0⟩
                              · refine own_go (fun _ kk' => XS.icmpNo X0.here hx rfl (hb hby own_d2_87) rfl (feq (hc87_15 : ¬ (t = (116 : Int32)))).1 kk') ?_
                                show own_Go p e below K T0 (mkF m 90 #[.val (.int t)] [])
                                refine own_go (fun _ kk' => XS.iloadN X0.here hx rfl (hb hby own_d2_90) rfl  kk') ?_
                                show own_Go p e below K T0 (mkF m 91 #[.val (.int t)] [(.int t)])
                                refine own_go (fun _ kk' => XS.bipush X0.here hx rfl (hb hby own_d2_91) kk') ?_
                                show own_Go p e below K T0 (mkF m 93 #[.val (.int t)] [(.int (122 : Int32)), (.int t)])
                                by_cases hc93_16 : t = (122 : Int32)
                                · refine own_go (fun _ kk' => XS.icmpYes X0.here hx rfl (pc0 := 93) (pc' := 166) rfl (hb hby own_d2_93) rfl (teq (hc93_16 : t = (122 : Int32))).1 (by decide) (by decide) kk') ?_
                                  show own_Go p e below K T0 (mkF m 166 #[.val (.int t)] [])
                                  refine own_go (fun _ kk' => XS.iconst X0.here hx rfl (hb hby own_d2_166) kk') ?_
                                  show own_Go p e below K T0 (mkF m 167 #[.val (.int t)] [(.int (1 : Int32))])
                                  refine own_go (fun _ kk' => XS.goto X0.here hx rfl (pc0 := 167) (pc' := 171) rfl (hb hby own_d2_167) (by decide) (by decide) kk') ?_
                                  show own_Go p e below K T0 (mkF m 171 #[.val (.int t)] [(.int (1 : Int32))])
                                  exact own_retZ X0 hx hlk hK hret (by decide) (hb hby own_d2_171) (by decide) (by decide) ⟨by rw [show own_hdr t = (1 : Int32) from ((if_neg hc3_1).trans ((if_neg hc9_2).trans ((if_neg hc15_3).trans ((if_neg hc21_4).trans ((if_neg hc27_5).trans ((if_neg hc33_6).trans ((if_neg hc39_7).trans ((if_neg hc45_8).trans ((if_neg hc51_9).trans ((if_neg hc57_10).trans ((if_neg hc63_11).trans ((if_neg hc69_12).trans ((if_neg hc75_13).trans ((if_neg hc81_14).trans ((if_neg hc87_15).trans (if_pos hc93_16))))))))))))))))], N0, e0⟩
                                · refine own_go (fun _ kk' => XS.icmpNo X0.here hx rfl (hb hby own_d2_93) rfl (feq (hc93_16 : ¬ (t = (122 : Int32)))).1 kk') ?_
                                  show own_Go p e below K T0 (mkF m 96 #[.val (.int t)] [])
                                  refine own_go (fun _ kk' => XS.iloadN X0.here hx rfl (hb hby own_d2_96) rfl  kk') ?_
                                  show own_Go p e below K T0 (mkF m 97 #[.val (.int t)] [(.int t)])
                                  refine own_go (fun _ kk' => XS.sipush X0.here hx rfl (hb hby own_d2_97) kk') ?_
                                  show own_Go p e below K T0 (mkF m 100 #[.val (.int t)] [(.int (128 : Int32)), (.int t)])
                                  by_cases hc100_17 : t = (128 : Int32)
                                  · refine own_go (fun _ kk' => XS.icmpYes X0.here hx rfl (pc0 := 100) (pc' := 166) rfl (hb hby own_d2_100) rfl (teq (hc100_17 : t = (128 : Int32))).1 (by decide) (by decide) kk') ?_
                                    show own_Go p e below K T0 (mkF m 166 #[.val (.int t)] [])
                                    refine own_go (fun _ kk' => XS.iconst X0.here hx rfl (hb hby own_d2_166) kk') ?_
                                    show own_Go p e below K T0 (mkF m 167 #[.val (.int t)] [(.int (1 : Int32))])
                                    refine own_go (fun _ kk' => XS.goto X0.here hx rfl (pc0 := 167) (pc' := 171) rfl (hb hby own_d2_167) (by decide) (by decide) kk') ?_
                                    show own_Go p e below K T0 (mkF m 171 #[.val (.int t)] [(.int (1 : Int32))])
                                    exact own_retZ X0 hx hlk hK hret (by decide) (hb hby own_d2_171) (by decide) (by decide) ⟨by rw [show own_hdr t = (1 : Int32) from ((if_neg hc3_1).trans ((if_neg hc9_2).trans ((if_neg hc15_3).trans ((if_neg hc21_4).trans ((if_neg hc27_5).trans ((if_neg hc33_6).trans ((if_neg hc39_7).trans ((if_neg hc45_8).trans ((if_neg hc51_9).trans ((if_neg hc57_10).trans ((if_neg hc63_11).trans ((if_neg hc69_12).trans ((if_neg hc75_13).trans ((if_neg hc81_14).trans ((if_neg hc87_15).trans ((if_neg hc93_16).trans (if_pos hc100_17)))))))))))))))))], N0, e0⟩
                                  · refine own_go (fun _ kk' => XS.icmpNo X0.here hx rfl (hb hby own_d2_100) rfl (feq (hc100_17 : ¬ (t = (128 : Int32)))).1 kk') ?_
                                    show own_Go p e below K T0 (mkF m 103 #[.val (.int t)] [])
                                    refine own_go (fun _ kk' => XS.iloadN X0.here hx rfl (hb hby own_d2_103) rfl  kk') ?_
                                    show own_Go p e below K T0 (mkF m 104 #[.val (.int t)] [(.int t)])
                                    refine own_go (fun _ kk' => XS.sipush X0.here hx rfl (hb hby own_d2_104) kk') ?_
                                    show own_Go p e below K T0 (mkF m 107 #[.val (.int t)] [(.int (129 : Int32)), (.int t)])
                                    by_cases hc107_18 : t = (129 : Int32)
                                    · refine own_go (fun _ kk' => XS.icmpYes X0.here hx rfl (pc0 := 107) (pc' := 166) rfl (hb hby own_d2_107) rfl (teq (hc107_18 : t = (129 : Int32))).1 (by decide) (by decide) kk') ?_
                                      show own_Go p e below K T0 (mkF m 166 #[.val (.int t)] [])
                                      refine own_go (fun _ kk' => XS.iconst X0.here hx rfl (hb hby own_d2_166) kk') ?_
                                      show own_Go p e below K T0 (mkF m 167 #[.val (.int t)] [(.int (1 : Int32))])
                                      refine own_go (fun _ kk' => XS.goto X0.here hx rfl (pc0 := 167) (pc' := 171) rfl (hb hby own_d2_167) (by decide) (by decide) kk') ?_
                                      show own_Go p e below K T0 (mkF m 171 #[.val (.int t)] [(.int (1 : Int32))])
                                      exact own_retZ X0 hx hlk hK hret (by decide) (hb hby own_d2_171) (by decide) (by decide) ⟨by rw [show own_hdr t = (1 : Int32) from ((if_neg hc3_1).trans ((if_neg hc9_2).trans ((if_neg hc15_3).trans ((if_neg hc21_4).trans ((if_neg hc27_5).trans ((if_neg hc33_6).trans ((if_neg hc39_7).trans ((if_neg hc45_8).trans ((if_neg hc51_9).trans ((if_neg hc57_10).trans ((if_neg hc63_11).trans ((if_neg hc69_12).trans ((if_neg hc75_13).trans ((if_neg hc81_14).trans ((if_neg hc87_15).trans ((if_neg hc93_16).trans ((if_neg hc100_17).trans (if_pos hc107_18))))))))))))))))))], N0, e0⟩
                                    · refine own_go (fun _ kk' => XS.icmpNo X0.here hx rfl (hb hby own_d2_107) rfl (feq (hc107_18 : ¬ (t = (129 : Int32)))).1 kk') ?_
                                      show own_Go p e below K T0 (mkF m 110 #[.val (.int t)] [])
                                      refine own_go (fun _ kk' => XS.iloadN X0.here hx rfl (hb hby own_d2_110) rfl  kk') ?_
                                      show own_Go p e below K T0 (mkF m 111 #[.val (.int t)] [(.int t)])
                                      refine own_go (fun _ kk' => XS.sipush X0.here hx rfl (hb hby own_d2_111) kk') ?_
                                      show own_Go p e below K T0 (mkF m 114 #[.val (.int t)] [(.int (142 : Int32)), (.int t)])
                                      by_cases hc114_19 : t < (142 : Int32)
                                      · refine own_go (fun _ kk' => XS.icmpYes X0.here hx rfl (pc0 := 114) (pc' := 124) rfl (hb hby own_d2_114) rfl (tlt (hc114_19 : t < (142 : Int32))).1 (by decide) (by decide) kk') ?_
                                        show own_Go p e below K T0 (mkF m 124 #[.val (.int t)] [])
                                        refine own_go (fun _ kk' => XS.iloadN X0.here hx rfl (hb hby own_d2_124) rfl  kk') ?_
                                        show own_Go p e below K T0 (mkF m 125 #[.val (.int t)] [(.int t)])
                                        refine own_go (fun _ kk' => XS.sipush X0.here hx rfl (hb hby own_d2_125) kk') ?_
                                        show own_Go p e below K T0 (mkF m 128 #[.val (.int t)] [(.int (212 : Int32)), (.int t)])
                                        by_cases hc128_20 : t = (212 : Int32)
                                        · refine own_go (fun _ kk' => XS.icmpYes X0.here hx rfl (pc0 := 128) (pc' := 166) rfl (hb hby own_d2_128) rfl (teq (hc128_20 : t = (212 : Int32))).1 (by decide) (by decide) kk') ?_
                                          show own_Go p e below K T0 (mkF m 166 #[.val (.int t)] [])
                                          refine own_go (fun _ kk' => XS.iconst X0.here hx rfl (hb hby own_d2_166) kk') ?_
                                          show own_Go p e below K T0 (mkF m 167 #[.val (.int t)] [(.int (1 : Int32))])
                                          refine own_go (fun _ kk' => XS.goto X0.here hx rfl (pc0 := 167) (pc' := 171) rfl (hb hby own_d2_167) (by decide) (by decide) kk') ?_
                                          show own_Go p e below K T0 (mkF m 171 #[.val (.int t)] [(.int (1 : Int32))])
                                          exact own_retZ X0 hx hlk hK hret (by decide) (hb hby own_d2_171) (by decide) (by decide) ⟨by rw [show own_hdr t = (1 : Int32) from ((if_neg hc3_1).trans ((if_neg hc9_2).trans ((if_neg hc15_3).trans ((if_neg hc21_4).trans ((if_neg hc27_5).trans ((if_neg hc33_6).trans ((if_neg hc39_7).trans ((if_neg hc45_8).trans ((if_neg hc51_9).trans ((if_neg hc57_10).trans ((if_neg hc63_11).trans ((if_neg hc69_12).trans ((if_neg hc75_13).trans ((if_neg hc81_14).trans ((if_neg hc87_15).trans ((if_neg hc93_16).trans ((if_neg hc100_17).trans ((if_neg hc107_18).trans ((if_pos hc114_19).trans (if_pos hc128_20))))))))))))))))))))], N0, e0⟩
                                        · refine own_go (fun _ kk' => XS.icmpNo X0.here hx rfl (hb hby own_d2_128) rfl (feq (hc128_20 : ¬ (t = (212 : Int32)))).1 kk') ?_
                                          show own_Go p e below K T0 (mkF m 131 #[.val (.int t)] [])
                                          refine own_go (fun _ kk' => XS.iloadN X0.here hx rfl (hb hby own_d2_131) rfl  kk') ?_
                                          show own_Go p e below K T0 (mkF m 132 #[.val (.int t)] [(.int t)])
                                          refine own_go (fun _ kk' => XS.sipush X0.here hx rfl (hb hby own_d2_132) kk') ?_
                                          show own_Go p e below K T0 (mkF m 135 #[.val (.int t)] [(.int (213 : Int32)), (.int t)])
                                          by_cases hc135_21 : t = (213 : Int32)
                                          · refine own_go (fun _ kk' => XS.icmpYes X0.here hx rfl (pc0 := 135) (pc' := 166) rfl (hb hby own_d2_135) rfl (teq (hc135_21 : t = (213 : Int32))).1 (by decide) (by decide) kk') ?_
                                            show own_Go p e below K T0 (mkF m 166 #[.val (.int t)] [])
                                            refine own_go (fun _ kk' => XS.iconst X0.here hx rfl (hb hby own_d2_166) kk') ?_
                                            show own_Go p e below K T0 (mkF m 167 #[.val (.int t)] [(.int (1 : Int32))])
                                            refine own_go (fun _ kk' => XS.goto X0.here hx rfl (pc0 := 167) (pc' := 171) rfl (hb hby own_d2_167) (by decide) (by decide) kk') ?_
                                            show own_Go p e below K T0 (mkF m 171 #[.val (.int t)] [(.int (1 : Int32))])
                                            exact own_retZ X0 hx hlk hK hret (by decide) (hb hby own_d2_171) (by decide) (by decide) ⟨by rw [show own_hdr t = (1 : Int32) from ((if_neg hc3_1).trans ((if_neg hc9_2).trans ((if_neg hc15_3).trans ((if_neg hc21_4).trans ((if_neg hc27_5).trans ((if_neg hc33_6).trans ((if_neg hc39_7).trans ((if_neg hc45_8).trans ((if_neg hc51_9).trans ((if_neg hc57_10).trans ((if_neg hc63_11).trans ((if_neg hc69_12).trans ((if_neg hc75_13).trans ((if_neg hc81_14).trans ((if_neg hc87_15).trans ((if_neg hc93_16).trans ((if_neg hc100_17).trans ((if_neg hc107_18).trans ((if_pos hc114_19).trans ((if_neg hc128_20).trans (if_pos hc135_21)))))))))))))))))))))], N0, e0⟩
                                          · refine own_go (fun _ kk' => XS.icmpNo X0.here hx rfl (hb hby own_d2_135) rfl (feq (hc135_21 : ¬ (t = (213 : Int32)))).1 kk') ?_
                                            show own_Go p e below K T0 (mkF m 138 #[.val (.int t)] [])
                                            refine own_go (fun _ kk' => XS.iloadN X0.here hx rfl (hb hby own_d2_138) rfl  kk') ?_
                                            show own_Go p e below K T0 (mkF m 139 #[.val (.int t)] [(.int t)])
                                            refine own_go (fun _ kk' => XS.sipush X0.here hx rfl (hb hby own_d2_139) kk') ?_
                                            show own_Go p e below K T0 (mkF m 142 #[.val (.int t)] [(.int (347 : Int32)), (.int t)])
                                            by_cases hc142_22 : t = (347 : Int32)
                                            · refine own_go (fun _ kk' => XS.icmpYes X0.here hx rfl (pc0 := 142) (pc' := 166) rfl (hb hby own_d2_142) rfl (teq (hc142_22 : t = (347 : Int32))).1 (by decide) (by decide) kk') ?_
                                              show own_Go p e below K T0 (mkF m 166 #[.val (.int t)] [])
                                              refine own_go (fun _ kk' => XS.iconst X0.here hx rfl (hb hby own_d2_166) kk') ?_
                                              show own_Go p e below K T0 (mkF m 167 #[.val (.int t)] [(.int (1 : Int32))])
                                              refine own_go (fun _ kk' => XS.goto X0.here hx rfl (pc0 := 167) (pc' := 171) rfl (hb hby own_d2_167) (by decide) (by decide) kk') ?_
                                              show own_Go p e below K T0 (mkF m 171 #[.val (.int t)] [(.int (1 : Int32))])
                                              exact own_retZ X0 hx hlk hK hret (by decide) (hb hby own_d2_171) (by decide) (by decide) ⟨by rw [show own_hdr t = (1 : Int32) from ((if_neg hc3_1).trans ((if_neg hc9_2).trans ((if_neg hc15_3).trans ((if_neg hc21_4).trans ((if_neg hc27_5).trans ((if_neg hc33_6).trans ((if_neg hc39_7).trans ((if_neg hc45_8).trans ((if_neg hc51_9).trans ((if_neg hc57_10).trans ((if_neg hc63_11).trans ((if_neg hc69_12).trans ((if_neg hc75_13).trans ((if_neg hc81_14).trans ((if_neg hc87_15).trans ((if_neg hc93_16).trans ((if_neg hc100_17).trans ((if_neg hc107_18).trans ((if_pos hc114_19).trans ((if_neg hc128_20).trans ((if_neg hc135_21).trans (if_pos hc142_22))))))))))))))))))))))], N0, e0⟩
                                            · refine own_go (fun _ kk' => XS.icmpNo X0.here hx rfl (hb hby own_d2_142) rfl (feq (hc142_22 : ¬ (t = (347 : Int32)))).1 kk') ?_
                                              show own_Go p e below K T0 (mkF m 145 #[.val (.int t)] [])
                                              refine own_go (fun _ kk' => XS.iloadN X0.here hx rfl (hb hby own_d2_145) rfl  kk') ?_
                                              show own_Go p e below K T0 (mkF m 146 #[.val (.int t)] [(.int t)])
                                              refine own_go (fun _ kk' => XS.sipush X0.here hx rfl (hb hby own_d2_146) kk') ?_
                                              show own_Go p e below K T0 (mkF m 149 #[.val (.int t)] [(.int (369 : Int32)), (.int t)])
                                              by_cases hc149_23 : t = (369 : Int32)
                                              · refine own_go (fun _ kk' => XS.icmpYes X0.here hx rfl (pc0 := 149) (pc' := 166) rfl (hb hby own_d2_149) rfl (teq (hc149_23 : t = (369 : Int32))).1 (by decide) (by decide) kk') ?_
                                                show own_Go p e below K T0 (mkF m 166 #[.val (.int t)] [])
                                                refine own_go (fun _ kk' => XS.iconst X0.here hx rfl (hb hby own_d2_166) kk') ?_
                                                show own_Go p e below K T0 (mkF m 167 #[.val (.int t)] [(.int (1 : Int32))])
                                                refine own_go (fun _ kk' => XS.goto X0.here hx rfl (pc0 := 167) (pc' := 171) rfl (hb hby own_d2_167) (by decide) (by decide) kk') ?_
                                                show own_Go p e below K T0 (mkF m 171 #[.val (.int t)] [(.int (1 : Int32))])
                                                exact own_retZ X0 hx hlk hK hret (by decide) (hb hby own_d2_171) (by decide) (by decide) ⟨by rw [show own_hdr t = (1 : Int32) from ((if_neg hc3_1).trans ((if_neg hc9_2).trans ((if_neg hc15_3).trans ((if_neg hc21_4).trans ((if_neg hc27_5).trans ((if_neg hc33_6).trans ((if_neg hc39_7).trans ((if_neg hc45_8).trans ((if_neg hc51_9).trans ((if_neg hc57_10).trans ((if_neg hc63_11).trans ((if_neg hc69_12).trans ((if_neg hc75_13).trans ((if_neg hc81_14).trans ((if_neg hc87_15).trans ((if_neg hc93_16).trans ((if_neg hc100_17).trans ((if_neg hc107_18).trans ((if_pos hc114_19).trans ((if_neg hc128_20).trans ((if_neg hc135_21).trans ((if_neg hc142_22).trans (if_pos hc149_23)))))))))))))))))))))))], N0, e0⟩
                                              · refine own_go (fun _ kk' => XS.icmpNo X0.here hx rfl (hb hby own_d2_149) rfl (feq (hc149_23 : ¬ (t = (369 : Int32)))).1 kk') ?_
                                                show own_Go p e below K T0 (mkF m 152 #[.val (.int t)] [])
                                                refine own_go (fun _ kk' => XS.iloadN X0.here hx rfl (hb hby own_d2_152) rfl  kk') ?_
                                                show own_Go p e below K T0 (mkF m 153 #[.val (.int t)] [(.int t)])
                                                refine own_go (fun _ kk' => XS.sipush X0.here hx rfl (hb hby own_d2_153) kk') ?_
                                                show own_Go p e below K T0 (mkF m 156 #[.val (.int t)] [(.int (627 : Int32)), (.int t)])
                                                by_cases hc156_24 : t < (627 : Int32)
                                                · refine own_go (fun _ kk' => XS.icmpYes X0.here hx rfl (pc0 := 156) (pc' := 170) rfl (hb hby own_d2_156) rfl (tlt (hc156_24 : t < (627 : Int32))).1 (by decide) (by decide) kk') ?_
                                                  show own_Go p e below K T0 (mkF m 170 #[.val (.int t)] [])
                                                  refine own_go (fun _ kk' => XS.iconst X0.here hx rfl (hb hby own_d2_170) kk') ?_
                                                  show own_Go p e below K T0 (mkF m 171 #[.val (.int t)] [(.int (0 : Int32))])
                                                  exact own_retZ X0 hx hlk hK hret (by decide) (hb hby own_d2_171) (by decide) (by decide) ⟨by rw [show own_hdr t = (0 : Int32) from ((if_neg hc3_1).trans ((if_neg hc9_2).trans ((if_neg hc15_3).trans ((if_neg hc21_4).trans ((if_neg hc27_5).trans ((if_neg hc33_6).trans ((if_neg hc39_7).trans ((if_neg hc45_8).trans ((if_neg hc51_9).trans ((if_neg hc57_10).trans ((if_neg hc63_11).trans ((if_neg hc69_12).trans ((if_neg hc75_13).trans ((if_neg hc81_14).trans ((if_neg hc87_15).trans ((if_neg hc93_16).trans ((if_neg hc100_17).trans ((if_neg hc107_18).trans ((if_pos hc114_19).trans ((if_neg hc128_20).trans ((if_neg hc135_21).trans ((if_neg hc142_22).trans ((if_neg hc149_23).trans (if_pos hc156_24))))))))))))))))))))))))], N0, e0⟩
                                                · refine own_go (fun _ kk' => XS.icmpNo X0.here hx rfl (hb hby own_d2_156) rfl (flt (hc156_24 : ¬ (t < (627 : Int32)))).1 kk') ?_
                                                  show own_Go p e below K T0 (mkF m 159 #[.val (.int t)] [])
                                                  refine own_go (fun _ kk' => XS.iloadN X0.here hx rfl (hb hby own_d2_159) rfl  kk') ?_
                                                  show own_Go p e below K T0 (mkF m 160 #[.val (.int t)] [(.int t)])
                                                  refine own_go (fun _ kk' => XS.sipush X0.here hx rfl (hb hby own_d2_160) kk') ?_
                                                  show own_Go p e below K T0 (mkF m 163 #[.val (.int t)] [(.int (630 : Int32)), (.int t)])
                                                  by_cases hc163_25 : (630 : Int32) < t
                                                  · refine own_go (fun _ kk' => XS.icmpYes X0.here hx rfl (pc0 := 163) (pc' := 170) rfl (hb hby own_d2_163) rfl (tlt (hc163_25 : (630 : Int32) < t)).2.2.1 (by decide) (by decide) kk') ?_
                                                    show own_Go p e below K T0 (mkF m 170 #[.val (.int t)] [])
                                                    refine own_go (fun _ kk' => XS.iconst X0.here hx rfl (hb hby own_d2_170) kk') ?_
                                                    show own_Go p e below K T0 (mkF m 171 #[.val (.int t)] [(.int (0 : Int32))])
                                                    exact own_retZ X0 hx hlk hK hret (by decide) (hb hby own_d2_171) (by decide) (by decide) ⟨by rw [show own_hdr t = (0 : Int32) from ((if_neg hc3_1).trans ((if_neg hc9_2).trans ((if_neg hc15_3).trans ((if_neg hc21_4).trans ((if_neg hc27_5).trans ((if_neg hc33_6).trans ((if_neg hc39_7).trans ((if_neg hc45_8).trans ((if_neg hc51_9).trans ((if_neg hc57_10).trans ((if_neg hc63_11).trans ((if_neg hc69_12).trans ((if_neg hc75_13).trans ((if_neg hc81_14).trans ((if_neg hc87_15).trans ((if_neg hc93_16).trans ((if_neg hc100_17).trans ((if_neg hc107_18).trans ((if_pos hc114_19).trans ((if_neg hc128_20).trans ((if_neg hc135_21).trans ((if_neg hc142_22).trans ((if_neg hc149_23).trans ((if_neg hc156_24).trans (if_pos hc163_25)))))))))))))))))))))))))], N0, e0⟩
                                                  · refine own_go (fun _ kk' => XS.icmpNo X0.here hx rfl (hb hby own_d2_163) rfl (flt (hc163_25 : ¬ ((630 : Int32) < t))).2.2.1 kk') ?_
                                                    show own_Go p e below K T0 (mkF m 166 #[.val (.int t)] [])
                                                    refine own_go (fun _ kk' => XS.iconst X0.here hx rfl (hb hby own_d2_166) kk') ?_
                                                    show own_Go p e below K T0 (mkF m 167 #[.val (.int t)] [(.int (1 : Int32))])
                                                    refine own_go (fun _ kk' => XS.goto X0.here hx rfl (pc0 := 167) (pc' := 171) rfl (hb hby own_d2_167) (by decide) (by decide) kk') ?_
                                                    show own_Go p e below K T0 (mkF m 171 #[.val (.int t)] [(.int (1 : Int32))])
                                                    exact own_retZ X0 hx hlk hK hret (by decide) (hb hby own_d2_171) (by decide) (by decide) ⟨by rw [show own_hdr t = (1 : Int32) from ((if_neg hc3_1).trans ((if_neg hc9_2).trans ((if_neg hc15_3).trans ((if_neg hc21_4).trans ((if_neg hc27_5).trans ((if_neg hc33_6).trans ((if_neg hc39_7).trans ((if_neg hc45_8).trans ((if_neg hc51_9).trans ((if_neg hc57_10).trans ((if_neg hc63_11).trans ((if_neg hc69_12).trans ((if_neg hc75_13).trans ((if_neg hc81_14).trans ((if_neg hc87_15).trans ((if_neg hc93_16).trans ((if_neg hc100_17).trans ((if_neg hc107_18).trans ((if_pos hc114_19).trans ((if_neg hc128_20).trans ((if_neg hc135_21).trans ((if_neg hc142_22).trans ((if_neg hc149_23).trans ((if_neg hc156_24).trans (if_neg hc163_25)))))))))))))))))))))))))], N0, e0⟩
                                      · refine own_go (fun _ kk' => XS.icmpNo X0.here hx rfl (hb hby own_d2_114) rfl (flt (hc114_19 : ¬ (t < (142 : Int32)))).1 kk') ?_
                                        show own_Go p e below K T0 (mkF m 117 #[.val (.int t)] [])
                                        refine own_go (fun _ kk' => XS.iloadN X0.here hx rfl (hb hby own_d2_117) rfl  kk') ?_
                                        show own_Go p e below K T0 (mkF m 118 #[.val (.int t)] [(.int t)])
                                        refine own_go (fun _ kk' => XS.sipush X0.here hx rfl (hb hby own_d2_118) kk') ?_
                                        show own_Go p e below K T0 (mkF m 121 #[.val (.int t)] [(.int (145 : Int32)), (.int t)])
                                        by_cases hc121_26 : (145 : Int32) < t
                                        · refine own_go (fun _ kk' => XS.icmpNo X0.here hx rfl (hb hby own_d2_121) rfl (tlt (hc121_26 : (145 : Int32) < t)).2.2.2 kk') ?_
                                          show own_Go p e below K T0 (mkF m 124 #[.val (.int t)] [])
                                          refine own_go (fun _ kk' => XS.iloadN X0.here hx rfl (hb hby own_d2_124) rfl  kk') ?_
                                          show own_Go p e below K T0 (mkF m 125 #[.val (.int t)] [(.int t)])
                                          refine own_go (fun _ kk' => XS.sipush X0.here hx rfl (hb hby own_d2_125) kk') ?_
                                          show own_Go p e below K T0 (mkF m 128 #[.val (.int t)] [(.int (212 : Int32)), (.int t)])
                                          by_cases hc128_27 : t = (212 : Int32)
                                          · refine own_go (fun _ kk' => XS.icmpYes X0.here hx rfl (pc0 := 128) (pc' := 166) rfl (hb hby own_d2_128) rfl (teq (hc128_27 : t = (212 : Int32))).1 (by decide) (by decide) kk') ?_
                                            show own_Go p e below K T0 (mkF m 166 #[.val (.int t)] [])
                                            refine own_go (fun _ kk' => XS.iconst X0.here hx rfl (hb hby own_d2_166) kk') ?_
                                            show own_Go p e below K T0 (mkF m 167 #[.val (.int t)] [(.int (1 : Int32))])
                                            refine own_go (fun _ kk' => XS.goto X0.here hx rfl (pc0 := 167) (pc' := 171) rfl (hb hby own_d2_167) (by decide) (by decide) kk') ?_
                                            show own_Go p e below K T0 (mkF m 171 #[.val (.int t)] [(.int (1 : Int32))])
                                            exact own_retZ X0 hx hlk hK hret (by decide) (hb hby own_d2_171) (by decide) (by decide) ⟨by rw [show own_hdr t = (1 : Int32) from ((if_neg hc3_1).trans ((if_neg hc9_2).trans ((if_neg hc15_3).trans ((if_neg hc21_4).trans ((if_neg hc27_5).trans ((if_neg hc33_6).trans ((if_neg hc39_7).trans ((if_neg hc45_8).trans ((if_neg hc51_9).trans ((if_neg hc57_10).trans ((if_neg hc63_11).trans ((if_neg hc69_12).trans ((if_neg hc75_13).trans ((if_neg hc81_14).trans ((if_neg hc87_15).trans ((if_neg hc93_16).trans ((if_neg hc100_17).trans ((if_neg hc107_18).trans ((if_neg hc114_19).trans ((if_pos hc121_26).trans (if_pos hc128_27)))))))))))))))))))))], N0, e0⟩
                                          · refine own_go (fun _ kk' => XS.icmpNo X0.here hx rfl (hb hby own_d2_128) rfl (feq (hc128_27 : ¬ (t = (212 : Int32)))).1 kk') ?_
                                            show own_Go p e below K T0 (mkF m 131 #[.val (.int t)] [])
                                            refine own_go (fun _ kk' => XS.iloadN X0.here hx rfl (hb hby own_d2_131) rfl  kk') ?_
                                            show own_Go p e below K T0 (mkF m 132 #[.val (.int t)] [(.int t)])
                                            refine own_go (fun _ kk' => XS.sipush X0.here hx rfl (hb hby own_d2_132) kk') ?_
                                            show own_Go p e below K T0 (mkF m 135 #[.val (.int t)] [(.int (213 : Int32)), (.int t)])
                                            by_cases hc135_28 : t = (213 : Int32)
                                            · refine own_go (fun _ kk' => XS.icmpYes X0.here hx rfl (pc0 := 135) (pc' := 166) rfl (hb hby own_d2_135) rfl (teq (hc135_28 : t = (213 : Int32))).1 (by decide) (by decide) kk') ?_
                                              show own_Go p e below K T0 (mkF m 166 #[.val (.int t)] [])
                                              refine own_go (fun _ kk' => XS.iconst X0.here hx rfl (hb hby own_d2_166) kk') ?_
                                              show own_Go p e below K T0 (mkF m 167 #[.val (.int t)] [(.int (1 : Int32))])
                                              refine own_go (fun _ kk' => XS.goto X0.here hx rfl (pc0 := 167) (pc' := 171) rfl (hb hby own_d2_167) (by decide) (by decide) kk') ?_
                                              show own_Go p e below K T0 (mkF m 171 #[.val (.int t)] [(.int (1 : Int32))])
                                              exact own_retZ X0 hx hlk hK hret (by decide) (hb hby own_d2_171) (by decide) (by decide) ⟨by rw [show own_hdr t = (1 : Int32) from ((if_neg hc3_1).trans ((if_neg hc9_2).trans ((if_neg hc15_3).trans ((if_neg hc21_4).trans ((if_neg hc27_5).trans ((if_neg hc33_6).trans ((if_neg hc39_7).trans ((if_neg hc45_8).trans ((if_neg hc51_9).trans ((if_neg hc57_10).trans ((if_neg hc63_11).trans ((if_neg hc69_12).trans ((if_neg hc75_13).trans ((if_neg hc81_14).trans ((if_neg hc87_15).trans ((if_neg hc93_16).trans ((if_neg hc100_17).trans ((if_neg hc107_18).trans ((if_neg hc114_19).trans ((if_pos hc121_26).trans ((if_neg hc128_27).trans (if_pos hc135_28))))))))))))))))))))))], N0, e0⟩
                                            · refine own_go (fun _ kk' => XS.icmpNo X0.here hx rfl (hb hby own_d2_135) rfl (feq (hc135_28 : ¬ (t = (213 : Int32)))).1 kk') ?_
                                              show own_Go p e below K T0 (mkF m 138 #[.val (.int t)] [])
                                              refine own_go (fun _ kk' => XS.iloadN X0.here hx rfl (hb hby own_d2_138) rfl  kk') ?_
                                              show own_Go p e below K T0 (mkF m 139 #[.val (.int t)] [(.int t)])
                                              refine own_go (fun _ kk' => XS.sipush X0.here hx rfl (hb hby own_d2_139) kk') ?_
                                              show own_Go p e below K T0 (mkF m 142 #[.val (.int t)] [(.int (347 : Int32)), (.int t)])
                                              by_cases hc142_29 : t = (347 : Int32)
                                              · refine own_go (fun _ kk' => XS.icmpYes X0.here hx rfl (pc0 := 142) (pc' := 166) rfl (hb hby own_d2_142) rfl (teq (hc142_29 : t = (347 : Int32))).1 (by decide) (by decide) kk') ?_
                                                show own_Go p e below K T0 (mkF m 166 #[.val (.int t)] [])
                                                refine own_go (fun _ kk' => XS.iconst X0.here hx rfl (hb hby own_d2_166) kk') ?_
                                                show own_Go p e below K T0 (mkF m 167 #[.val (.int t)] [(.int (1 : Int32))])
                                                refine own_go (fun _ kk' => XS.goto X0.here hx rfl (pc0 := 167) (pc' := 171) rfl (hb hby own_d2_167) (by decide) (by decide) kk') ?_
                                                show own_Go p e below K T0 (mkF m 171 #[.val (.int t)] [(.int (1 : Int32))])
                                                exact own_retZ X0 hx hlk hK hret (by decide) (hb hby own_d2_171) (by decide) (by decide) ⟨by rw [show own_hdr t = (1 : Int32) from ((if_neg hc3_1).trans ((if_neg hc9_2).trans ((if_neg hc15_3).trans ((if_neg hc21_4).trans ((if_neg hc27_5).trans ((if_neg hc33_6).trans ((if_neg hc39_7).trans ((if_neg hc45_8).trans ((if_neg hc51_9).trans ((if_neg hc57_10).trans ((if_neg hc63_11).trans ((if_neg hc69_12).trans ((if_neg hc75_13).trans ((if_neg hc81_14).trans ((if_neg hc87_15).trans ((if_neg hc93_16).trans ((if_neg hc100_17).trans ((if_neg hc107_18).trans ((if_neg hc114_19).trans ((if_pos hc121_26).trans ((if_neg hc128_27).trans ((if_neg hc135_28).trans (if_pos hc142_29)))))))))))))))))))))))], N0, e0⟩
                                              · refine own_go (fun _ kk' => XS.icmpNo X0.here hx rfl (hb hby own_d2_142) rfl (feq (hc142_29 : ¬ (t = (347 : Int32)))).1 kk') ?_
                                                show own_Go p e below K T0 (mkF m 145 #[.val (.int t)] [])
                                                refine own_go (fun _ kk' => XS.iloadN X0.here hx rfl (hb hby own_d2_145) rfl  kk') ?_
                                                show own_Go p e below K T0 (mkF m 146 #[.val (.int t)] [(.int t)])
                                                refine own_go (fun _ kk' => XS.sipush X0.here hx rfl (hb hby own_d2_146) kk') ?_
                                                show own_Go p e below K T0 (mkF m 149 #[.val (.int t)] [(.int (369 : Int32)), (.int t)])
                                                by_cases hc149_30 : t = (369 : Int32)
                                                · refine own_go (fun _ kk' => XS.icmpYes X0.here hx rfl (pc0 := 149) (pc' := 166) rfl (hb hby own_d2_149) rfl (teq (hc149_30 : t = (369 : Int32))).1 (by decide) (by decide) kk') ?_
                                                  show own_Go p e below K T0 (mkF m 166 #[.val (.int t)] [])
                                                  refine own_go (fun _ kk' => XS.iconst X0.here hx rfl (hb hby own_d2_166) kk') ?_
                                                  show own_Go p e below K T0 (mkF m 167 #[.val (.int t)] [(.int (1 : Int32))])
                                                  refine own_go (fun _ kk' => XS.goto X0.here hx rfl (pc0 := 167) (pc' := 171) rfl (hb hby own_d2_167) (by decide) (by decide) kk') ?_
                                                  show own_Go p e below K T0 (mkF m 171 #[.val (.int t)] [(.int (1 : Int32))])
                                                  exact own_retZ X0 hx hlk hK hret (by decide) (hb hby own_d2_171) (by decide) (by decide) ⟨by rw [show own_hdr t = (1 : Int32) from ((if_neg hc3_1).trans ((if_neg hc9_2).trans ((if_neg hc15_3).trans ((if_neg hc21_4).trans ((if_neg hc27_5).trans ((if_neg hc33_6).trans ((if_neg hc39_7).trans ((if_neg hc45_8).trans ((if_neg hc51_9).trans ((if_neg hc57_10).trans ((if_neg hc63_11).trans ((if_neg hc69_12).trans ((if_neg hc75_13).trans ((if_neg hc81_14).trans ((if_neg hc87_15).trans ((if_neg hc93_16).trans ((if_neg hc100_17).trans ((if_neg hc107_18).trans ((if_neg hc114_19).trans ((if_pos hc121_26).trans ((if_neg hc128_27).trans ((if_neg hc135_28).trans ((if_neg hc142_29).trans (if_pos hc149_30))))))))))))))))))))))))], N0, e0⟩
                                                · refine own_go (fun _ kk' => XS.icmpNo X0.here hx rfl (hb hby own_d2_149) rfl (feq (hc149_30 : ¬ (t = (369 : Int32)))).1 kk') ?_
                                                  show own_Go p e below K T0 (mkF m 152 #[.val (.int t)] [])
                                                  refine own_go (fun _ kk' => XS.iloadN X0.here hx rfl (hb hby own_d2_152) rfl  kk') ?_
                                                  show own_Go p e below K T0 (mkF m 153 #[.val (.int t)] [(.int t)])
                                                  refine own_go (fun _ kk' => XS.sipush X0.here hx rfl (hb hby own_d2_153) kk') ?_
                                                  show own_Go p e below K T0 (mkF m 156 #[.val (.int t)] [(.int (627 : Int32)), (.int t)])
                                                  by_cases hc156_31 : t < (627 : Int32)
                                                  · refine own_go (fun _ kk' => XS.icmpYes X0.here hx rfl (pc0 := 156) (pc' := 170) rfl (hb hby own_d2_156) rfl (tlt (hc156_31 : t < (627 : Int32))).1 (by decide) (by decide) kk') ?_
                                                    show own_Go p e below K T0 (mkF m 170 #[.val (.int t)] [])
                                                    refine own_go (fun _ kk' => XS.iconst X0.here hx rfl (hb hby own_d2_170) kk') ?_
                                                    show own_Go p e below K T0 (mkF m 171 #[.val (.int t)] [(.int (0 : Int32))])
                                                    exact own_retZ X0 hx hlk hK hret (by decide) (hb hby own_d2_171) (by decide) (by decide) ⟨by rw [show own_hdr t = (0 : Int32) from ((if_neg hc3_1).trans ((if_neg hc9_2).trans ((if_neg hc15_3).trans ((if_neg hc21_4).trans ((if_neg hc27_5).trans ((if_neg hc33_6).trans ((if_neg hc39_7).trans ((if_neg hc45_8).trans ((if_neg hc51_9).trans ((if_neg hc57_10).trans ((if_neg hc63_11).trans ((if_neg hc69_12).trans ((if_neg hc75_13).trans ((if_neg hc81_14).trans ((if_neg hc87_15).trans ((if_neg hc93_16).trans ((if_neg hc100_17).trans ((if_neg hc107_18).trans ((if_neg hc114_19).trans ((if_pos hc121_26).trans ((if_neg hc128_27).trans ((if_neg hc135_28).trans ((if_neg hc142_29).trans ((if_neg hc149_30).trans (if_pos hc156_31)))))))))))))))))))))))))], N0, e0⟩
                                                  · refine own_go (fun _ kk' => XS.icmpNo X0.here hx rfl (hb hby own_d2_156) rfl (flt (hc156_31 : ¬ (t < (627 : Int32)))).1 kk') ?_
                                                    show own_Go p e below K T0 (mkF m 159 #[.val (.int t)] [])
                                                    refine own_go (fun _ kk' => XS.iloadN X0.here hx rfl (hb hby own_d2_159) rfl  kk') ?_
                                                    show own_Go p e below K T0 (mkF m 160 #[.val (.int t)] [(.int t)])
                                                    refine own_go (fun _ kk' => XS.sipush X0.here hx rfl (hb hby own_d2_160) kk') ?_
                                                    show own_Go p e below K T0 (mkF m 163 #[.val (.int t)] [(.int (630 : Int32)), (.int t)])
                                                    by_cases hc163_32 : (630 : Int32) < t
                                                    · refine own_go (fun _ kk' => XS.icmpYes X0.here hx rfl (pc0 := 163) (pc' := 170) rfl (hb hby own_d2_163) rfl (tlt (hc163_32 : (630 : Int32) < t)).2.2.1 (by decide) (by decide) kk') ?_
                                                      show own_Go p e below K T0 (mkF m 170 #[.val (.int t)] [])
                                                      refine own_go (fun _ kk' => XS.iconst X0.here hx rfl (hb hby own_d2_170) kk') ?_
                                                      show own_Go p e below K T0 (mkF m 171 #[.val (.int t)] [(.int (0 : Int32))])
                                                      exact own_retZ X0 hx hlk hK hret (by decide) (hb hby own_d2_171) (by decide) (by decide) ⟨by rw [show own_hdr t = (0 : Int32) from ((if_neg hc3_1).trans ((if_neg hc9_2).trans ((if_neg hc15_3).trans ((if_neg hc21_4).trans ((if_neg hc27_5).trans ((if_neg hc33_6).trans ((if_neg hc39_7).trans ((if_neg hc45_8).trans ((if_neg hc51_9).trans ((if_neg hc57_10).trans ((if_neg hc63_11).trans ((if_neg hc69_12).trans ((if_neg hc75_13).trans ((if_neg hc81_14).trans ((if_neg hc87_15).trans ((if_neg hc93_16).trans ((if_neg hc100_17).trans ((if_neg hc107_18).trans ((if_neg hc114_19).trans ((if_pos hc121_26).trans ((if_neg hc128_27).trans ((if_neg hc135_28).trans ((if_neg hc142_29).trans ((if_neg hc149_30).trans ((if_neg hc156_31).trans (if_pos hc163_32))))))))))))))))))))))))))], N0, e0⟩
                                                    · refine own_go (fun _ kk' => XS.icmpNo X0.here hx rfl (hb hby own_d2_163) rfl (flt (hc163_32 : ¬ ((630 : Int32) < t))).2.2.1 kk') ?_
                                                      show own_Go p e below K T0 (mkF m 166 #[.val (.int t)] [])
                                                      refine own_go (fun _ kk' => XS.iconst X0.here hx rfl (hb hby own_d2_166) kk') ?_
                                                      show own_Go p e below K T0 (mkF m 167 #[.val (.int t)] [(.int (1 : Int32))])
                                                      refine own_go (fun _ kk' => XS.goto X0.here hx rfl (pc0 := 167) (pc' := 171) rfl (hb hby own_d2_167) (by decide) (by decide) kk') ?_
                                                      show own_Go p e below K T0 (mkF m 171 #[.val (.int t)] [(.int (1 : Int32))])
                                                      exact own_retZ X0 hx hlk hK hret (by decide) (hb hby own_d2_171) (by decide) (by decide) ⟨by rw [show own_hdr t = (1 : Int32) from ((if_neg hc3_1).trans ((if_neg hc9_2).trans ((if_neg hc15_3).trans ((if_neg hc21_4).trans ((if_neg hc27_5).trans ((if_neg hc33_6).trans ((if_neg hc39_7).trans ((if_neg hc45_8).trans ((if_neg hc51_9).trans ((if_neg hc57_10).trans ((if_neg hc63_11).trans ((if_neg hc69_12).trans ((if_neg hc75_13).trans ((if_neg hc81_14).trans ((if_neg hc87_15).trans ((if_neg hc93_16).trans ((if_neg hc100_17).trans ((if_neg hc107_18).trans ((if_neg hc114_19).trans ((if_pos hc121_26).trans ((if_neg hc128_27).trans ((if_neg hc135_28).trans ((if_neg hc142_29).trans ((if_neg hc149_30).trans ((if_neg hc156_31).trans (if_neg hc163_32))))))))))))))))))))))))))], N0, e0⟩
                                        · refine own_go (fun _ kk' => XS.icmpYes X0.here hx rfl (pc0 := 121) (pc' := 166) rfl (hb hby own_d2_121) rfl (flt (hc121_26 : ¬ ((145 : Int32) < t))).2.2.2 (by decide) (by decide) kk') ?_
                                          show own_Go p e below K T0 (mkF m 166 #[.val (.int t)] [])
                                          refine own_go (fun _ kk' => XS.iconst X0.here hx rfl (hb hby own_d2_166) kk') ?_
                                          show own_Go p e below K T0 (mkF m 167 #[.val (.int t)] [(.int (1 : Int32))])
                                          refine own_go (fun _ kk' => XS.goto X0.here hx rfl (pc0 := 167) (pc' := 171) rfl (hb hby own_d2_167) (by decide) (by decide) kk') ?_
                                          show own_Go p e below K T0 (mkF m 171 #[.val (.int t)] [(.int (1 : Int32))])
                                          exact own_retZ X0 hx hlk hK hret (by decide) (hb hby own_d2_171) (by decide) (by decide) ⟨by rw [show own_hdr t = (1 : Int32) from ((if_neg hc3_1).trans ((if_neg hc9_2).trans ((if_neg hc15_3).trans ((if_neg hc21_4).trans ((if_neg hc27_5).trans ((if_neg hc33_6).trans ((if_neg hc39_7).trans ((if_neg hc45_8).trans ((if_neg hc51_9).trans ((if_neg hc57_10).trans ((if_neg hc63_11).trans ((if_neg hc69_12).trans ((if_neg hc75_13).trans ((if_neg hc81_14).trans ((if_neg hc87_15).trans ((if_neg hc93_16).trans ((if_neg hc100_17).trans ((if_neg hc107_18).trans ((if_neg hc114_19).trans (if_neg hc121_26))))))))))))))))))))], N0, e0⟩
def own_Qi (cl : Cell) (t : Int32) (h0 : Heap) (n0 : Nat) (v : Option Value) (h : Heap) (L : List Loc) : Prop := v = some (.int (own_isH cl t)) ∧ Fr n0 L ∧ h = h0
abbrev own_rmi : Room := { frames := 0, cells := 0, slots := 0, locals := 0 }
set_option maxRecDepth 65536 in
set_option maxHeartbeats 40000000 in
theorem own_mi (l : Launch) (Z : State) (a0 : Array Value) (hw : ∀ d ∈ tables_1, d.before a0 Z = true) (t : Int32) (a : Addr) (cl : Cell) (h0 : Heap) (n0 : Nat) (Z0 : n0 ≤ h0.size) (S1 : Sta Z h0 "com/example/tidewire/tidewire/fix/Tags" "IS_HEADER" "[Z" (.ref a)) (Tb : Tab Z h0 a cl .boolean (1024 : Int32)) (ht : ¬ t < 0) :
    own_Met l Z (⟨"com/example/tidewire/tidewire/fix/Tags", "isHeader", "(I)Z"⟩ : MethodName) prog_10_method_2_code 1 (some .boolean) [] own_rmi #[(.int t)] h0 (own_Qi cl t h0 n0) := by
  refine own_body (plainFor_of_name (by first | (simp [plainName, overriddenIn]; done) | decide +kernel)) (g := fun m => mkF m 0 #[.val (.int t)] []) (fun m => by first | (simp [entryFrame, mkF, argsToLocals, Value.category]; done) | rfl) ?_
  intro p e s m A below meth c T0 K X0 hx hby hml hown hnm hret hlk hZ e0 hK
  have N0 := Fr.nil n0
  show own_Go p e below K T0 (mkF m 0 #[.val (.int t)] [])
  refine own_go (fun _ kk' => XS.iloadN X0.here hx rfl (hb hby own_d1_0) rfl  kk') ?_
  show own_Go p e below K T0 (mkF m 1 #[.val (.int t)] [(.int t)])
  refine own_go (fun _ kk' => XS.sipush X0.here hx rfl (hb hby own_d1_1) kk') ?_
  show own_Go p e below K T0 (mkF m 4 #[.val (.int t)] [(.int (1024 : Int32)), (.int t)])
  by_cases hc4_33 : t < (1024 : Int32)
  · refine own_go (fun _ kk' => XS.icmpNo X0.here hx rfl (hb hby own_d1_4) rfl (tlt (hc4_33 : t < (1024 : Int32))).2.1 kk') ?_
    show own_Go p e below K T0 (mkF m 7 #[.val (.int t)] [])
    obtain ⟨T34, X34, e34, st34⟩ := getS2 X0 hx hZ hown (host := "") (Or.inl (hw _ (List.mem_of_getElem? (i := 5) rfl))) Via.refl e0 S1 (g := (mkF m 7 #[.val (.int t)] [])) rfl (hb hby own_d1_7)
    refine own_go st34 ?_
    show own_Go p e below K T34 (mkF m 10 #[.val (.int t)] [(.ref a)])
    refine own_go (fun _ kk' => XS.iloadN X34.here hx rfl (hb hby own_d1_10) rfl  kk') ?_
    show own_Go p e below K T34 (mkF m 11 #[.val (.int t)] [(.int t), (.ref a)])
    have hin : ¬ (t < 0 ∨ cl.slots.size ≤ t.toNatClampNeg) := inb_of Tb.2.1 ⟨ht, hc4_33⟩
    refine own_go (fun tt' kk' => X34.baloadBooleans hx (j := t) (v := .int (atv cl t)) (by rw [e34]; exact Tb.1.1) (State.isArrayOf_alike hZ.alike Tb.1.2.1) Tb.1.2.2 hin (Tb.2.2.2 t hin) (g := (mkF m 11 #[.val (.int t)] [(.int t), (.ref a)])) rfl rfl (hb hby own_d1_11) tt' kk') ?_
    show own_Go p e below K T34 (mkF m 12 #[.val (.int t)] [(.int (atv cl t))])
    by_cases hc12_35 : (atv cl t) = (0 : Int32)
    · refine own_go (fun _ kk' => XS.ifYes X34.here hx rfl (pc0 := 12) (pc' := 19) rfl (hb hby own_d1_12) rfl ((if0 _ _).trans (teq (hc12_35 : (atv cl t) = (0 : Int32))).1) (by decide) (by decide) kk') ?_
      show own_Go p e below K T34 (mkF m 19 #[.val (.int t)] [])
      refine own_go (fun _ kk' => XS.iconst X34.here hx rfl (hb hby own_d1_19) kk') ?_
      show own_Go p e below K T34 (mkF m 20 #[.val (.int t)] [(.int (0 : Int32))])
      exact own_retZ X34 hx hlk hK hret (by decide) (hb hby own_d1_20) (by decide) (by decide) ⟨by rw [show own_isH cl t = (0 : Int32) from ((if_pos hc4_33).trans (if_pos hc12_35))], N0, e34⟩
    · refine own_go (fun _ kk' => XS.ifNo X34.here hx rfl (hb hby own_d1_12) rfl ((if0 _ _).trans (feq (hc12_35 : ¬ ((atv cl t) = (0 : Int32)))).1) kk') ?_
      show own_Go p e below K T34 (mkF m 15 #[.val (.int t)] [])
      refine own_go (fun _ kk' => XS.iconst X34.here hx rfl (hb hby own_d1_15) kk') ?_
      show own_Go p e below K T34 (mkF m 16 #[.val (.int t)] [(.int (1 : Int32))])
      refine own_go (fun _ kk' => XS.goto X34.here hx rfl (pc0 := 16) (pc' := 20) rfl (hb hby own_d1_16) (by decide) (by decide) kk') ?_
      show own_Go p e below K T34 (mkF m 20 #[.val (.int t)] [(.int (1 : Int32))])
      exact own_retZ X34 hx hlk hK hret (by decide) (hb hby own_d1_20) (by decide) (by decide) ⟨by rw [show own_isH cl t = (1 : Int32) from ((if_pos hc4_33).trans (if_neg hc12_35))], N0, e34⟩
  · refine own_go (fun _ kk' => XS.icmpYes X0.here hx rfl (pc0 := 4) (pc' := 19) rfl (hb hby own_d1_4) rfl (flt (hc4_33 : ¬ (t < (1024 : Int32)))).2.1 (by decide) (by decide) kk') ?_
    show own_Go p e below K T0 (mkF m 19 #[.val (.int t)] [])
    refine own_go (fun _ kk' => XS.iconst X0.here hx rfl (hb hby own_d1_19) kk') ?_
    show own_Go p e below K T0 (mkF m 20 #[.val (.int t)] [(.int (0 : Int32))])
    exact own_retZ X0 hx hlk hK hret (by decide) (hb hby own_d1_20) (by decide) (by decide) ⟨by rw [show own_isH cl t = (0 : Int32) from (if_neg hc4_33)], N0, e0⟩
def own_D0 (t b : Int32) : Prop := ((8 : Int32) ≤ t ∨ b = (0 : Int32)) ∧ (¬ t = (8 : Int32) ∨ b = (1 : Int32)) ∧ (¬ t = (9 : Int32) ∨ b = (1 : Int32)) ∧ (t < (10 : Int32) ∨ ¬ t < (34 : Int32) ∨ b = (0 : Int32)) ∧ (¬ t = (34 : Int32) ∨ b = (1 : Int32)) ∧ (¬ t = (35 : Int32) ∨ b = (1 : Int32))
instance (t b : Int32) : Decidable (own_D0 t b) := by unfold own_D0; infer_instance
def own_D1 (t b : Int32) : Prop := (t < (36 : Int32) ∨ ¬ t < (43 : Int32) ∨ b = (0 : Int32)) ∧ (¬ t = (43 : Int32) ∨ b = (1 : Int32)) ∧ (t < (44 : Int32) ∨ ¬ t < (49 : Int32) ∨ b = (0 : Int32)) ∧ (¬ t = (49 : Int32) ∨ b = (1 : Int32)) ∧ (¬ t = (50 : Int32) ∨ b = (1 : Int32)) ∧ (¬ t = (51 : Int32) ∨ b = (0 : Int32))
instance (t b : Int32) : Decidable (own_D1 t b) := by unfold own_D1; infer_instance
def own_D2 (t b : Int32) : Prop := (¬ t = (52 : Int32) ∨ b = (1 : Int32)) ∧ (¬ t = (53 : Int32) ∨ b = (0 : Int32)) ∧ (¬ t = (54 : Int32) ∨ b = (0 : Int32)) ∧ (¬ t = (55 : Int32) ∨ b = (0 : Int32)) ∧ (¬ t = (56 : Int32) ∨ b = (1 : Int32)) ∧ (¬ t = (57 : Int32) ∨ b = (1 : Int32))
instance (t b : Int32) : Decidable (own_D2 t b) := by unfold own_D2; infer_instance
def own_D3 (t b : Int32) : Prop := (t < (58 : Int32) ∨ ¬ t < (90 : Int32) ∨ b = (0 : Int32)) ∧ (¬ t = (90 : Int32) ∨ b = (1 : Int32)) ∧ (¬ t = (91 : Int32) ∨ b = (1 : Int32)) ∧ (t < (92 : Int32) ∨ ¬ t < (97 : Int32) ∨ b = (0 : Int32)) ∧ (¬ t = (97 : Int32) ∨ b = (1 : Int32)) ∧ (t < (98 : Int32) ∨ ¬ t < (115 : Int32) ∨ b = (0 : Int32))
instance (t b : Int32) : Decidable (own_D3 t b) := by unfold own_D3; infer_instance
def own_D4 (t b : Int32) : Prop := (¬ t = (115 : Int32) ∨ b = (1 : Int32)) ∧ (¬ t = (116 : Int32) ∨ b = (1 : Int32)) ∧ (t < (117 : Int32) ∨ ¬ t < (122 : Int32) ∨ b = (0 : Int32)) ∧ (¬ t = (122 : Int32) ∨ b = (1 : Int32)) ∧ (t < (123 : Int32) ∨ ¬ t < (128 : Int32) ∨ b = (0 : Int32)) ∧ (¬ t = (128 : Int32) ∨ b = (1 : Int32))
instance (t b : Int32) : Decidable (own_D4 t b) := by unfold own_D4; infer_instance
def own_D5 (t b : Int32) : Prop := (¬ t = (129 : Int32) ∨ b = (1 : Int32)) ∧ (t < (130 : Int32) ∨ ¬ t < (142 : Int32) ∨ b = (0 : Int32)) ∧ (t < (142 : Int32) ∨ ¬ t < (146 : Int32) ∨ b = (1 : Int32)) ∧ (t < (146 : Int32) ∨ ¬ t < (212 : Int32) ∨ b = (0 : Int32)) ∧ (¬ t = (212 : Int32) ∨ b = (1 : Int32)) ∧ (¬ t = (213 : Int32) ∨ b = (1 : Int32))
instance (t b : Int32) : Decidable (own_D5 t b) := by unfold own_D5; infer_instance
def own_D6 (t b : Int32) : Prop := (t < (214 : Int32) ∨ ¬ t < (347 : Int32) ∨ b = (0 : Int32)) ∧ (¬ t = (347 : Int32) ∨ b = (1 : Int32)) ∧ (t < (348 : Int32) ∨ ¬ t < (369 : Int32) ∨ b = (0 : Int32)) ∧ (¬ t = (369 : Int32) ∨ b = (1 : Int32)) ∧ (t < (370 : Int32) ∨ ¬ t < (627 : Int32) ∨ b = (0 : Int32)) ∧ (t < (627 : Int32) ∨ ¬ t < (631 : Int32) ∨ b = (1 : Int32))
instance (t b : Int32) : Decidable (own_D6 t b) := by unfold own_D6; infer_instance
def own_D7 (t b : Int32) : Prop := (t < (631 : Int32) ∨ b = (0 : Int32))
instance (t b : Int32) : Decidable (own_D7 t b) := by unfold own_D7; infer_instance
def own_D (t b : Int32) : Prop := own_D0 t b ∧ own_D1 t b ∧ own_D2 t b ∧ own_D3 t b ∧ own_D4 t b ∧ own_D5 t b ∧ own_D6 t b ∧ own_D7 t b
instance (t b : Int32) : Decidable (own_D t b) := by unfold own_D; infer_instance
theorem own_fin : ∀ n : Fin 1024, ∀ b : Fin 2, own_D (Int32.ofNat n.1) (Int32.ofNat b.1) → (if Int32.ofNat b.1 = 0 then (0 : Int32) else 1) = own_hdr (Int32.ofNat n.1) := by decide +kernel
theorem own_plain (t b : Int32) (h0 : ¬ t < 0) (h1 : t < 1024) (hb : b = 0 ∨ b = 1) (H : own_D t b) : (if b = 0 then (0 : Int32) else 1) = own_hdr t := by
  obtain ⟨e1, e2⟩ := back32 h0
  have hlt : t.toNatClampNeg < 1024 := by
    rw [Int32.lt_iff_toInt_lt] at h0 h1
    have z0 : (0 : Int32).toInt = 0 := rfl
    have z1 : (1024 : Int32).toInt = 1024 := rfl
    simp only [Int32.toNatClampNeg]; omega
  have ht : Int32.ofNat t.toNatClampNeg = t := e1
  rcases hb with rfl | rfl
  · have := own_fin ⟨t.toNatClampNeg, hlt⟩ ⟨0, by decide⟩
    simp only [ht] at this
    exact this H
  · have := own_fin ⟨t.toNatClampNeg, hlt⟩ ⟨1, by decide⟩
    simp only [ht] at this
    exact this H
theorem own_big (t : Int32) (h1 : ¬ t < 1024) : own_hdr t = 0 := by
  have n1 : ∀ k : Int32, k < 1024 → ¬ t = k := fun k hk e => h1 (e ▸ hk)
  have l1 : ¬ t < 142 := fun q => h1 (by rw [Int32.lt_iff_toInt_lt] at *; have : (142 : Int32).toInt = 142 := rfl; have : (1024 : Int32).toInt = 1024 := rfl; omega)
  have l2 : (145 : Int32) < t := by rw [Int32.lt_iff_toInt_lt] at *; have : (145 : Int32).toInt = 145 := rfl; have : (1024 : Int32).toInt = 1024 := rfl; omega
  have l3 : ¬ t < 627 := fun q => h1 (by rw [Int32.lt_iff_toInt_lt] at *; have : (627 : Int32).toInt = 627 := rfl; have : (1024 : Int32).toInt = 1024 := rfl; omega)
  have l4 : (630 : Int32) < t := by rw [Int32.lt_iff_toInt_lt] at *; have : (630 : Int32).toInt = 630 := rfl; have : (1024 : Int32).toInt = 1024 := rfl; omega
  simp only [own_hdr, own_hdr2, l1, l2, l3, l4, if_true, if_false, n1 8 (by decide), n1 9 (by decide), n1 34 (by decide), n1 35 (by decide), n1 43 (by decide), n1 49 (by decide), n1 50 (by decide), n1 52 (by decide), n1 56 (by decide), n1 57 (by decide), n1 90 (by decide), n1 91 (by decide), n1 97 (by decide), n1 115 (by decide), n1 116 (by decide), n1 122 (by decide), n1 128 (by decide), n1 129 (by decide), n1 212 (by decide), n1 213 (by decide), n1 347 (by decide), n1 369 (by decide)]
theorem own_el {args : Array Value} {s : State} {a : Addr} {cl : Cell} {j : Int32} {t : Jvm.Term} {idx : List Nat} (ev : ∀ idx, t.eval args s none idx s = some (.ref a)) (hat : s.arrayAt? a = some cl) (Tb : Tab s s.heap a cl .boolean (1024 : Int32)) (h0 : ¬ j < 0) (h1 : j < 1024) :
    (Jvm.Term.elem t (.int j)).eval args s none idx s = some (.int (atv cl j)) :=
  (elem_f (ev idx) (Term.int_eval _) hat h0).trans (Tb.2.2.2 j (inb_of Tb.2.1 ⟨h0, h1⟩))
theorem own_same (cl : Cell) (t : Int32) (h0 : ¬ t < 0) (hb : t < 1024 → atv cl t = 0 ∨ atv cl t = 1) (H : t < 1024 → own_D t (atv cl t)) : own_isH cl t = own_hdr t := by
  by_cases h1 : t < 1024
  · rw [own_isH, if_pos h1]; exact own_plain t _ h0 h1 (hb h1) (H h1)
  · rw [own_isH, if_neg h1, own_big t h1]
def own_Q (n0 : Nat) (v : Option Value) (h : Heap) (L : List Loc) : Prop := v = some (.int 1) ∧ Fr n0 L
theorem own_nn (x m : Int32) (h : 0 ≤ m.toInt) : ¬ x &&& m < 0 := by
  have := (c_and x m h).1
  rw [Int32.lt_iff_toInt_lt]; have : (0 : Int32).toInt = 0 := rfl; omega
theorem own_pd0 : parseMethodDescriptor "(I)Z" = some ⟨[.int], some .boolean⟩ := by decide +kernel
/- the law needs frames 1, cells 0, slots 0, locals 13 -/
set_option maxRecDepth 65536 in
set_option maxHeartbeats 40000000 in
theorem own_law (l : Launch) (Z : State) (a0 : Array Value) (hw : ∀ d ∈ tables_1, d.before a0 Z = true) (x0 sel : Int32) (a : Addr) (cl : Cell) (h0 : Heap) (n0 : Nat) (Z0 : n0 ≤ h0.size) (S1 : Sta Z h0 "com/example/tidewire/tidewire/fix/Tags" "IS_HEADER" "[Z" (.ref a)) (Tb : Tab Z h0 a cl .boolean (1024 : Int32)) (hbt : ∀ t : Int32, ¬ t < 0 → t < 1024 → atv cl t = 0 ∨ atv cl t = 1) (HD : ∀ t : Int32, ¬ t < 0 → t < 1024 → own_D t (atv cl t)) :
    own_Met l Z x code maxLocals ret tables_1 room_1 #[(.int x0), (.int sel)] h0 (own_Q n0) := by
  refine own_body (plainFor_of_name (by first | (simp [plainName, overriddenIn]; done) | decide +kernel)) (g := fun m => mkF m 0 #[.val (.int x0), .val (.int sel), .unset] []) (fun m => by first | (simp [entryFrame, mkF, argsToLocals, Value.category, maxLocals]; done) | rfl) ?_
  intro p e s m A below meth c T0 K X0 hx hby hml hown hnm hret hlk hZ e0 hK
  have N0 := Fr.nil n0
  show own_Go p e below K T0 (mkF m 0 #[.val (.int x0), .val (.int sel), .unset] [])
  have j18 : ∀ tag : Int32, ¬ tag < 0 → own_Go p e below K T0 (mkF m 18 #[.val (.int x0), .val (.int sel), .unset] [(.int tag)]) := by
    intro tag htag
    refine own_go (fun _ kk' => XS.istoreN X0.here hx rfl (hb hby at_18) rfl (l' := #[.val (.int x0), .val (.int sel), .val (.int tag)]) rfl kk') ?_
    show own_Go p e below K T0 (mkF m 19 #[.val (.int x0), .val (.int sel), .val (.int tag)] [])
    refine own_go (fun _ kk' => XS.iloadN X0.here hx rfl (hb hby at_19) rfl  kk') ?_
    show own_Go p e below K T0 (mkF m 20 #[.val (.int x0), .val (.int sel), .val (.int tag)] [(.int tag)])
    refine own_callS X0 hx hZ (y := (⟨"com/example/tidewire/tidewire/fix/Tags", "isHeader", "(I)Z"⟩ : MethodName)) hown (hw _ (List.mem_of_getElem? (i := 1) rfl)) (hw _ (List.mem_of_getElem? (i := 2) rfl)) (hw _ (List.mem_of_getElem? (i := 3) rfl)) (hw _ (List.mem_of_getElem? (i := 4) rfl)) (by decide) e0 (rm := own_rmi) (argsL := [(.int tag)]) (rest := []) (own_mi l Z a0 hw tag a cl h0 n0 Z0 S1 Tb htag) (W := 0) (by decide) (by decide) (by decide) (by decide) (g := (mkF m 20 #[.val (.int x0), .val (.int sel), .val (.int tag)] [(.int tag)])) rfl (by rw [hml]; rfl) (lenOf own_pd0 rfl) rfl (by show 2 * 0 + _ ≤ _; exact Nat.le_of_eq rfl) (hb hby at_20) ?_
    intro v36 T36 L36 X36 hQ36
    obtain ⟨rfl, Nq36, e36⟩ := hQ36
    have N36 := Fr.app N0 Nq36
    show own_Go p e below K T36 (mkF m 23 #[.val (.int x0), .val (.int sel), .val (.int tag)] [(.int (own_isH cl tag))])
    refine own_go (fun _ kk' => XS.iloadN X36.here hx rfl (hb hby at_23) rfl  kk') ?_
    show own_Go p e below K T36 (mkF m 24 #[.val (.int x0), .val (.int sel), .val (.int tag)] [(.int tag), (.int (own_isH cl tag))])
    refine own_callS X36 hx hZ (y := (⟨"com/example/tidewire/tidewire/fix/TagsIsHeaderPinLaw", "header", "(I)Z"⟩ : MethodName)) hown (hw _ (List.mem_of_getElem? (i := 7) rfl)) (hw _ (List.mem_of_getElem? (i := 8) rfl)) (hw _ (List.mem_of_getElem? (i := 9) rfl)) (hw _ (List.mem_of_getElem? (i := 10) rfl)) (by decide) e36 (rm := own_rmh) (argsL := [(.int tag)]) (rest := [(.int (own_isH cl tag))]) (own_mh l Z a0 hw tag h0 n0 Z0) (W := 1) (by decide) (by decide) (by decide) (by decide) (g := (mkF m 24 #[.val (.int x0), .val (.int sel), .val (.int tag)] [(.int tag), (.int (own_isH cl tag))])) rfl (by rw [hml]; rfl) (lenOf own_pd0 rfl) rfl (by show 2 * 0 + _ ≤ _; exact Nat.le_of_eq rfl) (hb hby at_24) ?_
    intro v37 T37 L37 X37 hQ37
    obtain ⟨rfl, Nq37, e37⟩ := hQ37
    have N37 := Fr.app N36 Nq37
    show own_Go p e below K T37 (mkF m 27 #[.val (.int x0), .val (.int sel), .val (.int tag)] [(.int (own_hdr tag)), (.int (own_isH cl tag))])
    refine own_go (fun _ kk' => XS.icmpNo X37.here hx rfl (hb hby at_27) rfl (teq ((own_same cl tag htag (hbt tag htag) (HD tag htag)) : (own_isH cl tag) = (own_hdr tag))).2 kk') ?_
    show own_Go p e below K T37 (mkF m 30 #[.val (.int x0), .val (.int sel), .val (.int tag)] [])
    refine own_go (fun _ kk' => XS.iconst X37.here hx rfl (hb hby at_30) kk') ?_
    show own_Go p e below K T37 (mkF m 31 #[.val (.int x0), .val (.int sel), .val (.int tag)] [(.int (1 : Int32))])
    refine own_go (fun _ kk' => XS.goto X37.here hx rfl (pc0 := 31) (pc' := 35) rfl (hb hby at_31) (by decide) (by decide) kk') ?_
    show own_Go p e below K T37 (mkF m 35 #[.val (.int x0), .val (.int sel), .val (.int tag)] [(.int (1 : Int32))])
    exact own_retZ X37 hx hlk hK hret (by decide) (hb hby at_35) (by decide) (by decide) ⟨rfl, N37⟩
  refine own_go (fun _ kk' => XS.iloadN X0.here hx rfl (hb hby at_0) rfl  kk') ?_
  show own_Go p e below K T0 (mkF m 1 #[.val (.int x0), .val (.int sel), .unset] [(.int sel)])
  refine own_go (fun _ kk' => XS.iconst X0.here hx rfl (hb hby at_1) kk') ?_
  show own_Go p e below K T0 (mkF m 2 #[.val (.int x0), .val (.int sel), .unset] [(.int (1 : Int32)), (.int sel)])
  refine own_go (fun _ kk' => XS.iand X0.here hx rfl (hb hby at_2) rfl kk') ?_
  show own_Go p e below K T0 (mkF m 3 #[.val (.int x0), .val (.int sel), .unset] [(.int (sel &&& (1 : Int32)))])
  by_cases hc3_38 : (sel &&& (1 : Int32)) = (0 : Int32)
  · refine own_go (fun _ kk' => XS.ifNo X0.here hx rfl (hb hby at_3) rfl ((if0 _ _).trans (teq (hc3_38 : (sel &&& (1 : Int32)) = (0 : Int32))).2) kk') ?_
    show own_Go p e below K T0 (mkF m 6 #[.val (.int x0), .val (.int sel), .unset] [])
    refine own_go (fun _ kk' => XS.iloadN X0.here hx rfl (hb hby at_6) rfl  kk') ?_
    show own_Go p e below K T0 (mkF m 7 #[.val (.int x0), .val (.int sel), .unset] [(.int x0)])
    refine own_go (fun _ kk' => XS.sipush X0.here hx rfl (hb hby at_7) kk') ?_
    show own_Go p e below K T0 (mkF m 10 #[.val (.int x0), .val (.int sel), .unset] [(.int (1023 : Int32)), (.int x0)])
    refine own_go (fun _ kk' => XS.iand X0.here hx rfl (hb hby at_10) rfl kk') ?_
    show own_Go p e below K T0 (mkF m 11 #[.val (.int x0), .val (.int sel), .unset] [(.int (x0 &&& (1023 : Int32)))])
    refine own_go (fun _ kk' => XS.goto X0.here hx rfl (pc0 := 11) (pc' := 18) rfl (hb hby at_11) (by decide) (by decide) kk') ?_
    show own_Go p e below K T0 (mkF m 18 #[.val (.int x0), .val (.int sel), .unset] [(.int (x0 &&& (1023 : Int32)))])
    exact j18 _ (own_nn _ _ (by decide))
  · refine own_go (fun _ kk' => XS.ifYes X0.here hx rfl (pc0 := 3) (pc' := 14) rfl (hb hby at_3) rfl ((if0 _ _).trans (feq (hc3_38 : ¬ ((sel &&& (1 : Int32)) = (0 : Int32)))).2) (by decide) (by decide) kk') ?_
    show own_Go p e below K T0 (mkF m 14 #[.val (.int x0), .val (.int sel), .unset] [])
    refine own_go (fun _ kk' => XS.iloadN X0.here hx rfl (hb hby at_14) rfl  kk') ?_
    show own_Go p e below K T0 (mkF m 15 #[.val (.int x0), .val (.int sel), .unset] [(.int x0)])
    refine own_go (fun tt' kk' => X0.ldcInt hx hown (mvT hZ (hw _ (List.mem_of_getElem? (i := 0) rfl))) (g := (mkF m 15 #[.val (.int x0), .val (.int sel), .unset] [(.int x0)])) rfl (hb hby at_15) tt' kk') ?_
    show own_Go p e below K T0 (mkF m 17 #[.val (.int x0), .val (.int sel), .unset] [(.int (2147483647 : Int32)), (.int x0)])
    refine own_go (fun _ kk' => XS.iand X0.here hx rfl (hb hby at_17) rfl kk') ?_
    show own_Go p e below K T0 (mkF m 18 #[.val (.int x0), .val (.int sel), .unset] [(.int (x0 &&& (2147483647 : Int32)))])
    exact j18 _ (own_nn _ _ (by decide))
theorem own_bit {x : Int32} (h : fits .boolean (.int x) = true) : x = 0 ∨ x = 1 := by
  simpa [fits] using h
theorem own_len {args : Array Value} {s : State} {a : Addr} {cl : Cell} {t : Jvm.Term} {z : Int32} (ev : t.eval args s none [] s = some (.ref a)) (hat : s.arrayAt? a = some cl) (h : (Jvm.Cond.eq (.length t) (.int z)).value args s none s [] = some true) : cl.slots.size < 2 ^ 31 ∧ cl.slots.size.toInt32 = z := by
  by_cases q : cl.slots.size < 2 ^ 31
  · exact ⟨q, gotT (Cond.eq_ints (len_f ev hat q) (Term.int_eval _)) h⟩
  · exfalso
    have : (Jvm.Term.length t).eval args s none [] s = none := by simp [Term.eval, ev, hat, q]
    simp [Cond.value, this] at h
set_option maxRecDepth 65536 in
set_option maxHeartbeats 40000000 in
theorem own_comes {Post : Tables → Env → Array Value → State → Outcome → State → Prop} (hpost : ∀ tb e args s v u, (limb_1_1.after args s (.returned v) u = true ∧ limb_1_2.after args s (.returned v) u = true ∧ True) → FrameEnd s (.returned v) u (Jvm.fieldLocs frame_1_writes args s ++ Jvm.arrayLocs frame_1_arrays args s ++ Jvm.staticLocs frame_1_statics s) 0 0 → Post tb e args s (.returned v) u) :
    ArmFor flags0 classFile x code maxLocals ret World_1 tables_1 room_1 Calls_1 rest_1 Pre_1 Post := by
  intro l hfl _ _ p e ha hc hk s m args below hf hA hF happ hP
  obtain ⟨hcalls, hrest, hpre⟩ := hP
  obtain ⟨-, -, -, hnamed, -, -, -, hat⟩ := (Spec.applies_iff hf).mp happ
  obtain ⟨hg, hn⟩ := and_e (Cond.before_iff.mp (show (Jvm.Cond.and given_1 narrow_1).before args s = true from hpre))
  obtain ⟨hcnt, hg0⟩ := and_e hg
  obtain ⟨hi0, hg1⟩ := and_e hg0
  have hi1 := hg1
  obtain ⟨w0, w1, rfl⟩ : ∃ w0 w1 : Value, args = #[w0, w1] := by
    have hs : args.size = 2 := by simpa [Cond.value, given_1] using hcnt
    obtain ⟨L⟩ := args
    match L, hs with
    | [w0, w1], _ => exact ⟨w0, w1, rfl⟩
  have hw := fun d (hd : d ∈ tables_1) => atoms_spec (ws := Jvm.Cond.code x code maxLocals ret :: tables_1) hat d (List.mem_cons_of_mem _ hd)
  have hfit : Fit s := fun {y c} hc i hi => by
    obtain ⟨ha, rfl⟩ := Array.getElem?_eq_some_iff.mp hc
    have q := List.all_eq_true.mp ((Array.all_eq_true_iff_forall_mem.mp hF) _ (Array.getElem_mem ha)) i (List.mem_range.mpr hi)
    simpa [Array.getElem?_eq_getElem hi] using q
  obtain ⟨x0, ei0⟩ := is_v hi0
  obtain rfl : w0 = (.int x0) := Option.some.inj ei0
  obtain ⟨sel, ei1⟩ := is_v hi1
  obtain rfl : w1 = (.int sel) := Option.some.inj ei1
  obtain ⟨hn0, hr0⟩ := and_e (show narrow_1.value _ s none s [] = some true from hn)
  obtain ⟨hn1, hr1⟩ := and_e hr0
  obtain ⟨hn2, hr2⟩ := and_e hr1
  obtain ⟨hn3, hr3⟩ := and_e hr2
  obtain ⟨hn4, hr4⟩ := and_e hr3
  obtain ⟨hn5, hr5⟩ := and_e hr4
  obtain ⟨hn6, hr6⟩ := and_e hr5
  obtain ⟨hn7, hr7⟩ := and_e hr6
  obtain ⟨hn8, hr8⟩ := and_e hr7
  obtain ⟨hn9, hr9⟩ := and_e hr8
  obtain ⟨hn10, hr10⟩ := and_e hr9
  obtain ⟨hn11, hr11⟩ := and_e hr10
  obtain ⟨hn12, hr12⟩ := and_e hr11
  obtain ⟨hn13, hr13⟩ := and_e hr12
  obtain ⟨hn14, hr14⟩ := and_e hr13
  obtain ⟨hn15, hr15⟩ := and_e hr14
  obtain ⟨hn16, hr16⟩ := and_e hr15
  obtain ⟨hn17, hr17⟩ := and_e hr16
  obtain ⟨hn18, hr18⟩ := and_e hr17
  obtain ⟨hn19, hr19⟩ := and_e hr18
  obtain ⟨hn20, hr20⟩ := and_e hr19
  obtain ⟨hn21, hr21⟩ := and_e hr20
  obtain ⟨hn22, hr22⟩ := and_e hr21
  obtain ⟨hn23, hr23⟩ := and_e hr22
  obtain ⟨hn24, hr24⟩ := and_e hr23
  obtain ⟨hn25, hr25⟩ := and_e hr24
  obtain ⟨hn26, hr26⟩ := and_e hr25
  obtain ⟨hn27, hr27⟩ := and_e hr26
  obtain ⟨hn28, hr28⟩ := and_e hr27
  obtain ⟨hn29, hr29⟩ := and_e hr28
  obtain ⟨hn30, hr30⟩ := and_e hr29
  obtain ⟨hn31, hr31⟩ := and_e hr30
  obtain ⟨hn32, hr32⟩ := and_e hr31
  obtain ⟨hn33, hr33⟩ := and_e hr32
  obtain ⟨hn34, hr34⟩ := and_e hr33
  obtain ⟨hn35, hr35⟩ := and_e hr34
  obtain ⟨hn36, hr36⟩ := and_e hr35
  obtain ⟨hn37, hr37⟩ := and_e hr36
  obtain ⟨hn38, hr38⟩ := and_e hr37
  obtain ⟨hn39, hr39⟩ := and_e hr38
  obtain ⟨hn40, hr40⟩ := and_e hr39
  obtain ⟨hn41, hr41⟩ := and_e hr40
  obtain ⟨hn42, hr42⟩ := and_e hr41
  obtain ⟨hn43, hr43⟩ := and_e hr42
  have hn44 := hr43
  obtain ⟨a, ev0⟩ := arr_v hn0
  have ev : ∀ idx, ((Jvm.Term.static "com/example/tidewire/tidewire/fix/Tags" "IS_HEADER" "[Z") : Jvm.Term).eval #[.int x0, .int sel] s none idx s = some (.ref a) := fun idx => ev0
  obtain ⟨cl, Ar⟩ := Arr.start ev0 hn0
  have hat' : s.arrayAt? a = some cl := Arr.fin (Vm.Alike.refl _) Ar
  have S1 : Sta s s.heap "com/example/tidewire/tidewire/fix/Tags" "IS_HEADER" "[Z" (.ref a) := Sta.start ev0 (Or.inr ⟨(hw _ (List.mem_of_getElem? (i := 3) rfl)), (hw _ (List.mem_of_getElem? (i := 6) rfl))⟩)
  obtain ⟨hsz, hle⟩ := own_len ev0 hat' hn1
  have Tb : Tab s s.heap a cl .boolean (1024 : Int32) := Tab.start hfit Ar (Or.inr (Or.inl rfl)) hsz hle (by decide)
  have hbt : ∀ t : Int32, ¬ t < 0 → t < 1024 → atv cl t = 0 ∨ atv cl t = 1 := fun t h0 h1 => own_bit (elem_fits hfit Ar (inb_of Tb.2.1 ⟨h0, h1⟩) (Tb.2.2.2 t (inb_of Tb.2.1 ⟨h0, h1⟩)))
  have HD : ∀ t : Int32, ¬ t < 0 → t < 1024 → own_D t (atv cl t) := by
    intro t h0 h1
    have hlt : t.toNatClampNeg < cl.slots.size := Nat.lt_of_not_le fun q => inb_of Tb.2.1 ⟨h0, h1⟩ (Or.inr q)
    have ix : (Jvm.Term.index 0).eval #[.int x0, .int sel] s none [t.toNatClampNeg] s = some (.int t) := idx_at h0
    have elx : (Jvm.Term.elem (Jvm.Term.static "com/example/tidewire/tidewire/fix/Tags" "IS_HEADER" "[Z") (.index 0)).eval #[.int x0, .int sel] s none [t.toNatClampNeg] s = some (.int (atv cl t)) := (elem_f (ev _) ix hat' h0).trans (Tb.2.2.2 t (inb_of Tb.2.1 ⟨h0, h1⟩))
    exact ⟨⟨or_e2 (Cond.le_ints (Term.int_eval _) ix) (Cond.eq_ints elx (Term.int_eval _)) (Cond.all_elim (ev _) hat' hn2 t.toNatClampNeg hlt),
    one_at (gotT (Cond.eq_ints (own_el ev hat' Tb (by decide) (by decide)) (Term.int_eval _)) hn3) t,
    one_at (gotT (Cond.eq_ints (own_el ev hat' Tb (by decide) (by decide)) (Term.int_eval _)) hn4) t,
    or3 (Cond.all_elim (ev _) hat' hn5 t.toNatClampNeg hlt) (Cond.lt_ints ix (Term.int_eval _)) (Cond.le_ints (Term.int_eval _) ix) (Cond.eq_ints elx (Term.int_eval _)),
    one_at (gotT (Cond.eq_ints (own_el ev hat' Tb (by decide) (by decide)) (Term.int_eval _)) hn6) t,
    one_at (gotT (Cond.eq_ints (own_el ev hat' Tb (by decide) (by decide)) (Term.int_eval _)) hn7) t⟩, ⟨or3 (Cond.all_elim (ev _) hat' hn8 t.toNatClampNeg hlt) (Cond.lt_ints ix (Term.int_eval _)) (Cond.le_ints (Term.int_eval _) ix) (Cond.eq_ints elx (Term.int_eval _)),
    one_at (gotT (Cond.eq_ints (own_el ev hat' Tb (by decide) (by decide)) (Term.int_eval _)) hn9) t,
    or3 (Cond.all_elim (ev _) hat' hn10 t.toNatClampNeg hlt) (Cond.lt_ints ix (Term.int_eval _)) (Cond.le_ints (Term.int_eval _) ix) (Cond.eq_ints elx (Term.int_eval _)),
    one_at (gotT (Cond.eq_ints (own_el ev hat' Tb (by decide) (by decide)) (Term.int_eval _)) hn11) t,
    one_at (gotT (Cond.eq_ints (own_el ev hat' Tb (by decide) (by decide)) (Term.int_eval _)) hn12) t,
    one_at (gotT (Cond.eq_ints (own_el ev hat' Tb (by decide) (by decide)) (Term.int_eval _)) hn13) t⟩, ⟨one_at (gotT (Cond.eq_ints (own_el ev hat' Tb (by decide) (by decide)) (Term.int_eval _)) hn14) t,
    one_at (gotT (Cond.eq_ints (own_el ev hat' Tb (by decide) (by decide)) (Term.int_eval _)) hn15) t,
    one_at (gotT (Cond.eq_ints (own_el ev hat' Tb (by decide) (by decide)) (Term.int_eval _)) hn16) t,
    one_at (gotT (Cond.eq_ints (own_el ev hat' Tb (by decide) (by decide)) (Term.int_eval _)) hn17) t,
    one_at (gotT (Cond.eq_ints (own_el ev hat' Tb (by decide) (by decide)) (Term.int_eval _)) hn18) t,
    one_at (gotT (Cond.eq_ints (own_el ev hat' Tb (by decide) (by decide)) (Term.int_eval _)) hn19) t⟩, ⟨or3 (Cond.all_elim (ev _) hat' hn20 t.toNatClampNeg hlt) (Cond.lt_ints ix (Term.int_eval _)) (Cond.le_ints (Term.int_eval _) ix) (Cond.eq_ints elx (Term.int_eval _)),
    one_at (gotT (Cond.eq_ints (own_el ev hat' Tb (by decide) (by decide)) (Term.int_eval _)) hn21) t,
    one_at (gotT (Cond.eq_ints (own_el ev hat' Tb (by decide) (by decide)) (Term.int_eval _)) hn22) t,
    or3 (Cond.all_elim (ev _) hat' hn23 t.toNatClampNeg hlt) (Cond.lt_ints ix (Term.int_eval _)) (Cond.le_ints (Term.int_eval _) ix) (Cond.eq_ints elx (Term.int_eval _)),
    one_at (gotT (Cond.eq_ints (own_el ev hat' Tb (by decide) (by decide)) (Term.int_eval _)) hn24) t,
    or3 (Cond.all_elim (ev _) hat' hn25 t.toNatClampNeg hlt) (Cond.lt_ints ix (Term.int_eval _)) (Cond.le_ints (Term.int_eval _) ix) (Cond.eq_ints elx (Term.int_eval _))⟩, ⟨one_at (gotT (Cond.eq_ints (own_el ev hat' Tb (by decide) (by decide)) (Term.int_eval _)) hn26) t,
    one_at (gotT (Cond.eq_ints (own_el ev hat' Tb (by decide) (by decide)) (Term.int_eval _)) hn27) t,
    or3 (Cond.all_elim (ev _) hat' hn28 t.toNatClampNeg hlt) (Cond.lt_ints ix (Term.int_eval _)) (Cond.le_ints (Term.int_eval _) ix) (Cond.eq_ints elx (Term.int_eval _)),
    one_at (gotT (Cond.eq_ints (own_el ev hat' Tb (by decide) (by decide)) (Term.int_eval _)) hn29) t,
    or3 (Cond.all_elim (ev _) hat' hn30 t.toNatClampNeg hlt) (Cond.lt_ints ix (Term.int_eval _)) (Cond.le_ints (Term.int_eval _) ix) (Cond.eq_ints elx (Term.int_eval _)),
    one_at (gotT (Cond.eq_ints (own_el ev hat' Tb (by decide) (by decide)) (Term.int_eval _)) hn31) t⟩, ⟨one_at (gotT (Cond.eq_ints (own_el ev hat' Tb (by decide) (by decide)) (Term.int_eval _)) hn32) t,
    or3 (Cond.all_elim (ev _) hat' hn33 t.toNatClampNeg hlt) (Cond.lt_ints ix (Term.int_eval _)) (Cond.le_ints (Term.int_eval _) ix) (Cond.eq_ints elx (Term.int_eval _)),
    or3 (Cond.all_elim (ev _) hat' hn34 t.toNatClampNeg hlt) (Cond.lt_ints ix (Term.int_eval _)) (Cond.le_ints (Term.int_eval _) ix) (Cond.eq_ints elx (Term.int_eval _)),
    or3 (Cond.all_elim (ev _) hat' hn35 t.toNatClampNeg hlt) (Cond.lt_ints ix (Term.int_eval _)) (Cond.le_ints (Term.int_eval _) ix) (Cond.eq_ints elx (Term.int_eval _)),
    one_at (gotT (Cond.eq_ints (own_el ev hat' Tb (by decide) (by decide)) (Term.int_eval _)) hn36) t,
    one_at (gotT (Cond.eq_ints (own_el ev hat' Tb (by decide) (by decide)) (Term.int_eval _)) hn37) t⟩, ⟨or3 (Cond.all_elim (ev _) hat' hn38 t.toNatClampNeg hlt) (Cond.lt_ints ix (Term.int_eval _)) (Cond.le_ints (Term.int_eval _) ix) (Cond.eq_ints elx (Term.int_eval _)),
    one_at (gotT (Cond.eq_ints (own_el ev hat' Tb (by decide) (by decide)) (Term.int_eval _)) hn39) t,
    or3 (Cond.all_elim (ev _) hat' hn40 t.toNatClampNeg hlt) (Cond.lt_ints ix (Term.int_eval _)) (Cond.le_ints (Term.int_eval _) ix) (Cond.eq_ints elx (Term.int_eval _)),
    one_at (gotT (Cond.eq_ints (own_el ev hat' Tb (by decide) (by decide)) (Term.int_eval _)) hn41) t,
    or3 (Cond.all_elim (ev _) hat' hn42 t.toNatClampNeg hlt) (Cond.lt_ints ix (Term.int_eval _)) (Cond.le_ints (Term.int_eval _) ix) (Cond.eq_ints elx (Term.int_eval _)),
    or3 (Cond.all_elim (ev _) hat' hn43 t.toNatClampNeg hlt) (Cond.lt_ints ix (Term.int_eval _)) (Cond.le_ints (Term.int_eval _) ix) (Cond.eq_ints elx (Term.int_eval _))⟩, or_e2 (Cond.lt_ints ix (Term.int_eval _)) (Cond.eq_ints elx (Term.int_eval _)) (Cond.all_elim (ev _) hat' hn44 t.toNatClampNeg hlt)⟩
  obtain ⟨n, o, q1, q2, q3, _, L, rfl, ⟨rfl, N⟩, hq⟩ := own_law l s _ hw x0 sel a cl s.heap s.heap.size (Nat.le_refl _) S1 Tb hbt HD p e ha hc hk s m _ below hf ((Spec.applies_iff_loose hf).mp happ).1 ⟨rfl, State.Warmed39.refl s, rfl⟩ trivial
  refine ⟨n, _, q1, q2, q3, hpost _ _ _ _ _ _ ⟨Cond.after_iff.mpr rfl, Cond.after_iff.mpr (eq_i res_at (Term.int_eval (1)) rfl), trivial⟩ ⟨hq.1, hq.2.1, (hq.2.2.sift fun y hy => Or.inr (N y hy)).mono (by decide) (by decide)⟩⟩
theorem main_1_1 : Claimed_1_1 := own_comes fun _ _ _ _ _ _ h hF => ⟨h.1, hF⟩
theorem main_1_2 : Claimed_1_2 := own_comes fun _ _ _ _ _ _ h hF => ⟨h.2.1, hF⟩
end Jvm.Pilot.@@N@@
namespace Jvm.Pilot.@@N@@
open Jvm Jvm.ClassFile Sem Op Lib Jvm.Free Jvm.Stand Jvm.Pilot.@@N@@.Jvm.D
/-! MADE BY PROGRAM (witnessworld.py) out of the Statement's table words and the real class files: 11 classes; the members and pool entries that the words name. The judged class is class 1, her method 2. -/
namespace start1
open Jvm.ClassFile
def u (s : String) : CpInfo := .utf8 (stringToUtf16 s)
/-- a pool by its gaps: so many unusable entries, then the entry; so many at the end -/
def gap : Nat → List CpInfo → List CpInfo
  | 0, r => r
  | n + 1, r => .unusable :: gap n r
def poolList (es : List (Nat × CpInfo)) (last : Nat) : List CpInfo := es.foldr (fun e r => gap e.1 (e.2 :: r)) (gap last [])
def pool (es : List (Nat × CpInfo)) (last : Nat) : Array CpInfo := ⟨poolList es last⟩
def fileOf (pool : Array CpInfo) (this : Nat) (attrs : Array Attribute := #[]) (ms : Array MethodInfo := #[]) (fl : Nat := 33) (sup : Nat := 0) (ifs : Array Nat := #[]) (fds : Array FieldInfo := #[]) : ClassFile where
  minorVersion := 0
  majorVersion := 65
  constantPool := pool
  accessFlags := fl
  thisClass := this
  superClass := sup
  interfaces := ifs
  fields := fds
  methods := ms
  attributes := attrs
def plain (name : String) (sup : Option ClassId) : Class where
  name := name
  kind := .ordinary
  loader := none
  accessFlags := 33
  super := sup
  interfaces := #[]
  cf := none
  fields := #[]
  methods := #[]
  instanceTypes := #[]
  staticTypes := #[]
  resolved := #[]
  callSites := []
  init := .initialized
  statics := none
  mirror := none

def pool0 : Array CpInfo := pool [(5, u "<init>"), (0, u "()V"), (1, .class_ 10), (1, u "java/lang/Object")] 113

def k0m0 : Method := { name := "<init>", desc := "()V", sig := { parameters := [], returnType := none }, accessFlags := 1, code := none }
/-- java/lang/Object -/
def k0 : Class := { plain "java/lang/Object" none with
  accessFlags := 33
  interfaces := #[]
  cf := some (fileOf pool0 8 #[] #[{ accessFlags := 1, nameIndex := 5, descriptorIndex := 6, attributes := #[] }] 33 0 #[] #[])
  fields := #[]
  methods := #[k0m0]
  instanceTypes := #[]
  staticTypes := #[]
  resolved := Array.replicate 124 none
  statics := none }

def pool1 : Array CpInfo := pool [(2, .class_ 4), (1, u "java/lang/Object"), (0, u "<init>"), (0, u "()V"), (0, .integer 2147483647), (0, .methodref 9 10), (0, .class_ 11), (0, .nameAndType 12 13), (0, u "com/example/tidewire/tidewire/fix/Tags"), (0, u "isHeader"), (0, u "(I)Z"), (0, .methodref 15 16), (0, .class_ 17), (0, .nameAndType 18 13), (0, u "com/example/tidewire/tidewire/fix/TagsIsHeaderPinLaw"), (0, u "header"), (3, u "law"), (0, u "(II)Z")] 2

def k1m0 : Method := { name := "<init>", desc := "()V", sig := { parameters := [], returnType := none }, accessFlags := 2, code := none }
def k1c1 : Code := { maxStack := 2, maxLocals := 1, code := method_2_code, exceptionTable := #[], attributes := #[] }
def k1m1 : Method := { name := "header", desc := "(I)Z", sig := { parameters := [.int], returnType := some .boolean }, accessFlags := 10, code := some k1c1 }
def k1c2 : Code := { maxStack := 2, maxLocals := 3, code := code, exceptionTable := #[], attributes := #[] }
def k1m2 : Method := { name := "law", desc := "(II)Z", sig := { parameters := [.int, .int], returnType := some .boolean }, accessFlags := 9, code := some k1c2 }
/-- com/example/tidewire/tidewire/fix/TagsIsHeaderPinLaw -/
def k1 : Class := { plain "com/example/tidewire/tidewire/fix/TagsIsHeaderPinLaw" (some 0) with
  accessFlags := 49
  interfaces := #[]
  cf := some (fileOf pool1 15 #[] #[{ accessFlags := 2, nameIndex := 5, descriptorIndex := 6, attributes := #[] }, { accessFlags := 10, nameIndex := 18, descriptorIndex := 13, attributes := #[] }, { accessFlags := 9, nameIndex := 22, descriptorIndex := 23, attributes := #[] }] 49 2 #[] #[])
  fields := #[]
  methods := #[k1m0, k1m1, k1m2]
  instanceTypes := #[]
  staticTypes := #[]
  resolved := Array.replicate 26 none
  statics := none }

def pool2 : Array CpInfo := pool [(2, .class_ 4), (1, u "java/lang/Object"), (0, u "<init>"), (0, u "()V"), (0, .class_ 8), (0, u "com/example/tidewire/tidewire/fix/Tags"), (0, .fieldref 7 10), (0, .nameAndType 11 12), (0, u "IS_HEADER"), (0, u "[Z"), (2, u "IS_SESSION_BOUND"), (2, u "LENGTH_OF_DATA"), (0, u "[I"), (2, u "DATA_FIELDS"), (0, u "[[I"), (2, u "HEADER"), (2, u "SESSION_BOUND"), (9, u "AVG_PX"), (0, u "I"), (2, u "BEGIN_SEQ_NO"), (1, u "BEGIN_STRING"), (1, u "BODY_LENGTH"), (1, u "CHECK_SUM"), (1, u "CL_ORD_ID"), (1, u "CUM_QTY"), (1, u "END_SEQ_NO"), (1, u "EXEC_ID"), (1, u "LAST_QTY"), (1, u "MSG_SEQ_NUM"), (1, u "MSG_TYPE"), (1, u "NEW_SEQ_NO"), (1, u "ORDER_ID"), (1, u "ORDER_QTY"), (1, u "ORD_STATUS"), (1, u "ORIG_CL_ORD_ID"), (1, u "POSS_DUP_FLAG"), (1, u "PRICE"), (1, u "REF_SEQ_NUM"), (1, u "SENDER_COMP_ID"), (1, u "SENDING_TIME"), (1, u "SIDE"), (1, u "SYMBOL"), (1, u "TARGET_COMP_ID"), (1, u "TEXT"), (1, u "TRANSACT_TIME"), (1, u "LIST_ID"), (1, u "SIGNATURE"), (1, u "SIGNATURE_LENGTH"), (1, u "POSS_RESEND"), (1, u "ENCRYPT_METHOD"), (1, u "CXL_REJ_REASON"), (1, u "ORD_REJ_REASON"), (1, u "HEART_BT_INT"), (1, u "TEST_REQ_ID"), (1, u "ON_BEHALF_OF_COMP_ID"), (1, u "QUOTE_ID"), (1, u "ORIG_SENDING_TIME"), (1, u "GAP_FILL_FLAG"), (1, u "RESET_SEQ_NUM_FLAG"), (1, u "EXEC_TYPE"), (1, u "LEAVES_QTY"), (1, u "LAST_MSG_SEQ_NUM_PROCESSED"), (1, u "REF_MSG_TYPE"), (1, u "BUSINESS_REJECT_REF_ID"), (1, u "BUSINESS_REJECT_REASON"), (1, u "CXL_REJ_RESPONSE_TO"), (1, u "CROSS_ID"), (1, u "QUOTE_RESP_ID"), (1, u "TABLE_SIZE"), (3, u "isHeader"), (0, u "(I)Z")] 8

def k2m0 : Method := { name := "<init>", desc := "()V", sig := { parameters := [], returnType := none }, accessFlags := 2, code := none }
def k2c1 : Code := { maxStack := 2, maxLocals := 1, code := prog_10_method_2_code, exceptionTable := #[], attributes := #[] }
def k2m1 : Method := { name := "isHeader", desc := "(I)Z", sig := { parameters := [.int], returnType := some .boolean }, accessFlags := 9, code := some k2c1 }
/-- com/example/tidewire/tidewire/fix/Tags -/
def k2 : Class := { plain "com/example/tidewire/tidewire/fix/Tags" (some 0) with
  accessFlags := 49
  interfaces := #[]
  cf := some (fileOf pool2 7 #[] #[{ accessFlags := 2, nameIndex := 5, descriptorIndex := 6, attributes := #[] }, { accessFlags := 9, nameIndex := 145, descriptorIndex := 146, attributes := #[] }] 49 2 #[] #[{ accessFlags := 25, nameIndex := 39, descriptorIndex := 40, attributes := #[] }, { accessFlags := 25, nameIndex := 43, descriptorIndex := 40, attributes := #[] }, { accessFlags := 25, nameIndex := 45, descriptorIndex := 40, attributes := #[] }, { accessFlags := 25, nameIndex := 47, descriptorIndex := 40, attributes := #[] }, { accessFlags := 25, nameIndex := 49, descriptorIndex := 40, attributes := #[] }, { accessFlags := 25, nameIndex := 51, descriptorIndex := 40, attributes := #[] }, { accessFlags := 25, nameIndex := 53, descriptorIndex := 40, attributes := #[] }, { accessFlags := 25, nameIndex := 55, descriptorIndex := 40, attributes := #[] }, { accessFlags := 25, nameIndex := 57, descriptorIndex := 40, attributes := #[] }, { accessFlags := 25, nameIndex := 59, descriptorIndex := 40, attributes := #[] }, { accessFlags := 25, nameIndex := 61, descriptorIndex := 40, attributes := #[] }, { accessFlags := 25, nameIndex := 63, descriptorIndex := 40, attributes := #[] }, { accessFlags := 25, nameIndex := 65, descriptorIndex := 40, attributes := #[] }, { accessFlags := 25, nameIndex := 67, descriptorIndex := 40, attributes := #[] }, { accessFlags := 25, nameIndex := 69, descriptorIndex := 40, attributes := #[] }, { accessFlags := 25, nameIndex := 71, descriptorIndex := 40, attributes := #[] }, { accessFlags := 25, nameIndex := 73, descriptorIndex := 40, attributes := #[] }, { accessFlags := 25, nameIndex := 75, descriptorIndex := 40, attributes := #[] }, { accessFlags := 25, nameIndex := 77, descriptorIndex := 40, attributes := #[] }, { accessFlags := 25, nameIndex := 79, descriptorIndex := 40, attributes := #[] }, { accessFlags := 25, nameIndex := 81, descriptorIndex := 40, attributes := #[] }, { accessFlags := 25, nameIndex := 83, descriptorIndex := 40, attributes := #[] }, { accessFlags := 25, nameIndex := 85, descriptorIndex := 40, attributes := #[] }, { accessFlags := 25, nameIndex := 87, descriptorIndex := 40, attributes := #[] }, { accessFlags := 25, nameIndex := 89, descriptorIndex := 40, attributes := #[] }, { accessFlags := 25, nameIndex := 91, descriptorIndex := 40, attributes := #[] }, { accessFlags := 25, nameIndex := 93, descriptorIndex := 40, attributes := #[] }, { accessFlags := 25, nameIndex := 95, descriptorIndex := 40, attributes := #[] }, { accessFlags := 25, nameIndex := 97, descriptorIndex := 40, attributes := #[] }, { accessFlags := 25, nameIndex := 99, descriptorIndex := 40, attributes := #[] }, { accessFlags := 25, nameIndex := 101, descriptorIndex := 40, attributes := #[] }, { accessFlags := 25, nameIndex := 103, descriptorIndex := 40, attributes := #[] }, { accessFlags := 25, nameIndex := 105, descriptorIndex := 40, attributes := #[] }, { accessFlags := 25, nameIndex := 107, descriptorIndex := 40, attributes := #[] }, { accessFlags := 25, nameIndex := 109, descriptorIndex := 40, attributes := #[] }, { accessFlags := 25, nameIndex := 111, descriptorIndex := 40, attributes := #[] }, { accessFlags := 25, nameIndex := 113, descriptorIndex := 40, attributes := #[] }, { accessFlags := 25, nameIndex := 115, descriptorIndex := 40, attributes := #[] }, { accessFlags := 25, nameIndex := 117, descriptorIndex := 40, attributes := #[] }, { accessFlags := 25, nameIndex := 119, descriptorIndex := 40, attributes := #[] }, { accessFlags := 25, nameIndex := 121, descriptorIndex := 40, attributes := #[] }, { accessFlags := 25, nameIndex := 123, descriptorIndex := 40, attributes := #[] }, { accessFlags := 25, nameIndex := 125, descriptorIndex := 40, attributes := #[] }, { accessFlags := 25, nameIndex := 127, descriptorIndex := 40, attributes := #[] }, { accessFlags := 25, nameIndex := 129, descriptorIndex := 40, attributes := #[] }, { accessFlags := 25, nameIndex := 131, descriptorIndex := 40, attributes := #[] }, { accessFlags := 25, nameIndex := 133, descriptorIndex := 40, attributes := #[] }, { accessFlags := 25, nameIndex := 135, descriptorIndex := 40, attributes := #[] }, { accessFlags := 25, nameIndex := 137, descriptorIndex := 40, attributes := #[] }, { accessFlags := 25, nameIndex := 139, descriptorIndex := 40, attributes := #[] }, { accessFlags := 26, nameIndex := 141, descriptorIndex := 40, attributes := #[] }, { accessFlags := 26, nameIndex := 26, descriptorIndex := 19, attributes := #[] }, { accessFlags := 26, nameIndex := 29, descriptorIndex := 19, attributes := #[] }, { accessFlags := 26, nameIndex := 22, descriptorIndex := 23, attributes := #[] }, { accessFlags := 26, nameIndex := 11, descriptorIndex := 12, attributes := #[] }, { accessFlags := 26, nameIndex := 15, descriptorIndex := 12, attributes := #[] }, { accessFlags := 26, nameIndex := 18, descriptorIndex := 19, attributes := #[] }])
  fields := #[{ name := "AVG_PX", type := .int, accessFlags := 25, slot := 0, constantValue := 0 }, { name := "BEGIN_SEQ_NO", type := .int, accessFlags := 25, slot := 1, constantValue := 0 }, { name := "BEGIN_STRING", type := .int, accessFlags := 25, slot := 2, constantValue := 0 }, { name := "BODY_LENGTH", type := .int, accessFlags := 25, slot := 3, constantValue := 0 }, { name := "CHECK_SUM", type := .int, accessFlags := 25, slot := 4, constantValue := 0 }, { name := "CL_ORD_ID", type := .int, accessFlags := 25, slot := 5, constantValue := 0 }, { name := "CUM_QTY", type := .int, accessFlags := 25, slot := 6, constantValue := 0 }, { name := "END_SEQ_NO", type := .int, accessFlags := 25, slot := 7, constantValue := 0 }, { name := "EXEC_ID", type := .int, accessFlags := 25, slot := 8, constantValue := 0 }, { name := "LAST_QTY", type := .int, accessFlags := 25, slot := 9, constantValue := 0 }, { name := "MSG_SEQ_NUM", type := .int, accessFlags := 25, slot := 10, constantValue := 0 }, { name := "MSG_TYPE", type := .int, accessFlags := 25, slot := 11, constantValue := 0 }, { name := "NEW_SEQ_NO", type := .int, accessFlags := 25, slot := 12, constantValue := 0 }, { name := "ORDER_ID", type := .int, accessFlags := 25, slot := 13, constantValue := 0 }, { name := "ORDER_QTY", type := .int, accessFlags := 25, slot := 14, constantValue := 0 }, { name := "ORD_STATUS", type := .int, accessFlags := 25, slot := 15, constantValue := 0 }, { name := "ORIG_CL_ORD_ID", type := .int, accessFlags := 25, slot := 16, constantValue := 0 }, { name := "POSS_DUP_FLAG", type := .int, accessFlags := 25, slot := 17, constantValue := 0 }, { name := "PRICE", type := .int, accessFlags := 25, slot := 18, constantValue := 0 }, { name := "REF_SEQ_NUM", type := .int, accessFlags := 25, slot := 19, constantValue := 0 }, { name := "SENDER_COMP_ID", type := .int, accessFlags := 25, slot := 20, constantValue := 0 }, { name := "SENDING_TIME", type := .int, accessFlags := 25, slot := 21, constantValue := 0 }, { name := "SIDE", type := .int, accessFlags := 25, slot := 22, constantValue := 0 }, { name := "SYMBOL", type := .int, accessFlags := 25, slot := 23, constantValue := 0 }, { name := "TARGET_COMP_ID", type := .int, accessFlags := 25, slot := 24, constantValue := 0 }, { name := "TEXT", type := .int, accessFlags := 25, slot := 25, constantValue := 0 }, { name := "TRANSACT_TIME", type := .int, accessFlags := 25, slot := 26, constantValue := 0 }, { name := "LIST_ID", type := .int, accessFlags := 25, slot := 27, constantValue := 0 }, { name := "SIGNATURE", type := .int, accessFlags := 25, slot := 28, constantValue := 0 }, { name := "SIGNATURE_LENGTH", type := .int, accessFlags := 25, slot := 29, constantValue := 0 }, { name := "POSS_RESEND", type := .int, accessFlags := 25, slot := 30, constantValue := 0 }, { name := "ENCRYPT_METHOD", type := .int, accessFlags := 25, slot := 31, constantValue := 0 }, { name := "CXL_REJ_REASON", type := .int, accessFlags := 25, slot := 32, constantValue := 0 }, { name := "ORD_REJ_REASON", type := .int, accessFlags := 25, slot := 33, constantValue := 0 }, { name := "HEART_BT_INT", type := .int, accessFlags := 25, slot := 34, constantValue := 0 }, { name := "TEST_REQ_ID", type := .int, accessFlags := 25, slot := 35, constantValue := 0 }, { name := "ON_BEHALF_OF_COMP_ID", type := .int, accessFlags := 25, slot := 36, constantValue := 0 }, { name := "QUOTE_ID", type := .int, accessFlags := 25, slot := 37, constantValue := 0 }, { name := "ORIG_SENDING_TIME", type := .int, accessFlags := 25, slot := 38, constantValue := 0 }, { name := "GAP_FILL_FLAG", type := .int, accessFlags := 25, slot := 39, constantValue := 0 }, { name := "RESET_SEQ_NUM_FLAG", type := .int, accessFlags := 25, slot := 40, constantValue := 0 }, { name := "EXEC_TYPE", type := .int, accessFlags := 25, slot := 41, constantValue := 0 }, { name := "LEAVES_QTY", type := .int, accessFlags := 25, slot := 42, constantValue := 0 }, { name := "LAST_MSG_SEQ_NUM_PROCESSED", type := .int, accessFlags := 25, slot := 43, constantValue := 0 }, { name := "REF_MSG_TYPE", type := .int, accessFlags := 25, slot := 44, constantValue := 0 }, { name := "BUSINESS_REJECT_REF_ID", type := .int, accessFlags := 25, slot := 45, constantValue := 0 }, { name := "BUSINESS_REJECT_REASON", type := .int, accessFlags := 25, slot := 46, constantValue := 0 }, { name := "CXL_REJ_RESPONSE_TO", type := .int, accessFlags := 25, slot := 47, constantValue := 0 }, { name := "CROSS_ID", type := .int, accessFlags := 25, slot := 48, constantValue := 0 }, { name := "QUOTE_RESP_ID", type := .int, accessFlags := 25, slot := 49, constantValue := 0 }, { name := "TABLE_SIZE", type := .int, accessFlags := 26, slot := 50, constantValue := 0 }, { name := "HEADER", type := (.array .int), accessFlags := 26, slot := 51, constantValue := 0 }, { name := "SESSION_BOUND", type := (.array .int), accessFlags := 26, slot := 52, constantValue := 0 }, { name := "DATA_FIELDS", type := (.array (.array .int)), accessFlags := 26, slot := 53, constantValue := 0 }, { name := "IS_HEADER", type := (.array .boolean), accessFlags := 26, slot := 54, constantValue := 0 }, { name := "IS_SESSION_BOUND", type := (.array .boolean), accessFlags := 26, slot := 55, constantValue := 0 }, { name := "LENGTH_OF_DATA", type := (.array .int), accessFlags := 26, slot := 56, constantValue := 0 }]
  methods := #[k2m0, k2m1]
  instanceTypes := #[]
  staticTypes := #[.int, .int, .int, .int, .int, .int, .int, .int, .int, .int, .int, .int, .int, .int, .int, .int, .int, .int, .int, .int, .int, .int, .int, .int, .int, .int, .int, .int, .int, .int, .int, .int, .int, .int, .int, .int, .int, .int, .int, .int, .int, .int, .int, .int, .int, .int, .int, .int, .int, .int, .int, (.array .int), (.array .int), (.array (.array .int)), (.array .boolean), (.array .boolean), (.array .int)]
  resolved := Array.replicate 155 none
  statics := some 0 }

def pool3 : Array CpInfo := pool [(1, u "java/lang/Cloneable"), (0, .class_ 1), (0, u "java/lang/Object"), (0, .class_ 3)] 3

/-- java/lang/Cloneable -/
def k3 : Class := { plain "java/lang/Cloneable" (some 0) with
  accessFlags := 1537
  interfaces := #[]
  cf := some (fileOf pool3 2 #[] #[] 1537 4 #[] #[])
  fields := #[]
  methods := #[]
  instanceTypes := #[]
  staticTypes := #[]
  resolved := Array.replicate 8 none
  statics := none }

def pool4 : Array CpInfo := pool [(1, u "java/io/Serializable"), (0, .class_ 1), (0, u "java/lang/Object"), (0, .class_ 3)] 3

/-- java/io/Serializable -/
def k4 : Class := { plain "java/io/Serializable" (some 0) with
  accessFlags := 1537
  interfaces := #[]
  cf := some (fileOf pool4 2 #[] #[] 1537 4 #[] #[])
  fields := #[]
  methods := #[]
  instanceTypes := #[]
  staticTypes := #[]
  resolved := Array.replicate 8 none
  statics := none }

/-- the primitive boolean -/
def k5 : Class := { plain "boolean" none with kind := .primitive 'Z', accessFlags := 0x411 }
/-- [Z -/
def k6 : Class := { plain "[Z" (some 0) with kind := .array 5 .boolean, interfaces := #[3, 4], accessFlags := 1041 }

/-- the primitive byte -/
def k7 : Class := { plain "byte" none with kind := .primitive 'B', accessFlags := 0x411 }
/-- [B -/
def k8 : Class := { plain "[B" (some 0) with kind := .array 7 .byte, interfaces := #[3, 4], accessFlags := 1041 }

/-- the primitive int -/
def k9 : Class := { plain "int" none with kind := .primitive 'I', accessFlags := 0x411 }
/-- [I -/
def k10 : Class := { plain "[I" (some 0) with kind := .array 9 .int, interfaces := #[3, 4], accessFlags := 1041 }

def heap : Heap := #[{ cls := 2, slots := #[.int 0, .int 0, .int 0, .int 0, .int 0, .int 0, .int 0, .int 0, .int 0, .int 0, .int 0, .int 0, .int 0, .int 0, .int 0, .int 0, .int 0, .int 0, .int 0, .int 0, .int 0, .int 0, .int 0, .int 0, .int 0, .int 0, .int 0, .int 0, .int 0, .int 0, .int 0, .int 0, .int 0, .int 0, .int 0, .int 0, .int 0, .int 0, .int 0, .int 0, .int 0, .int 0, .int 0, .int 0, .int 0, .int 0, .int 0, .int 0, .int 0, .int 0, .int 0, .null, .null, .null, .ref 1, .null, .null], vm := .statics 2 },
  { cls := 6, slots := #[.int 0, .int 0, .int 0, .int 0, .int 0, .int 0, .int 0, .int 0, .int 1, .int 1, .int 0, .int 0, .int 0, .int 0, .int 0, .int 0, .int 0, .int 0, .int 0, .int 0, .int 0, .int 0, .int 0, .int 0, .int 0, .int 0, .int 0, .int 0, .int 0, .int 0, .int 0, .int 0, .int 0, .int 0, .int 1, .int 1, .int 0, .int 0, .int 0, .int 0, .int 0, .int 0, .int 0, .int 1, .int 0, .int 0, .int 0, .int 0, .int 0, .int 1, .int 1, .int 0, .int 1, .int 0, .int 0, .int 0, .int 1, .int 1, .int 0, .int 0, .int 0, .int 0, .int 0, .int 0, .int 0, .int 0, .int 0, .int 0, .int 0, .int 0, .int 0, .int 0, .int 0, .int 0, .int 0, .int 0, .int 0, .int 0, .int 0, .int 0, .int 0, .int 0, .int 0, .int 0, .int 0, .int 0, .int 0, .int 0, .int 0, .int 0, .int 1, .int 1, .int 0, .int 0, .int 0, .int 0, .int 0, .int 1, .int 0, .int 0, .int 0, .int 0, .int 0, .int 0, .int 0, .int 0, .int 0, .int 0, .int 0, .int 0, .int 0, .int 0, .int 0, .int 0, .int 0, .int 1, .int 1, .int 0, .int 0, .int 0, .int 0, .int 0, .int 1, .int 0, .int 0, .int 0, .int 0, .int 0, .int 1, .int 1, .int 0, .int 0, .int 0, .int 0, .int 0, .int 0, .int 0, .int 0, .int 0, .int 0, .int 0, .int 0, .int 1, .int 1, .int 1, .int 1, .int 0, .int 0, .int 0, .int 0, .int 0, .int 0, .int 0, .int 0, .int 0, .int 0, .int 0, .int 0, .int 0, .int 0, .int 0, .int 0, .int 0, .int 0, .int 0, .int 0, .int 0, .int 0, .int 0, .int 0, .int 0, .int 0, .int 0, .int 0, .int 0, .int 0, .int 0, .int 0, .int 0, .int 0, .int 0, .int 0, .int 0, .int 0, .int 0, .int 0, .int 0, .int 0, .int 0, .int 0, .int 0, .int 0, .int 0, .int 0, .int 0, .int 0, .int 0, .int 0, .int 0, .int 0, .int 0, .int 0, .int 0, .int 0, .int 0, .int 0, .int 0, .int 0, .int 0, .int 0, .int 0, .int 0, .int 1, .int 1, .int 0, .int 0, .int 0, .int 0, .int 0, .int 0, .int 0, .int 0, .int 0, .int 0, .int 0, .int 0, .int 0, .int 0, .int 0, .int 0, .int 0, .int 0, .int 0, .int 0, .int 0, .int 0, .int 0, .int 0, .int 0, .int 0, .int 0, .int 0, .int 0, .int 0, .int 0, .int 0, .int 0, .int 0, .int 0, .int 0, .int 0, .int 0, .int 0, .int 0, .int 0, .int 0, .int 0, .int 0, .int 0, .int 0, .int 0, .int 0, .int 0, .int 0, .int 0, .int 0, .int 0, .int 0, .int 0, .int 0, .int 0, .int 0, .int 0, .int 0, .int 0, .int 0, .int 0, .int 0, .int 0, .int 0, .int 0, .int 0, .int 0, .int 0, .int 0, .int 0, .int 0, .int 0, .int 0, .int 0, .int 0, .int 0, .int 0, .int 0, .int 0, .int 0, .int 0, .int 0, .int 0, .int 0, .int 0, .int 0, .int 0, .int 0, .int 0, .int 0, .int 0, .int 0, .int 0, .int 0, .int 0, .int 0, .int 0, .int 0, .int 0, .int 0, .int 0, .int 0, .int 0, .int 0, .int 0, .int 0, .int 0, .int 0, .int 0, .int 0, .int 0, .int 0, .int 0, .int 0, .int 0, .int 0, .int 0, .int 0, .int 0, .int 0, .int 0, .int 0, .int 0, .int 0, .int 0, .int 0, .int 0, .int 0, .int 0, .int 0, .int 0, .int 1, .int 0, .int 0, .int 0, .int 0, .int 0, .int 0, .int 0, .int 0, .int 0, .int 0, .int 0, .int 0, .int 0, .int 0, .int 0, .int 0, .int 0, .int 0, .int 0, .int 0, .int 0, .int 1, .int 0, .int 0, .int 0, .int 0, .int 0, .int 0, .int 0, .int 0, .int 0, .int 0, .int 0, .int 0, .int 0, .int 0, .int 0, .int 0, .int 0, .int 0, .int 0, .int 0, .int 0, .int 0, .int 0, .int 0, .int 0, .int 0, .int 0, .int 0, .int 0, .int 0, .int 0, .int 0, .int 0, .int 0, .int 0, .int 0, .int 0, .int 0, .int 0, .int 0, .int 0, .int 0, .int 0, .int 0, .int 0, .int 0, .int 0, .int 0, .int 0, .int 0, .int 0, .int 0, .int 0, .int 0, .int 0, .int 0, .int 0, .int 0, .int 0, .int 0, .int 0, .int 0, .int 0, .int 0, .int 0, .int 0, .int 0, .int 0, .int 0, .int 0, .int 0, .int 0, .int 0, .int 0, .int 0, .int 0, .int 0, .int 0, .int 0, .int 0, .int 0, .int 0, .int 0, .int 0, .int 0, .int 0, .int 0, .int 0, .int 0, .int 0, .int 0, .int 0, .int 0, .int 0, .int 0, .int 0, .int 0, .int 0, .int 0, .int 0, .int 0, .int 0, .int 0, .int 0, .int 0, .int 0, .int 0, .int 0, .int 0, .int 0, .int 0, .int 0, .int 0, .int 0, .int 0, .int 0, .int 0, .int 0, .int 0, .int 0, .int 0, .int 0, .int 0, .int 0, .int 0, .int 0, .int 0, .int 0, .int 0, .int 0, .int 0, .int 0, .int 0, .int 0, .int 0, .int 0, .int 0, .int 0, .int 0, .int 0, .int 0, .int 0, .int 0, .int 0, .int 0, .int 0, .int 0, .int 0, .int 0, .int 0, .int 0, .int 0, .int 0, .int 0, .int 0, .int 0, .int 0, .int 0, .int 0, .int 0, .int 0, .int 0, .int 0, .int 0, .int 0, .int 0, .int 0, .int 0, .int 0, .int 0, .int 0, .int 0, .int 0, .int 0, .int 0, .int 0, .int 0, .int 0, .int 0, .int 0, .int 0, .int 0, .int 0, .int 0, .int 0, .int 0, .int 0, .int 0, .int 0, .int 0, .int 0, .int 0, .int 0, .int 0, .int 0, .int 0, .int 0, .int 0, .int 0, .int 0, .int 0, .int 0, .int 0, .int 0, .int 0, .int 0, .int 0, .int 0, .int 0, .int 0, .int 0, .int 0, .int 0, .int 0, .int 0, .int 0, .int 0, .int 0, .int 0, .int 0, .int 0, .int 0, .int 0, .int 0, .int 0, .int 0, .int 0, .int 0, .int 0, .int 0, .int 0, .int 0, .int 0, .int 0, .int 0, .int 0, .int 0, .int 0, .int 0, .int 0, .int 0, .int 0, .int 0, .int 0, .int 0, .int 0, .int 0, .int 0, .int 0, .int 0, .int 0, .int 0, .int 0, .int 0, .int 0, .int 0, .int 0, .int 1, .int 1, .int 1, .int 1, .int 0, .int 0, .int 0, .int 0, .int 0, .int 0, .int 0, .int 0, .int 0, .int 0, .int 0, .int 0, .int 0, .int 0, .int 0, .int 0, .int 0, .int 0, .int 0, .int 0, .int 0, .int 0, .int 0, .int 0, .int 0, .int 0, .int 0, .int 0, .int 0, .int 0, .int 0, .int 0, .int 0, .int 0, .int 0, .int 0, .int 0, .int 0, .int 0, .int 0, .int 0, .int 0, .int 0, .int 0, .int 0, .int 0, .int 0, .int 0, .int 0, .int 0, .int 0, .int 0, .int 0, .int 0, .int 0, .int 0, .int 0, .int 0, .int 0, .int 0, .int 0, .int 0, .int 0, .int 0, .int 0, .int 0, .int 0, .int 0, .int 0, .int 0, .int 0, .int 0, .int 0, .int 0, .int 0, .int 0, .int 0, .int 0, .int 0, .int 0, .int 0, .int 0, .int 0, .int 0, .int 0, .int 0, .int 0, .int 0, .int 0, .int 0, .int 0, .int 0, .int 0, .int 0, .int 0, .int 0, .int 0, .int 0, .int 0, .int 0, .int 0, .int 0, .int 0, .int 0, .int 0, .int 0, .int 0, .int 0, .int 0, .int 0, .int 0, .int 0, .int 0, .int 0, .int 0, .int 0, .int 0, .int 0, .int 0, .int 0, .int 0, .int 0, .int 0, .int 0, .int 0, .int 0, .int 0, .int 0, .int 0, .int 0, .int 0, .int 0, .int 0, .int 0, .int 0, .int 0, .int 0, .int 0, .int 0, .int 0, .int 0, .int 0, .int 0, .int 0, .int 0, .int 0, .int 0, .int 0, .int 0, .int 0, .int 0, .int 0, .int 0, .int 0, .int 0, .int 0, .int 0, .int 0, .int 0, .int 0, .int 0, .int 0, .int 0, .int 0, .int 0, .int 0, .int 0, .int 0, .int 0, .int 0, .int 0, .int 0, .int 0, .int 0, .int 0, .int 0, .int 0, .int 0, .int 0, .int 0, .int 0, .int 0, .int 0, .int 0, .int 0, .int 0, .int 0, .int 0, .int 0, .int 0, .int 0, .int 0, .int 0, .int 0, .int 0, .int 0, .int 0, .int 0, .int 0, .int 0, .int 0, .int 0, .int 0, .int 0, .int 0, .int 0, .int 0, .int 0, .int 0, .int 0, .int 0, .int 0, .int 0, .int 0, .int 0, .int 0, .int 0, .int 0, .int 0, .int 0, .int 0, .int 0, .int 0, .int 0, .int 0, .int 0, .int 0, .int 0, .int 0, .int 0, .int 0, .int 0, .int 0, .int 0, .int 0, .int 0, .int 0, .int 0, .int 0, .int 0, .int 0, .int 0, .int 0, .int 0, .int 0, .int 0, .int 0, .int 0, .int 0, .int 0, .int 0, .int 0, .int 0, .int 0, .int 0, .int 0, .int 0, .int 0, .int 0, .int 0, .int 0, .int 0, .int 0, .int 0, .int 0, .int 0, .int 0, .int 0, .int 0, .int 0, .int 0, .int 0, .int 0, .int 0, .int 0, .int 0, .int 0, .int 0, .int 0, .int 0, .int 0, .int 0, .int 0, .int 0, .int 0, .int 0, .int 0, .int 0, .int 0, .int 0, .int 0, .int 0, .int 0, .int 0, .int 0, .int 0, .int 0, .int 0, .int 0, .int 0, .int 0, .int 0, .int 0, .int 0, .int 0, .int 0, .int 0, .int 0, .int 0, .int 0, .int 0, .int 0, .int 0, .int 0, .int 0, .int 0, .int 0, .int 0, .int 0, .int 0, .int 0, .int 0, .int 0, .int 0, .int 0, .int 0, .int 0, .int 0, .int 0, .int 0, .int 0, .int 0, .int 0, .int 0, .int 0, .int 0, .int 0, .int 0, .int 0, .int 0, .int 0, .int 0, .int 0, .int 0, .int 0, .int 0, .int 0, .int 0, .int 0, .int 0, .int 0, .int 0, .int 0, .int 0, .int 0, .int 0, .int 0, .int 0, .int 0, .int 0, .int 0, .int 0, .int 0, .int 0, .int 0, .int 0, .int 0, .int 0, .int 0, .int 0, .int 0, .int 0, .int 0, .int 0, .int 0, .int 0, .int 0, .int 0, .int 0, .int 0, .int 0, .int 0, .int 0, .int 0, .int 0, .int 0, .int 0, .int 0, .int 0, .int 0, .int 0, .int 0, .int 0], vm := .none }]
def classes : Array Class := #[k0, k1, k2, k3, k4, k5, k6, k7, k8, k9, k10]
def interned : List (Array UInt16 × Addr) := []
def slotsUsed : Nat := 1081
def theMethod : MethodId := ⟨1, 2⟩
def args0 : Array Value := #[.int 5, .int 7]
def aboutOver (below : List Frame) : State where
  vm := { classes := classes, interned := interned.toArray }
  heap := heap
  slotsUsed := slotsUsed
  threads := #[{ frames := .invoking theMethod args0 :: below }]
def below0 : List Frame := [.native { method := ⟨0, 0⟩, args := #[] }]
def about1 : State := aboutOver below0
def p0 : Program := .bare "" "" ""
def e0 : Env := launch0.env 0 0 0
theorem w_frames : about1.frames = Frame.invoking theMethod args0 :: below0 := rfl
set_option maxRecDepth 65536 in
theorem w_args : argsFit about1.vm theMethod args0 = true := by decide +kernel
set_option maxRecDepth 65536 in
theorem w_heap : heapFits about1 = true := by decide +kernel
set_option maxRecDepth 65536 in
theorem w_runnable : about1.curStatus? = some .runnable := by decide +kernel
set_option maxRecDepth 65536 in
theorem w_alone : about1.alone = true := by decide +kernel
set_option maxRecDepth 65536 in
theorem w_named : about1.methodNamed? x = some theMethod := by decide +kernel
set_option maxRecDepth 65536 in
theorem w_hears : about1.hears theMethod below0 = true := by decide +kernel
set_option maxRecDepth 65536 in
theorem w_ripe : about1.ripe theMethod args0 below0 = true := by decide +kernel
theorem w_running : about1.status = .running := rfl
set_option maxRecDepth 65536 in
theorem w_room : about1.hasRoom e0.platform room_1 = true :=
  launch0.hasRoom_least _ room_1 (by decide +kernel) (by decide +kernel) (by decide +kernel) (by decide +kernel) (by decide +kernel) (by decide +kernel)
theorem allAtoms_all (ts : List Jvm.Cond) (a : Array Jvm.Value) (st : Jvm.State) : (allAtoms ts).before a st = ts.all (fun c => c.before a st) := by
  induction ts with
  | nil => rfl
  | cons c t ih =>
    show (Jvm.Cond.and c (allAtoms t)).before a st = _
    rw [Jvm.Cond.before_and, ih, List.all_cons]
def words1 : List Jvm.Cond := Jvm.Cond.code x code maxLocals ret :: tables_1
/-- a 'code' word, met by the world's own term for the bytes: nothing is compared byte by byte -/
theorem code_word {y : MethodName} {bytes : ByteArray} {mx : Nat} {rt : Option FieldType} {a : Array Value} {s : State} {m : MethodId} {meth : Method} {c : Code} (h1 : s.methodNamed? y = some m) (h2 : s.vm.method? m = some meth) (h3 : meth.code = some c) (h4 : c.code = bytes)
    (h5 : (c.maxLocals == mx && c.exceptionTable.isEmpty && decide (c.maxStack ≤ mostOperands) && decide (meth.sig.returnType = rt) && !meth.locks && decide (parseMethodDescriptor y.desc = some meth.sig)) = true) : (Jvm.Cond.code y bytes mx rt).before a s = true := by
  simp only [Bool.and_eq_true, beq_iff_eq, Bool.not_eq_true', decide_eq_true_eq] at h5
  obtain ⟨⟨⟨⟨⟨g1, g2⟩, g3⟩, g4⟩, g5⟩, g6⟩ := h5
  simp [Cond.before, Cond.holds, Cond.value, h1, h2, h3, h4, g1, g2, g3, g4, g5, g6]
def isCode : Jvm.Cond → Bool
  | .code _ _ _ _ => true
  | _ => false
theorem all_split {L : List Jvm.Cond} {P : Jvm.Cond → Bool} (h1 : L.all (fun c => isCode c || P c) = true) (h2 : ∀ c ∈ L.filter isCode, P c = true) : L.all P = true := by
  refine List.all_eq_true.mpr fun c hc => ?_
  have h := List.all_eq_true.mp h1 c hc
  rcases Bool.eq_false_or_eq_true (isCode c) with hi | hi
  · exact h2 c (List.mem_filter.mpr ⟨hc, hi⟩)
  · simpa [hi] using h
set_option maxRecDepth 65536 in
theorem w_c0 : (Jvm.Cond.code x code maxLocals ret).before args0 about1 = true := code_word (m := ⟨1, 2⟩) (meth := k1m2) (c := k1c2) (by decide +kernel) rfl rfl rfl (by decide +kernel)
set_option maxRecDepth 65536 in
theorem w_c1 : (Jvm.Cond.code ({ cls := "com/example/tidewire/tidewire/fix/Tags", name := "isHeader", desc := "(I)Z" } : Jvm.MethodName) prog_10_method_2_code (1 : Nat) (Option.some Jvm.ClassFile.FieldType.boolean)).before args0 about1 = true := code_word (m := ⟨2, 1⟩) (meth := k2m1) (c := k2c1) (by decide +kernel) rfl rfl rfl (by decide +kernel)
set_option maxRecDepth 65536 in
theorem w_c2 : (Jvm.Cond.code ({ cls := "com/example/tidewire/tidewire/fix/TagsIsHeaderPinLaw", name := "header", desc := "(I)Z" } : Jvm.MethodName) method_2_code (1 : Nat) (Option.some Jvm.ClassFile.FieldType.boolean)).before args0 about1 = true := code_word (m := ⟨1, 1⟩) (meth := k1m1) (c := k1c1) (by decide +kernel) rfl rfl rfl (by decide +kernel)
def codes1 : List Jvm.Cond := [Jvm.Cond.code x code maxLocals ret, Jvm.Cond.code ({ cls := "com/example/tidewire/tidewire/fix/Tags", name := "isHeader", desc := "(I)Z" } : Jvm.MethodName) prog_10_method_2_code (1 : Nat) (Option.some Jvm.ClassFile.FieldType.boolean), Jvm.Cond.code ({ cls := "com/example/tidewire/tidewire/fix/TagsIsHeaderPinLaw", name := "header", desc := "(I)Z" } : Jvm.MethodName) method_2_code (1 : Nat) (Option.some Jvm.ClassFile.FieldType.boolean)]
set_option maxRecDepth 65536 in
theorem codes_eq : words1.filter isCode = codes1 := rfl
theorem w_codes : ∀ c ∈ words1.filter isCode, c.before args0 about1 = true := by
  rw [codes_eq]
  intro c hc
  simp only [codes1, List.mem_cons, List.not_mem_nil, or_false] at hc
  rcases hc with rfl | rfl | rfl
  · exact w_c0
  · exact w_c1
  · exact w_c2
set_option maxRecDepth 65536 in
theorem w_t1 : words1.all (fun c => isCode c || c.before args0 about1) = true := by decide +kernel
theorem w_tables : (allAtoms (Jvm.Cond.code x code maxLocals ret :: tables_1)).before args0 about1 = true := by
  rw [allAtoms_all]
  show words1.all (fun c => c.before args0 about1) = true
  refine all_split ?_ w_codes
  rw [w_t1]
set_option maxRecDepth 65536 in
theorem own_wand {c d : Jvm.Cond} {a : Array Value} {s : State} (h1 : c.before a s = true) (h2 : d.before a s = true) : (Jvm.Cond.and c d).before a s = true := by rw [Cond.before_and, h1, h2]; rfl
set_option maxRecDepth 65536 in
theorem w_n0 : ((Jvm.Cond.arrayOf (Jvm.Term.static "com/example/tidewire/tidewire/fix/Tags" "IS_HEADER" "[Z") Jvm.ClassFile.FieldType.boolean) : Jvm.Cond).before args0 about1 = true := by decide +kernel
set_option maxRecDepth 65536 in
theorem w_n1 : ((Jvm.Cond.eq (Jvm.Term.length (Jvm.Term.static "com/example/tidewire/tidewire/fix/Tags" "IS_HEADER" "[Z")) (Jvm.Term.int (1024 : Int32))) : Jvm.Cond).before args0 about1 = true := by decide +kernel
set_option maxRecDepth 65536 in
theorem w_n2 : ((Jvm.Cond.all (Jvm.Term.static "com/example/tidewire/tidewire/fix/Tags" "IS_HEADER" "[Z") (Jvm.Cond.or (Jvm.Cond.le (Jvm.Term.int (8 : Int32)) (Jvm.Term.index (0 : Nat))) (Jvm.Cond.eq (Jvm.Term.elem (Jvm.Term.static "com/example/tidewire/tidewire/fix/Tags" "IS_HEADER" "[Z") (Jvm.Term.index (0 : Nat))) (Jvm.Term.int (0 : Int32))))) : Jvm.Cond).before args0 about1 = true := by decide +kernel
set_option maxRecDepth 65536 in
theorem w_n3 : ((Jvm.Cond.eq (Jvm.Term.elem (Jvm.Term.static "com/example/tidewire/tidewire/fix/Tags" "IS_HEADER" "[Z") (Jvm.Term.int (8 : Int32))) (Jvm.Term.int (1 : Int32))) : Jvm.Cond).before args0 about1 = true := by decide +kernel
set_option maxRecDepth 65536 in
theorem w_n4 : ((Jvm.Cond.eq (Jvm.Term.elem (Jvm.Term.static "com/example/tidewire/tidewire/fix/Tags" "IS_HEADER" "[Z") (Jvm.Term.int (9 : Int32))) (Jvm.Term.int (1 : Int32))) : Jvm.Cond).before args0 about1 = true := by decide +kernel
set_option maxRecDepth 65536 in
theorem w_n5 : ((Jvm.Cond.all (Jvm.Term.static "com/example/tidewire/tidewire/fix/Tags" "IS_HEADER" "[Z") (Jvm.Cond.or (Jvm.Cond.lt (Jvm.Term.index (0 : Nat)) (Jvm.Term.int (10 : Int32))) (Jvm.Cond.or (Jvm.Cond.le (Jvm.Term.int (34 : Int32)) (Jvm.Term.index (0 : Nat))) (Jvm.Cond.eq (Jvm.Term.elem (Jvm.Term.static "com/example/tidewire/tidewire/fix/Tags" "IS_HEADER" "[Z") (Jvm.Term.index (0 : Nat))) (Jvm.Term.int (0 : Int32)))))) : Jvm.Cond).before args0 about1 = true := by decide +kernel
set_option maxRecDepth 65536 in
theorem w_n6 : ((Jvm.Cond.eq (Jvm.Term.elem (Jvm.Term.static "com/example/tidewire/tidewire/fix/Tags" "IS_HEADER" "[Z") (Jvm.Term.int (34 : Int32))) (Jvm.Term.int (1 : Int32))) : Jvm.Cond).before args0 about1 = true := by decide +kernel
set_option maxRecDepth 65536 in
theorem w_n7 : ((Jvm.Cond.eq (Jvm.Term.elem (Jvm.Term.static "com/example/tidewire/tidewire/fix/Tags" "IS_HEADER" "[Z") (Jvm.Term.int (35 : Int32))) (Jvm.Term.int (1 : Int32))) : Jvm.Cond).before args0 about1 = true := by decide +kernel
set_option maxRecDepth 65536 in
theorem w_n8 : ((Jvm.Cond.all (Jvm.Term.static "com/example/tidewire/tidewire/fix/Tags" "IS_HEADER" "[Z") (Jvm.Cond.or (Jvm.Cond.lt (Jvm.Term.index (0 : Nat)) (Jvm.Term.int (36 : Int32))) (Jvm.Cond.or (Jvm.Cond.le (Jvm.Term.int (43 : Int32)) (Jvm.Term.index (0 : Nat))) (Jvm.Cond.eq (Jvm.Term.elem (Jvm.Term.static "com/example/tidewire/tidewire/fix/Tags" "IS_HEADER" "[Z") (Jvm.Term.index (0 : Nat))) (Jvm.Term.int (0 : Int32)))))) : Jvm.Cond).before args0 about1 = true := by decide +kernel
set_option maxRecDepth 65536 in
theorem w_n9 : ((Jvm.Cond.eq (Jvm.Term.elem (Jvm.Term.static "com/example/tidewire/tidewire/fix/Tags" "IS_HEADER" "[Z") (Jvm.Term.int (43 : Int32))) (Jvm.Term.int (1 : Int32))) : Jvm.Cond).before args0 about1 = true := by decide +kernel
set_option maxRecDepth 65536 in
theorem w_n10 : ((Jvm.Cond.all (Jvm.Term.static "com/example/tidewire/tidewire/fix/Tags" "IS_HEADER" "[Z") (Jvm.Cond.or (Jvm.Cond.lt (Jvm.Term.index (0 : Nat)) (Jvm.Term.int (44 : Int32))) (Jvm.Cond.or (Jvm.Cond.le (Jvm.Term.int (49 : Int32)) (Jvm.Term.index (0 : Nat))) (Jvm.Cond.eq (Jvm.Term.elem (Jvm.Term.static "com/example/tidewire/tidewire/fix/Tags" "IS_HEADER" "[Z") (Jvm.Term.index (0 : Nat))) (Jvm.Term.int (0 : Int32)))))) : Jvm.Cond).before args0 about1 = true := by decide +kernel
set_option maxRecDepth 65536 in
theorem w_n11 : ((Jvm.Cond.eq (Jvm.Term.elem (Jvm.Term.static "com/example/tidewire/tidewire/fix/Tags" "IS_HEADER" "[Z") (Jvm.Term.int (49 : Int32))) (Jvm.Term.int (1 : Int32))) : Jvm.Cond).before args0 about1 = true := by decide +kernel
set_option maxRecDepth 65536 in
theorem w_n12 : ((Jvm.Cond.eq (Jvm.Term.elem (Jvm.Term.static "com/example/tidewire/tidewire/fix/Tags" "IS_HEADER" "[Z") (Jvm.Term.int (50 : Int32))) (Jvm.Term.int (1 : Int32))) : Jvm.Cond).before args0 about1 = true := by decide +kernel
set_option maxRecDepth 65536 in
theorem w_n13 : ((Jvm.Cond.eq (Jvm.Term.elem (Jvm.Term.static "com/example/tidewire/tidewire/fix/Tags" "IS_HEADER" "[Z") (Jvm.Term.int (51 : Int32))) (Jvm.Term.int (0 : Int32))) : Jvm.Cond).before args0 about1 = true := by decide +kernel
set_option maxRecDepth 65536 in
theorem w_n14 : ((Jvm.Cond.eq (Jvm.Term.elem (Jvm.Term.static "com/example/tidewire/tidewire/fix/Tags" "IS_HEADER" "[Z") (Jvm.Term.int (52 : Int32))) (Jvm.Term.int (1 : Int32))) : Jvm.Cond).before args0 about1 = true := by decide +kernel
set_option maxRecDepth 65536 in
theorem w_n15 : ((Jvm.Cond.eq (Jvm.Term.elem (Jvm.Term.static "com/example/tidewire/tidewire/fix/Tags" "IS_HEADER" "[Z") (Jvm.Term.int (53 : Int32))) (Jvm.Term.int (0 : Int32))) : Jvm.Cond).before args0 about1 = true := by decide +kernel
set_option maxRecDepth 65536 in
theorem w_n16 : ((Jvm.Cond.eq (Jvm.Term.elem (Jvm.Term.static "com/example/tidewire/tidewire/fix/Tags" "IS_HEADER" "[Z") (Jvm.Term.int (54 : Int32))) (Jvm.Term.int (0 : Int32))) : Jvm.Cond).before args0 about1 = true := by decide +kernel
set_option maxRecDepth 65536 in
theorem w_n17 : ((Jvm.Cond.eq (Jvm.Term.elem (Jvm.Term.static "com/example/tidewire/tidewire/fix/Tags" "IS_HEADER" "[Z") (Jvm.Term.int (55 : Int32))) (Jvm.Term.int (0 : Int32))) : Jvm.Cond).before args0 about1 = true := by decide +kernel
set_option maxRecDepth 65536 in
theorem w_n18 : ((Jvm.Cond.eq (Jvm.Term.elem (Jvm.Term.static "com/example/tidewire/tidewire/fix/Tags" "IS_HEADER" "[Z") (Jvm.Term.int (56 : Int32))) (Jvm.Term.int (1 : Int32))) : Jvm.Cond).before args0 about1 = true := by decide +kernel
set_option maxRecDepth 65536 in
theorem w_n19 : ((Jvm.Cond.eq (Jvm.Term.elem (Jvm.Term.static "com/example/tidewire/tidewire/fix/Tags" "IS_HEADER" "[Z") (Jvm.Term.int (57 : Int32))) (Jvm.Term.int (1 : Int32))) : Jvm.Cond).before args0 about1 = true := by decide +kernel
set_option maxRecDepth 65536 in
theorem w_n20 : ((Jvm.Cond.all (Jvm.Term.static "com/example/tidewire/tidewire/fix/Tags" "IS_HEADER" "[Z") (Jvm.Cond.or (Jvm.Cond.lt (Jvm.Term.index (0 : Nat)) (Jvm.Term.int (58 : Int32))) (Jvm.Cond.or (Jvm.Cond.le (Jvm.Term.int (90 : Int32)) (Jvm.Term.index (0 : Nat))) (Jvm.Cond.eq (Jvm.Term.elem (Jvm.Term.static "com/example/tidewire/tidewire/fix/Tags" "IS_HEADER" "[Z") (Jvm.Term.index (0 : Nat))) (Jvm.Term.int (0 : Int32)))))) : Jvm.Cond).before args0 about1 = true := by decide +kernel
set_option maxRecDepth 65536 in
theorem w_n21 : ((Jvm.Cond.eq (Jvm.Term.elem (Jvm.Term.static "com/example/tidewire/tidewire/fix/Tags" "IS_HEADER" "[Z") (Jvm.Term.int (90 : Int32))) (Jvm.Term.int (1 : Int32))) : Jvm.Cond).before args0 about1 = true := by decide +kernel
set_option maxRecDepth 65536 in
theorem w_n22 : ((Jvm.Cond.eq (Jvm.Term.elem (Jvm.Term.static "com/example/tidewire/tidewire/fix/Tags" "IS_HEADER" "[Z") (Jvm.Term.int (91 : Int32))) (Jvm.Term.int (1 : Int32))) : Jvm.Cond).before args0 about1 = true := by decide +kernel
set_option maxRecDepth 65536 in
theorem w_n23 : ((Jvm.Cond.all (Jvm.Term.static "com/example/tidewire/tidewire/fix/Tags" "IS_HEADER" "[Z") (Jvm.Cond.or (Jvm.Cond.lt (Jvm.Term.index (0 : Nat)) (Jvm.Term.int (92 : Int32))) (Jvm.Cond.or (Jvm.Cond.le (Jvm.Term.int (97 : Int32)) (Jvm.Term.index (0 : Nat))) (Jvm.Cond.eq (Jvm.Term.elem (Jvm.Term.static "com/example/tidewire/tidewire/fix/Tags" "IS_HEADER" "[Z") (Jvm.Term.index (0 : Nat))) (Jvm.Term.int (0 : Int32)))))) : Jvm.Cond).before args0 about1 = true := by decide +kernel
set_option maxRecDepth 65536 in
theorem w_n24 : ((Jvm.Cond.eq (Jvm.Term.elem (Jvm.Term.static "com/example/tidewire/tidewire/fix/Tags" "IS_HEADER" "[Z") (Jvm.Term.int (97 : Int32))) (Jvm.Term.int (1 : Int32))) : Jvm.Cond).before args0 about1 = true := by decide +kernel
set_option maxRecDepth 65536 in
theorem w_n25 : ((Jvm.Cond.all (Jvm.Term.static "com/example/tidewire/tidewire/fix/Tags" "IS_HEADER" "[Z") (Jvm.Cond.or (Jvm.Cond.lt (Jvm.Term.index (0 : Nat)) (Jvm.Term.int (98 : Int32))) (Jvm.Cond.or (Jvm.Cond.le (Jvm.Term.int (115 : Int32)) (Jvm.Term.index (0 : Nat))) (Jvm.Cond.eq (Jvm.Term.elem (Jvm.Term.static "com/example/tidewire/tidewire/fix/Tags" "IS_HEADER" "[Z") (Jvm.Term.index (0 : Nat))) (Jvm.Term.int (0 : Int32)))))) : Jvm.Cond).before args0 about1 = true := by decide +kernel
set_option maxRecDepth 65536 in
theorem w_n26 : ((Jvm.Cond.eq (Jvm.Term.elem (Jvm.Term.static "com/example/tidewire/tidewire/fix/Tags" "IS_HEADER" "[Z") (Jvm.Term.int (115 : Int32))) (Jvm.Term.int (1 : Int32))) : Jvm.Cond).before args0 about1 = true := by decide +kernel
set_option maxRecDepth 65536 in
theorem w_n27 : ((Jvm.Cond.eq (Jvm.Term.elem (Jvm.Term.static "com/example/tidewire/tidewire/fix/Tags" "IS_HEADER" "[Z") (Jvm.Term.int (116 : Int32))) (Jvm.Term.int (1 : Int32))) : Jvm.Cond).before args0 about1 = true := by decide +kernel
set_option maxRecDepth 65536 in
theorem w_n28 : ((Jvm.Cond.all (Jvm.Term.static "com/example/tidewire/tidewire/fix/Tags" "IS_HEADER" "[Z") (Jvm.Cond.or (Jvm.Cond.lt (Jvm.Term.index (0 : Nat)) (Jvm.Term.int (117 : Int32))) (Jvm.Cond.or (Jvm.Cond.le (Jvm.Term.int (122 : Int32)) (Jvm.Term.index (0 : Nat))) (Jvm.Cond.eq (Jvm.Term.elem (Jvm.Term.static "com/example/tidewire/tidewire/fix/Tags" "IS_HEADER" "[Z") (Jvm.Term.index (0 : Nat))) (Jvm.Term.int (0 : Int32)))))) : Jvm.Cond).before args0 about1 = true := by decide +kernel
set_option maxRecDepth 65536 in
theorem w_n29 : ((Jvm.Cond.eq (Jvm.Term.elem (Jvm.Term.static "com/example/tidewire/tidewire/fix/Tags" "IS_HEADER" "[Z") (Jvm.Term.int (122 : Int32))) (Jvm.Term.int (1 : Int32))) : Jvm.Cond).before args0 about1 = true := by decide +kernel
set_option maxRecDepth 65536 in
theorem w_n30 : ((Jvm.Cond.all (Jvm.Term.static "com/example/tidewire/tidewire/fix/Tags" "IS_HEADER" "[Z") (Jvm.Cond.or (Jvm.Cond.lt (Jvm.Term.index (0 : Nat)) (Jvm.Term.int (123 : Int32))) (Jvm.Cond.or (Jvm.Cond.le (Jvm.Term.int (128 : Int32)) (Jvm.Term.index (0 : Nat))) (Jvm.Cond.eq (Jvm.Term.elem (Jvm.Term.static "com/example/tidewire/tidewire/fix/Tags" "IS_HEADER" "[Z") (Jvm.Term.index (0 : Nat))) (Jvm.Term.int (0 : Int32)))))) : Jvm.Cond).before args0 about1 = true := by decide +kernel
set_option maxRecDepth 65536 in
theorem w_n31 : ((Jvm.Cond.eq (Jvm.Term.elem (Jvm.Term.static "com/example/tidewire/tidewire/fix/Tags" "IS_HEADER" "[Z") (Jvm.Term.int (128 : Int32))) (Jvm.Term.int (1 : Int32))) : Jvm.Cond).before args0 about1 = true := by decide +kernel
set_option maxRecDepth 65536 in
theorem w_n32 : ((Jvm.Cond.eq (Jvm.Term.elem (Jvm.Term.static "com/example/tidewire/tidewire/fix/Tags" "IS_HEADER" "[Z") (Jvm.Term.int (129 : Int32))) (Jvm.Term.int (1 : Int32))) : Jvm.Cond).before args0 about1 = true := by decide +kernel
set_option maxRecDepth 65536 in
theorem w_n33 : ((Jvm.Cond.all (Jvm.Term.static "com/example/tidewire/tidewire/fix/Tags" "IS_HEADER" "[Z") (Jvm.Cond.or (Jvm.Cond.lt (Jvm.Term.index (0 : Nat)) (Jvm.Term.int (130 : Int32))) (Jvm.Cond.or (Jvm.Cond.le (Jvm.Term.int (142 : Int32)) (Jvm.Term.index (0 : Nat))) (Jvm.Cond.eq (Jvm.Term.elem (Jvm.Term.static "com/example/tidewire/tidewire/fix/Tags" "IS_HEADER" "[Z") (Jvm.Term.index (0 : Nat))) (Jvm.Term.int (0 : Int32)))))) : Jvm.Cond).before args0 about1 = true := by decide +kernel
set_option maxRecDepth 65536 in
theorem w_n34 : ((Jvm.Cond.all (Jvm.Term.static "com/example/tidewire/tidewire/fix/Tags" "IS_HEADER" "[Z") (Jvm.Cond.or (Jvm.Cond.lt (Jvm.Term.index (0 : Nat)) (Jvm.Term.int (142 : Int32))) (Jvm.Cond.or (Jvm.Cond.le (Jvm.Term.int (146 : Int32)) (Jvm.Term.index (0 : Nat))) (Jvm.Cond.eq (Jvm.Term.elem (Jvm.Term.static "com/example/tidewire/tidewire/fix/Tags" "IS_HEADER" "[Z") (Jvm.Term.index (0 : Nat))) (Jvm.Term.int (1 : Int32)))))) : Jvm.Cond).before args0 about1 = true := by decide +kernel
set_option maxRecDepth 65536 in
theorem w_n35 : ((Jvm.Cond.all (Jvm.Term.static "com/example/tidewire/tidewire/fix/Tags" "IS_HEADER" "[Z") (Jvm.Cond.or (Jvm.Cond.lt (Jvm.Term.index (0 : Nat)) (Jvm.Term.int (146 : Int32))) (Jvm.Cond.or (Jvm.Cond.le (Jvm.Term.int (212 : Int32)) (Jvm.Term.index (0 : Nat))) (Jvm.Cond.eq (Jvm.Term.elem (Jvm.Term.static "com/example/tidewire/tidewire/fix/Tags" "IS_HEADER" "[Z") (Jvm.Term.index (0 : Nat))) (Jvm.Term.int (0 : Int32)))))) : Jvm.Cond).before args0 about1 = true := by decide +kernel
set_option maxRecDepth 65536 in
theorem w_n36 : ((Jvm.Cond.eq (Jvm.Term.elem (Jvm.Term.static "com/example/tidewire/tidewire/fix/Tags" "IS_HEADER" "[Z") (Jvm.Term.int (212 : Int32))) (Jvm.Term.int (1 : Int32))) : Jvm.Cond).before args0 about1 = true := by decide +kernel
set_option maxRecDepth 65536 in
theorem w_n37 : ((Jvm.Cond.eq (Jvm.Term.elem (Jvm.Term.static "com/example/tidewire/tidewire/fix/Tags" "IS_HEADER" "[Z") (Jvm.Term.int (213 : Int32))) (Jvm.Term.int (1 : Int32))) : Jvm.Cond).before args0 about1 = true := by decide +kernel
set_option maxRecDepth 65536 in
theorem w_n38 : ((Jvm.Cond.all (Jvm.Term.static "com/example/tidewire/tidewire/fix/Tags" "IS_HEADER" "[Z") (Jvm.Cond.or (Jvm.Cond.lt (Jvm.Term.index (0 : Nat)) (Jvm.Term.int (214 : Int32))) (Jvm.Cond.or (Jvm.Cond.le (Jvm.Term.int (347 : Int32)) (Jvm.Term.index (0 : Nat))) (Jvm.Cond.eq (Jvm.Term.elem (Jvm.Term.static "com/example/tidewire/tidewire/fix/Tags" "IS_HEADER" "[Z") (Jvm.Term.index (0 : Nat))) (Jvm.Term.int (0 : Int32)))))) : Jvm.Cond).before args0 about1 = true := by decide +kernel
set_option maxRecDepth 65536 in
theorem w_n39 : ((Jvm.Cond.eq (Jvm.Term.elem (Jvm.Term.static "com/example/tidewire/tidewire/fix/Tags" "IS_HEADER" "[Z") (Jvm.Term.int (347 : Int32))) (Jvm.Term.int (1 : Int32))) : Jvm.Cond).before args0 about1 = true := by decide +kernel
set_option maxRecDepth 65536 in
theorem w_n40 : ((Jvm.Cond.all (Jvm.Term.static "com/example/tidewire/tidewire/fix/Tags" "IS_HEADER" "[Z") (Jvm.Cond.or (Jvm.Cond.lt (Jvm.Term.index (0 : Nat)) (Jvm.Term.int (348 : Int32))) (Jvm.Cond.or (Jvm.Cond.le (Jvm.Term.int (369 : Int32)) (Jvm.Term.index (0 : Nat))) (Jvm.Cond.eq (Jvm.Term.elem (Jvm.Term.static "com/example/tidewire/tidewire/fix/Tags" "IS_HEADER" "[Z") (Jvm.Term.index (0 : Nat))) (Jvm.Term.int (0 : Int32)))))) : Jvm.Cond).before args0 about1 = true := by decide +kernel
set_option maxRecDepth 65536 in
theorem w_n41 : ((Jvm.Cond.eq (Jvm.Term.elem (Jvm.Term.static "com/example/tidewire/tidewire/fix/Tags" "IS_HEADER" "[Z") (Jvm.Term.int (369 : Int32))) (Jvm.Term.int (1 : Int32))) : Jvm.Cond).before args0 about1 = true := by decide +kernel
set_option maxRecDepth 65536 in
theorem w_n42 : ((Jvm.Cond.all (Jvm.Term.static "com/example/tidewire/tidewire/fix/Tags" "IS_HEADER" "[Z") (Jvm.Cond.or (Jvm.Cond.lt (Jvm.Term.index (0 : Nat)) (Jvm.Term.int (370 : Int32))) (Jvm.Cond.or (Jvm.Cond.le (Jvm.Term.int (627 : Int32)) (Jvm.Term.index (0 : Nat))) (Jvm.Cond.eq (Jvm.Term.elem (Jvm.Term.static "com/example/tidewire/tidewire/fix/Tags" "IS_HEADER" "[Z") (Jvm.Term.index (0 : Nat))) (Jvm.Term.int (0 : Int32)))))) : Jvm.Cond).before args0 about1 = true := by decide +kernel
set_option maxRecDepth 65536 in
theorem w_n43 : ((Jvm.Cond.all (Jvm.Term.static "com/example/tidewire/tidewire/fix/Tags" "IS_HEADER" "[Z") (Jvm.Cond.or (Jvm.Cond.lt (Jvm.Term.index (0 : Nat)) (Jvm.Term.int (627 : Int32))) (Jvm.Cond.or (Jvm.Cond.le (Jvm.Term.int (631 : Int32)) (Jvm.Term.index (0 : Nat))) (Jvm.Cond.eq (Jvm.Term.elem (Jvm.Term.static "com/example/tidewire/tidewire/fix/Tags" "IS_HEADER" "[Z") (Jvm.Term.index (0 : Nat))) (Jvm.Term.int (1 : Int32)))))) : Jvm.Cond).before args0 about1 = true := by decide +kernel
set_option maxRecDepth 65536 in
theorem w_n44 : ((Jvm.Cond.all (Jvm.Term.static "com/example/tidewire/tidewire/fix/Tags" "IS_HEADER" "[Z") (Jvm.Cond.or (Jvm.Cond.lt (Jvm.Term.index (0 : Nat)) (Jvm.Term.int (631 : Int32))) (Jvm.Cond.eq (Jvm.Term.elem (Jvm.Term.static "com/example/tidewire/tidewire/fix/Tags" "IS_HEADER" "[Z") (Jvm.Term.index (0 : Nat))) (Jvm.Term.int (0 : Int32))))) : Jvm.Cond).before args0 about1 = true := by decide +kernel
theorem w_g : given_1.before args0 about1 = true := by decide +kernel
theorem w_case : (Jvm.Cond.and given_1 narrow_1).before args0 about1 = true := own_wand w_g (show narrow_1.before args0 about1 = true from (own_wand w_n0 (own_wand w_n1 (own_wand w_n2 (own_wand w_n3 (own_wand w_n4 (own_wand w_n5 (own_wand w_n6 (own_wand w_n7 (own_wand w_n8 (own_wand w_n9 (own_wand w_n10 (own_wand w_n11 (own_wand w_n12 (own_wand w_n13 (own_wand w_n14 (own_wand w_n15 (own_wand w_n16 (own_wand w_n17 (own_wand w_n18 (own_wand w_n19 (own_wand w_n20 (own_wand w_n21 (own_wand w_n22 (own_wand w_n23 (own_wand w_n24 (own_wand w_n25 (own_wand w_n26 (own_wand w_n27 (own_wand w_n28 (own_wand w_n29 (own_wand w_n30 (own_wand w_n31 (own_wand w_n32 (own_wand w_n33 (own_wand w_n34 (own_wand w_n35 (own_wand w_n36 (own_wand w_n37 (own_wand w_n38 (own_wand w_n39 (own_wand w_n40 (own_wand w_n41 (own_wand w_n42 (own_wand w_n43 w_n44)))))))))))))))))))))))))))))))))))))))))))))
theorem w_applies : (headSpec (Jvm.Cond.code x code maxLocals ret :: tables_1) room_1).applies x e0.platform about1 = true :=
  (Spec.applies_iff w_frames).mpr ⟨w_running, w_runnable, w_alone, w_named, w_hears, w_ripe, w_room, w_tables⟩
theorem atStart : AtStart classFile x code maxLocals ret World_1 tables_1 room_1 Calls_1 rest_1 Pre_1 launch0 p0 e0 about1 theMethod args0 below0 :=
  ⟨lists_1, trivial, launch0.admits_env _ _ _, launch0.least_env, fairChoices_fair.cas, fairChoices_fair.clock, w_frames, w_args, w_heap, w_applies, trivial, trivial, w_case⟩
end start1
theorem witness_1 : WitnessClaimed_1 := ⟨start1.p0, start1.e0, start1.about1, start1.theMethod, start1.args0, start1.below0, start1.atStart⟩
end Jvm.Pilot.@@N@@
