import JvmDerived
import JvmDerived.Pilot.@@N@@Statement
import JvmDerived.Pilot.@@N@@Code
set_option linter.unusedVariables false
set_option linter.unusedSimpArgs false

namespace Jvm.Pilot.@@N@@
open Jvm Jvm.ClassFile Sem Op Lib Jvm.Free Jvm.Stand Jvm.LawKit Jvm.RoadKit Bundle Jvm.Pilot.@@N@@.Jvm.D
section OwnLayer
variable {p : Program} {l : Launch} {e : Env} {R : Room} {s : State} {m : MethodId} {args : Array Value} {below : List Frame} {meth : Method} {c : Code} {T : State} {locs : List Loc} {cells slots : Nat} {Z : State} {a0 : Array Value} {h : Heap} {K : State → Prop}
/-- the run from the frame g at T comes to a state of which K holds -/
def own_Go (p : Program) (e : Env) (below : List Frame) (K : State → Prop) (T : State) (g : JFrame) : Prop := ∃ t, Steps p.tables e below (T.setTop g) t ∧ K t
theorem own_go {T' : State} {g g' : JFrame} (st : ∀ t, Steps p.tables e below (T'.setTop g') t → Steps p.tables e below (T.setTop g) t) (k : own_Go p e below K T' g') : own_Go p e below K T g := by
  obtain ⟨t, h1, h2⟩ := k
  exact ⟨t, st t h1, h2⟩
/-- the method has returned, Q says what, and the frame is kept -/
def own_End (s : State) (below : List Frame) (Q : Option Value → Heap → List Loc → Prop) (C N : Nat) (t : State) : Prop :=
  ∃ o, t.status = .running ∧ Ended t below o ∧ ∃ v L, o = .returned v ∧ Q v t.heap L ∧ FrameEnd s o t L C N
/-- a contract, as the callers of this family ask it -/
abbrev own_Met (l : Launch) (Z : State) (y : MethodName) (bytes : ByteArray) (maxL : Nat) (ret : Option FieldType) (ws : List Jvm.Cond) (rm : Room) (as' : Array Value) (h : Heap) (Q : Option Value → Heap → List Loc → Prop) : Prop :=
  MetFree l y (head1 (Jvm.Cond.code y bytes maxL ret :: ws) rm) (fun a U => a = as' ∧ Z.Warmed39 U.vm ∧ U.heap = h) (fun _ _ _ _ _ => True) (fun _ U o U' => ∃ v L, o = .returned v ∧ Q v U'.heap L ∧ FrameEnd U o U' L rm.cells rm.slots)
theorem own_body {y : MethodName} {bytes : ByteArray} {maxL : Nat} {ret : Option FieldType} {ws : List Jvm.Cond} {rm : Room} {as' : Array Value} {h0 : Heap} {Q : Option Value → Heap → List Loc → Prop} {g : MethodId → JFrame}
    (hp : plainFor y = true) (hef : ∀ m, entryFrame m as' maxL = g m)
    (H : ∀ (p : Program) (e : Env) (s : State) (m : MethodId) (A : Array Value) (below : List Frame) (meth : Method) (c : Code) (T : State) (K : State → Prop), Stand p l e rm s m A below meth c T [] 0 0 → p.tables.exec = Jvm.exec → c.code = bytes → c.maxLocals = maxL → s.vm.findClass y.cls = some m.cls → meth.name = y.name → meth.sig.returnType = ret → meth.locks = false → Z.Warmed39 s.vm → T.heap = h0 → (∀ t, own_End s below Q rm.cells rm.slots t → K t) → own_Go p e below K T (g m)) :
    own_Met l Z y bytes maxL ret ws rm as' h0 Q := by
  refine MetFree.of_bodySF hp hisR ?_
  intro p e s m args below meth c s₁ Bd hml0 hP hK
  obtain ⟨rfl, hZ, hh⟩ := hP
  have e0 : s₁.heap = h0 := by rw [← hh, Bd.state]; rfl
  obtain ⟨t, h1, o, h2, h3, h4⟩ := H p e s m args below meth c s₁ _ (Stand.of_body Bd) Bd.exec Bd.bytes hml0 (findClass_of_methodNamed Bd.named) (name_of_methodNamed Bd.named Bd.method).1 Bd.returns Bd.notSynchronized hZ e0 (fun _ q => q)
  exact ⟨t, o, castTop (hef m) h1, h2, h3, h4⟩
theorem own_ret {Q : Option Value → Heap → List Loc → Prop} {C N : Nat} (X : Stand p l e R s m args below meth c T locs cells slots) (hx : p.tables.exec = Jvm.exec) (hlk : meth.locks = false) (hK : ∀ t, own_End s below Q C N t → K t) {pc : Nat} {Ls : Array Slot} {w : Value} {t : FieldType} {i : Instr} {rest : List Value} (hret : meth.sig.returnType = some t) (hn : narrow t w = w)
    (hi : (i = .ireturn ∧ (t = .int ∨ t = .boolean ∨ t = .byte ∨ t = .char ∨ t = .short) ∧ ∃ z, w = .int z) ∨ (i = .lreturn ∧ t = .long ∧ ∃ z, w = .long z) ∨ (i = .dreturn ∧ t = .double ∧ ∃ z, w = .double z) ∨ (i = .freturn ∧ t = .float ∧ ∃ z, w = .float z) ∨ (i = .areturn ∧ t.isReference = true ∧ w.isRef = true))
    (hd : decode c.code pc = .ok (i, 1)) (hC : cells ≤ C) (hN : slots ≤ N) (hQ : Q (some w) T.heap locs) : own_Go p e below K T (mkF m pc Ls (w :: rest)) := by
  obtain ⟨fs, hr, hrun, hended, hW, hsame⟩ := X.leave (v := some w) (fun h => by rw [hret] at h; cases h) hlk
  exact ⟨_, retOut X hx hret hn hi hd hr, hK _ ⟨_, hrun, hended, _, _, rfl, hQ, ⟨_, rfl⟩, hW, hsame.mono hC hN⟩⟩
theorem own_retI {Q : Option Value → Heap → List Loc → Prop} {C N : Nat} (X : Stand p l e R s m args below meth c T locs cells slots) (hx : p.tables.exec = Jvm.exec) (hlk : meth.locks = false) (hK : ∀ t, own_End s below Q C N t → K t) {pc : Nat} {Ls : Array Slot} {z : Int32} {rest : List Value} (hret : meth.sig.returnType = some .int)
    (hd : decode c.code pc = .ok (.ireturn, 1)) (hC : cells ≤ C) (hN : slots ≤ N) (hQ : Q (some (.int z)) T.heap locs) : own_Go p e below K T (mkF m pc Ls (.int z :: rest)) :=
  own_ret X hx hlk hK hret rfl (Or.inl ⟨rfl, Or.inl rfl, z, rfl⟩) hd hC hN hQ
theorem own_retZ {Q : Option Value → Heap → List Loc → Prop} {C N : Nat} (X : Stand p l e R s m args below meth c T locs cells slots) (hx : p.tables.exec = Jvm.exec) (hlk : meth.locks = false) (hK : ∀ t, own_End s below Q C N t → K t) {pc : Nat} {Ls : Array Slot} {z : Int32} {rest : List Value} (hret : meth.sig.returnType = some .boolean) (hz : z &&& 1 = z)
    (hd : decode c.code pc = .ok (.ireturn, 1)) (hC : cells ≤ C) (hN : slots ≤ N) (hQ : Q (some (.int z)) T.heap locs) : own_Go p e below K T (mkF m pc Ls (.int z :: rest)) :=
  own_ret X hx hlk hK hret (by show Value.int (z &&& 1) = _; rw [hz]) (Or.inl ⟨rfl, Or.inr (Or.inl rfl), z, rfl⟩) hd hC hN hQ
theorem own_retR {Q : Option Value → Heap → List Loc → Prop} {C N : Nat} (X : Stand p l e R s m args below meth c T locs cells slots) (hx : p.tables.exec = Jvm.exec) (hlk : meth.locks = false) (hK : ∀ t, own_End s below Q C N t → K t) {pc : Nat} {Ls : Array Slot} {w : Value} {t : FieldType} {rest : List Value} (hret : meth.sig.returnType = some t) (ht : t.isReference = true) (hw : w.isRef = true)
    (hd : decode c.code pc = .ok (.areturn, 1)) (hC : cells ≤ C) (hN : slots ≤ N) (hQ : Q (some w) T.heap locs) : own_Go p e below K T (mkF m pc Ls (w :: rest)) :=
  own_ret X hx hlk hK hret (by cases t <;> first | (cases ht; done) | rfl) (Or.inr (Or.inr (Or.inr (Or.inr ⟨rfl, ht, hw⟩)))) hd hC hN hQ
theorem own_retV {Q : Option Value → Heap → List Loc → Prop} {C N : Nat} (X : Stand p l e R s m args below meth c T locs cells slots) (hx : p.tables.exec = Jvm.exec) (hlk : meth.locks = false) (hK : ∀ t, own_End s below Q C N t → K t) {pc : Nat} {Ls : Array Slot} (hret : meth.sig.returnType = none)
    (hd : decode c.code pc = .ok (.return_, 1)) (hC : cells ≤ C) (hN : slots ≤ N) (hQ : Q none T.heap locs) : own_Go p e below K T (mkF m pc Ls []) := by
  obtain ⟨fs, hr, hrun, hended, hW, hsame⟩ := X.leave (v := none) (fun _ => rfl) hlk
  exact ⟨_, X.returnOut hx hret hd hr, hK _ ⟨_, hrun, hended, _, _, rfl, hQ, ⟨_, rfl⟩, hW, hsame.mono hC hN⟩⟩
theorem own_callS (X : Stand p l e R s m args below meth c T locs cells slots) (hx : p.tables.exec = Jvm.exec) (hZ : Z.Warmed39 s.vm) {own : String} {index : Nat} {y : MethodName} {bytes : ByteArray} {maxL : Nat} {ret : Option FieldType}
    (hown : s.vm.findClass own = some m.cls) (wl : (Jvm.Cond.methodLink own index y).before a0 Z = true) (wt : (Jvm.Cond.static y).before a0 Z = true) (wz : (Jvm.Cond.initialized y.cls).before a0 Z = true) (wc : (Jvm.Cond.code y bytes maxL ret).before a0 Z = true)
    (hy : y.cls ≠ "java/lang/invoke/MethodHandle" ∧ y.cls ≠ "java/lang/invoke/VarHandle") (eT : T.heap = h) {rm : Room} {Q : Option Value → Heap → List Loc → Prop} {argsL rest : List Value} (hM : own_Met l Z y bytes maxL ret [] rm argsL.toArray h Q)
    {W : Nat} (hf : rm.frames + 1 ≤ R.frames) (hl : W + (maxL + 11) + rm.locals ≤ R.locals) (hc : cells + rm.cells ≤ R.cells) (hs : slots + rm.slots ≤ R.slots)
    {g : JFrame} (hg : g.method = m) (hsize : g.locals.size = c.maxLocals) (hlen : ∀ sig, parseMethodDescriptor y.desc = some sig → argsL.length = sig.parameters.length)
    (hstack : g.stack = argsL.reverse ++ rest) (hW : 2 * g.monitorRoom + (rest.map fun v => v.category).sum ≤ W) (hd : decode c.code g.pc = .ok (.invokestatic index, 3))
    (k : ∀ (v : Option Value) (T' : State) (L : List Loc), Stand p l e R s m args below meth c T' (locs ++ L) (cells + rm.cells) (slots + rm.slots) → Q v T'.heap L → own_Go p e below K T' { g with pc := g.pc + 3, stack := v.toList ++ rest }) : own_Go p e below K T g := by
  obtain ⟨v, vm₁, ⟨T', L', k', n'⟩, -, X', ⟨L, hQ, hl', hk', hn'⟩, st⟩ := Jvm.LawKit.callS X hx (y := y) hown (mvT hZ wl) (mvT hZ wt) (mvT hZ wz) (mvT hZ wc) hy (backOf (W := W) hM hZ wc wz hf hl) (g := g) hg hsize (argsL := argsL) (rest := rest) hlen hstack hW hd (fun _ _ => ⟨rfl, eT, hc, hs⟩)
  dsimp only [Pt.U, Pt.locs, Pt.cells, Pt.slots] at X' hl' hk' hn' st hQ
  subst hl' hk' hn'
  exact own_go st (k v T' L X' hQ)
theorem own_callI (X : Stand p l e R s m args below meth c T locs cells slots) (hx : p.tables.exec = Jvm.exec) (hZ : Z.Warmed39 s.vm) {own : String} {index : Nat} {y : MethodName} (hy1 : y.name = "<init>") {bytes : ByteArray} {maxL : Nat}
    (hown : s.vm.findClass own = some m.cls) (wl : (Jvm.Cond.methodLink own index y).before a0 Z = true) (wt : (Jvm.Cond.instanceMethod y).before a0 Z = true) (wz : (Jvm.Cond.initialized y.cls).before a0 Z = true) (wc : (Jvm.Cond.code y bytes maxL none).before a0 Z = true)
    (hy : y.cls ≠ "java/lang/invoke/MethodHandle" ∧ y.cls ≠ "java/lang/invoke/VarHandle") (eT : T.heap = h) {rm : Room} {Q : Option Value → Heap → List Loc → Prop} {a : Addr} {argsL rest : List Value} (hM : own_Met l Z y bytes maxL none [] rm (.ref a :: argsL).toArray h Q)
    {W : Nat} (hf : rm.frames + 1 ≤ R.frames) (hl : W + (maxL + 11) + rm.locals ≤ R.locals) (hc : cells + rm.cells ≤ R.cells) (hs : slots + rm.slots ≤ R.slots)
    {g : JFrame} (hg : g.method = m) (hsize : g.locals.size = c.maxLocals) (hlen : ∀ sig, parseMethodDescriptor y.desc = some sig → argsL.length = sig.parameters.length)
    (hstack : g.stack = argsL.reverse ++ .ref a :: rest) (hW : 2 * g.monitorRoom + (rest.map fun v => v.category).sum ≤ W) (hd : decode c.code g.pc = .ok (.invokespecial index, 3))
    (k : ∀ (v : Option Value) (T' : State) (L : List Loc), Stand p l e R s m args below meth c T' (locs ++ L) (cells + rm.cells) (slots + rm.slots) → Q v T'.heap L → own_Go p e below K T' { g with pc := g.pc + 3, stack := v.toList ++ rest }) : own_Go p e below K T g := by
  obtain ⟨v, vm₁, ⟨T', L', k', n'⟩, -, X', ⟨L, hQ, hl', hk', hn'⟩, st⟩ := X.specialBack hx (y := y) hy1 hown (mvT hZ wl) (mvT hZ wt) (mvT hZ wc) hy (backOf (W := W) hM hZ wc wz hf hl) (g := g) hg hsize (Steps.refl _) (a := a) (argsL := argsL) (rest := rest) hlen hstack hW hd (fun _ _ => ⟨rfl, eT, hc, hs⟩)
  dsimp only [Pt.U, Pt.locs, Pt.cells, Pt.slots] at X' hl' hk' hn' st hQ
  subst hl' hk' hn'
  exact own_go (fun _ q => st.trans q) (k v T' L X' hQ)
theorem own_callV (X : Stand p l e R s m args below meth c T locs cells slots) (hx : p.tables.exec = Jvm.exec) (hZ : Z.Warmed39 s.vm) {own C : String} {index : Nat} {y z : MethodName} {bytes : ByteArray} {maxL : Nat} {ret : Option FieldType}
    (hown : s.vm.findClass own = some m.cls) (wl : (Jvm.Cond.methodLink own index y).before a0 Z = true) (wd : (Jvm.Cond.declares y).before a0 Z = true) (hnf : NotFace s y) (wsel : (Jvm.Cond.selects C y z).before a0 Z = true) (wt : (Jvm.Cond.instanceMethod z).before a0 Z = true) (wz : (Jvm.Cond.initialized z.cls).before a0 Z = true) (wc : (Jvm.Cond.code z bytes maxL ret).before a0 Z = true)
    (hy : y.cls ≠ "java/lang/invoke/MethodHandle" ∧ y.cls ≠ "java/lang/invoke/VarHandle") (eT : T.heap = h) {rm : Room} {Q : Option Value → Heap → List Loc → Prop} {a : Addr} (E : Exa Z h a C) {argsL rest : List Value} (hM : own_Met l Z z bytes maxL ret [] rm (.ref a :: argsL).toArray h Q)
    {W : Nat} (hf : rm.frames + 1 ≤ R.frames) (hl : W + (maxL + 11) + rm.locals ≤ R.locals) (hc : cells + rm.cells ≤ R.cells) (hs : slots + rm.slots ≤ R.slots)
    {g : JFrame} (hg : g.method = m) (hsize : g.locals.size = c.maxLocals) (hlen : ∀ sig, parseMethodDescriptor y.desc = some sig → argsL.length = sig.parameters.length)
    (hstack : g.stack = argsL.reverse ++ .ref a :: rest) (hW : 2 * g.monitorRoom + (rest.map fun v => v.category).sum ≤ W) (hd : decode c.code g.pc = .ok (.invokevirtual index, 3))
    (k : ∀ (v : Option Value) (T' : State) (L : List Loc), Stand p l e R s m args below meth c T' (locs ++ L) (cells + rm.cells) (slots + rm.slots) → Q v T'.heap L → own_Go p e below K T' { g with pc := g.pc + 3, stack := v.toList ++ rest }) : own_Go p e below K T g := by
  obtain ⟨cq, kq, qa, qb, qc⟩ := isOf hZ eT E
  obtain ⟨v, vm₁, ⟨T', L', k', n'⟩, -, X', ⟨L, hQ, hl', hk', hn'⟩, st⟩ := X.virtualBack hx (y := y) (z := z) hown (mvT hZ wl) (mvT hZ wd) hnf (mvT hZ wsel) (mvT hZ wt) hy (backOf (W := W) hM hZ wc wz hf hl) qa qc (g := g) hg hsize (Steps.refl _) (argsL := argsL) (rest := rest) hlen hstack hW hd (fun _ _ => ⟨rfl, eT, hc, hs⟩)
  dsimp only [Pt.U, Pt.locs, Pt.cells, Pt.slots] at X' hl' hk' hn' st hQ
  subst hl' hk' hn'
  exact own_go (fun _ q => st.trans q) (k v T' L X' hQ)
theorem own_callF (X : Stand p l e R s m args below meth c T locs cells slots) (hx : p.tables.exec = Jvm.exec) (hZ : Z.Warmed39 s.vm) {own C : String} {index count : Nat} {xi z : MethodName} {bytes : ByteArray} {maxL : Nat} {ret : Option FieldType}
    (hown : s.vm.findClass own = some m.cls) (wl : (Jvm.Cond.methodLink own index xi).before a0 Z = true) (wd : (Jvm.Cond.declares xi).before a0 Z = true) (wf : (Jvm.Cond.interfaceMethod xi.cls xi.cls xi.name xi.desc).before args s = true) (wsel : (Jvm.Cond.selects C xi z).before a0 Z = true) (wt : (Jvm.Cond.instanceMethod z).before a0 Z = true)
    (wp : (Jvm.Cond.publicMethod z).before a0 Z = true) (wu : (Jvm.Cond.unhidden C xi.name xi.desc).before a0 Z = true) (wk : (Jvm.Cond.castable C xi.cls).before a0 Z = true) (wz : (Jvm.Cond.initialized z.cls).before a0 Z = true) (wc : (Jvm.Cond.code z bytes maxL ret).before a0 Z = true)
    (hy : xi.cls ≠ "java/lang/invoke/MethodHandle" ∧ xi.cls ≠ "java/lang/invoke/VarHandle") (eT : T.heap = h) {rm : Room} {Q : Option Value → Heap → List Loc → Prop} {a : Addr} (E : Exa Z h a C) {argsL rest : List Value} (hM : own_Met l Z z bytes maxL ret [] rm (.ref a :: argsL).toArray h Q)
    {W : Nat} (hf : rm.frames + 1 ≤ R.frames) (hl : W + (maxL + 11) + rm.locals ≤ R.locals) (hc : cells + rm.cells ≤ R.cells) (hs : slots + rm.slots ≤ R.slots)
    {g : JFrame} (hg : g.method = m) (hsize : g.locals.size = c.maxLocals) (hlen : ∀ sig, parseMethodDescriptor xi.desc = some sig → argsL.length = sig.parameters.length)
    (hstack : g.stack = argsL.reverse ++ .ref a :: rest) (hW : 2 * g.monitorRoom + (rest.map fun v => v.category).sum ≤ W) (hd : decode c.code g.pc = .ok (.invokeinterface index count, 5))
    (k : ∀ (v : Option Value) (T' : State) (L : List Loc), Stand p l e R s m args below meth c T' (locs ++ L) (cells + rm.cells) (slots + rm.slots) → Q v T'.heap L → own_Go p e below K T' { g with pc := g.pc + 5, stack := v.toList ++ rest }) : own_Go p e below K T g := by
  obtain ⟨cq, kq, qa, qb, qc⟩ := isOf hZ eT E
  obtain ⟨v, vm₁, ⟨T', L', k', n'⟩, -, X', ⟨L, hQ, hl', hk', hn'⟩, st⟩ := X.interfaceBack hx (xi := xi) (y := z) hown (mvT hZ wl) (mvT hZ wd) wf (mvT hZ wsel) (mvT hZ wt) (mvT hZ wp) (mvT hZ wu) (mvT hZ wk) hy (backOf (W := W) hM hZ wc wz hf hl) qa qb qc (g := g) hg hsize (Steps.refl _) (argsL := argsL) (rest := rest) hlen hstack hW hd (fun _ _ => ⟨rfl, eT, hc, hs⟩)
  dsimp only [Pt.U, Pt.locs, Pt.cells, Pt.slots] at X' hl' hk' hn' st hQ
  subst hl' hk' hn'
  exact own_go (fun _ q => st.trans q) (k v T' L X' hQ)
theorem own_callP (X : Stand p l e R s m args below meth c T locs cells slots) (hx : p.tables.exec = Jvm.exec) (hZ : Z.Warmed39 s.vm) {own : String} {index : Nat} {y : MethodName} {bytes : ByteArray} {maxL : Nat} {ret : Option FieldType}
    (hown : s.vm.findClass own = some m.cls) (wl : (Jvm.Cond.methodLink own index y).before a0 Z = true) (wt : (Jvm.Cond.instanceMethod y).before a0 Z = true) (wsel : (Jvm.Cond.selects y.cls y y).before a0 Z = true) (wp : (Jvm.Cond.privateMethod y).before a0 Z = true) (wz : (Jvm.Cond.initialized y.cls).before a0 Z = true) (wc : (Jvm.Cond.code y bytes maxL ret).before a0 Z = true)
    (hy : y.cls ≠ "java/lang/invoke/MethodHandle" ∧ y.cls ≠ "java/lang/invoke/VarHandle") (eT : T.heap = h) {rm : Room} {Q : Option Value → Heap → List Loc → Prop} {a : Addr} {C : String} (E : Exa Z h a C) {argsL rest : List Value} (hM : own_Met l Z y bytes maxL ret [] rm (.ref a :: argsL).toArray h Q)
    {W : Nat} (hf : rm.frames + 1 ≤ R.frames) (hl : W + (maxL + 11) + rm.locals ≤ R.locals) (hc : cells + rm.cells ≤ R.cells) (hs : slots + rm.slots ≤ R.slots)
    {g : JFrame} (hg : g.method = m) (hsize : g.locals.size = c.maxLocals) (hlen : ∀ sig, parseMethodDescriptor y.desc = some sig → argsL.length = sig.parameters.length)
    (hstack : g.stack = argsL.reverse ++ .ref a :: rest) (hW : 2 * g.monitorRoom + (rest.map fun v => v.category).sum ≤ W) (hd : decode c.code g.pc = .ok (.invokevirtual index, 3))
    (k : ∀ (v : Option Value) (T' : State) (L : List Loc), Stand p l e R s m args below meth c T' (locs ++ L) (cells + rm.cells) (slots + rm.slots) → Q v T'.heap L → own_Go p e below K T' { g with pc := g.pc + 3, stack := v.toList ++ rest }) : own_Go p e below K T g := by
  obtain ⟨cq, q1, q2⟩ := E.cell
  obtain ⟨v, vm₁, ⟨T', L', k', n'⟩, -, X', ⟨L, hQ, hl', hk', hn'⟩, st⟩ := X.privateBack hx (y := y) hown (mvT hZ wl) (mvT hZ wt) (mvT hZ wsel) (Cond.privateMethod_at (mvP hZ wp (args := #[]))) (mvT hZ wc) hy (backOf (W := W) hM hZ wc wz hf hl) (g := g) hg hsize (Steps.refl _) (a := a) (by rw [eT]; exact q1) q2 (argsL := argsL) (rest := rest) hlen hstack hW hd (fun _ _ => ⟨rfl, eT, hc, hs⟩)
  dsimp only [Pt.U, Pt.locs, Pt.cells, Pt.slots] at X' hl' hk' hn' st hQ
  subst hl' hk' hn'
  exact own_go (fun _ q => st.trans q) (k v T' L X' hQ)
theorem own_ins_keep {h h' : Heap} {a : Addr} {C : String} {b : Bool} {ws : List Addr} (F : Ins Z h a C b) (K : Keep h h' ws) : Ins Z h' a C b := by
  obtain ⟨cell, cT, h1, h2, h3⟩ := F
  obtain ⟨c', q1, q2, q3, -⟩ := K.2.2 _ _ h1
  exact ⟨c', cT, q1, h2, by rw [q2, q3]; exact h3⟩
theorem own_ne_arv {h : Heap} {a b : Addr} {C : String} {n : Nat} {k : ClassId} {ty : FieldType} {z : Int32} {vs : List Value} {d : Value} (F : Exa Z h a C) (wi : (Jvm.Cond.instantiable C n).before a0 Z = true) (G : Arv Z h b k ty z vs d) : a ≠ b := by
  obtain ⟨c, A, -⟩ := G
  exact ne_arr F wi A
end OwnLayer
theorem own_d1_0 : decode prog_23_method_4_code 0 = .ok (.aconst_null, 1) := by decide +kernel
theorem own_d1_1 : decode prog_23_method_4_code 1 = .ok (.astore_n 1, 1) := by decide +kernel
theorem own_d1_2 : decode prog_23_method_4_code 2 = .ok (.getstatic 39, 3) := by decide +kernel
theorem own_d1_5 : decode prog_23_method_4_code 5 = .ok (.astore_n 2, 1) := by decide +kernel
theorem own_d1_6 : decode prog_23_method_4_code 6 = .ok (.aload_n 2, 1) := by decide +kernel
theorem own_d1_7 : decode prog_23_method_4_code 7 = .ok (.arraylength, 1) := by decide +kernel
theorem own_d1_8 : decode prog_23_method_4_code 8 = .ok (.istore_n 3, 1) := by decide +kernel
theorem own_d1_9 : decode prog_23_method_4_code 9 = .ok (.iconst 0, 1) := by decide +kernel
theorem own_d1_10 : decode prog_23_method_4_code 10 = .ok (.istore 4, 2) := by decide +kernel
theorem own_d1_12 : decode prog_23_method_4_code 12 = .ok (.iload 4, 2) := by decide +kernel
theorem own_d1_14 : decode prog_23_method_4_code 14 = .ok (.iload_n 3, 1) := by decide +kernel
theorem own_d1_15 : decode prog_23_method_4_code 15 = .ok (.if_icmp .ge 30, 3) := by decide +kernel
theorem own_d1_18 : decode prog_23_method_4_code 18 = .ok (.aload_n 2, 1) := by decide +kernel
theorem own_d1_19 : decode prog_23_method_4_code 19 = .ok (.iload 4, 2) := by decide +kernel
theorem own_d1_21 : decode prog_23_method_4_code 21 = .ok (.aaload, 1) := by decide +kernel
theorem own_d1_22 : decode prog_23_method_4_code 22 = .ok (.astore 5, 2) := by decide +kernel
theorem own_d1_24 : decode prog_23_method_4_code 24 = .ok (.aload 5, 2) := by decide +kernel
theorem own_d1_26 : decode prog_23_method_4_code 26 = .ok (.getfield 35, 3) := by decide +kernel
theorem own_d1_29 : decode prog_23_method_4_code 29 = .ok (.iload_n 0, 1) := by decide +kernel
theorem own_d1_30 : decode prog_23_method_4_code 30 = .ok (.if_icmp .ne 9, 3) := by decide +kernel
theorem own_d1_33 : decode prog_23_method_4_code 33 = .ok (.aload 5, 2) := by decide +kernel
theorem own_d1_35 : decode prog_23_method_4_code 35 = .ok (.astore_n 1, 1) := by decide +kernel
theorem own_d1_36 : decode prog_23_method_4_code 36 = .ok (.goto 9, 3) := by decide +kernel
theorem own_d1_39 : decode prog_23_method_4_code 39 = .ok (.iinc 4 1, 3) := by decide +kernel
theorem own_d1_42 : decode prog_23_method_4_code 42 = .ok (.goto (-30), 3) := by decide +kernel
theorem own_d1_45 : decode prog_23_method_4_code 45 = .ok (.aload_n 1, 1) := by decide +kernel
theorem own_d1_46 : decode prog_23_method_4_code 46 = .ok (.areturn, 1) := by decide +kernel
def own_of (ch : Int32) (a1 a2 a3 a4 : Addr) : Value := if (65 : Int32) = ch then .ref a1 else if (68 : Int32) = ch then .ref a2 else if (85 : Int32) = ch then .ref a3 else if (76 : Int32) = ch then .ref a4 else .null
def own_Qo (ch : Int32) (a1 a2 a3 a4 : Addr) (h0 : Heap) (n0 : Nat) (v : Option Value) (h : Heap) (L : List Loc) : Prop := v = some (own_of ch a1 a2 a3 a4) ∧ Fr n0 L ∧ h = h0
abbrev own_rmo : Room := { frames := 0, cells := 0, slots := 0, locals := 0 }
set_option maxRecDepth 65536 in
set_option maxHeartbeats 40000000 in
theorem own_mo (l : Launch) (Z : State) (a0 : Array Value) (hw : ∀ d ∈ tables_1, d.before a0 Z = true) (ch : Int32) (a1 a2 a3 a4 al : Addr) (kc : ClassId) (h0 : Heap) (n0 : Nat) (Z0 : n0 ≤ h0.size) (SA : Sta Z h0 "com/example/umbral/umbral/acl/Nfs4Acl$Type" "ALL" "[Lcom/example/umbral/umbral/acl/Nfs4Acl$Type;" (.ref al)) (VA : Arv Z h0 al kc (.object "com/example/umbral/umbral/acl/Nfs4Acl$Type") (4 : Int32) [(.ref a1), (.ref a2), (.ref a3), (.ref a4)] .null) (F1 : Fld Z h0 a1 "com/example/umbral/umbral/acl/Nfs4Acl$Type" "letter" "C" (.int (65 : Int32))) (F2 : Fld Z h0 a2 "com/example/umbral/umbral/acl/Nfs4Acl$Type" "letter" "C" (.int (68 : Int32))) (F3 : Fld Z h0 a3 "com/example/umbral/umbral/acl/Nfs4Acl$Type" "letter" "C" (.int (85 : Int32))) (F4 : Fld Z h0 a4 "com/example/umbral/umbral/acl/Nfs4Acl$Type" "letter" "C" (.int (76 : Int32))) :
    own_Met l Z (⟨"com/example/umbral/umbral/acl/Nfs4Acl$Type", "of", "(C)Lcom/example/umbral/umbral/acl/Nfs4Acl$Type;"⟩ : MethodName) prog_23_method_4_code 6 (some (.object "com/example/umbral/umbral/acl/Nfs4Acl$Type")) [] own_rmo #[(.int ch)] h0 (own_Qo ch a1 a2 a3 a4 h0 n0) := by
  refine own_body (plainFor_of_name (by first | (simp [plainName, overriddenIn]; done) | decide +kernel)) (g := fun m => mkF m 0 #[.val (.int ch), .unset, .unset, .unset, .unset, .unset] []) (fun m => by first | (simp [entryFrame, mkF, argsToLocals, Value.category]; done) | rfl) ?_
  intro p e s m A below meth c T0 K X0 hx hby hml hown hnm hret hlk hZ e0 hK
  have N0 := Fr.nil n0
  show own_Go p e below K T0 (mkF m 0 #[.val (.int ch), .unset, .unset, .unset, .unset, .unset] [])
  refine own_go (fun _ kk' => XS.aconstNull X0.here hx rfl (hb hby own_d1_0) kk') ?_
  show own_Go p e below K T0 (mkF m 1 #[.val (.int ch), .unset, .unset, .unset, .unset, .unset] [.null])
  refine own_go (fun _ kk' => XS.astoreN X0.here hx rfl (hb hby own_d1_1) rfl rfl (l' := #[.val (.int ch), .val .null, .unset, .unset, .unset, .unset]) rfl kk') ?_
  show own_Go p e below K T0 (mkF m 2 #[.val (.int ch), .val .null, .unset, .unset, .unset, .unset] [])
  obtain ⟨T1, X1, e1, st1⟩ := getS2 X0 hx hZ hown (host := "") (Or.inl (hw _ (List.mem_of_getElem? (i := 7) rfl))) Via.refl e0 SA (g := (mkF m 2 #[.val (.int ch), .val .null, .unset, .unset, .unset, .unset] [])) rfl (hb hby own_d1_2)
  refine own_go st1 ?_
  show own_Go p e below K T1 (mkF m 5 #[.val (.int ch), .val .null, .unset, .unset, .unset, .unset] [(.ref al)])
  refine own_go (fun _ kk' => XS.astoreN X1.here hx rfl (hb hby own_d1_5) rfl rfl (l' := #[.val (.int ch), .val .null, .val (.ref al), .unset, .unset, .unset]) rfl kk') ?_
  show own_Go p e below K T1 (mkF m 6 #[.val (.int ch), .val .null, .val (.ref al), .unset, .unset, .unset] [])
  refine own_go (fun _ kk' => XS.aloadN X1.here hx rfl (hb hby own_d1_6) rfl rfl  kk') ?_
  show own_Go p e below K T1 (mkF m 7 #[.val (.int ch), .val .null, .val (.ref al), .unset, .unset, .unset] [(.ref al)])
  obtain ⟨cl2, Ar2, -, S2, Nn2, -, -⟩ := (id VA)
  refine own_go (fun tt' kk' => X1.arraylength hx (by rw [e1]; exact Ar2.1) (State.isArrayOf_alike hZ.alike Ar2.2.1) (g := (mkF m 7 #[.val (.int ch), .val .null, .val (.ref al), .unset, .unset, .unset] [(.ref al)])) rfl rfl (hb hby own_d1_7) tt' kk') ?_
  rw [len_of S2 Nn2]
  show own_Go p e below K T1 (mkF m 8 #[.val (.int ch), .val .null, .val (.ref al), .unset, .unset, .unset] [(.int (4 : Int32))])
  refine own_go (fun _ kk' => XS.istoreN X1.here hx rfl (hb hby own_d1_8) rfl (l' := #[.val (.int ch), .val .null, .val (.ref al), .val (.int (4 : Int32)), .unset, .unset]) rfl kk') ?_
  show own_Go p e below K T1 (mkF m 9 #[.val (.int ch), .val .null, .val (.ref al), .val (.int (4 : Int32)), .unset, .unset] [])
  refine own_go (fun _ kk' => XS.iconst X1.here hx rfl (hb hby own_d1_9) kk') ?_
  show own_Go p e below K T1 (mkF m 10 #[.val (.int ch), .val .null, .val (.ref al), .val (.int (4 : Int32)), .unset, .unset] [(.int (0 : Int32))])
  refine own_go (fun _ kk' => XS.istore X1.here hx rfl (hb hby own_d1_10) rfl (l' := #[.val (.int ch), .val .null, .val (.ref al), .val (.int (4 : Int32)), .val (.int (0 : Int32)), .unset]) rfl kk') ?_
  show own_Go p e below K T1 (mkF m 12 #[.val (.int ch), .val .null, .val (.ref al), .val (.int (4 : Int32)), .val (.int (0 : Int32)), .unset] [])
  refine own_go (fun _ kk' => XS.iload X1.here hx rfl (hb hby own_d1_12) rfl  kk') ?_
  show own_Go p e below K T1 (mkF m 14 #[.val (.int ch), .val .null, .val (.ref al), .val (.int (4 : Int32)), .val (.int (0 : Int32)), .unset] [(.int (0 : Int32))])
  refine own_go (fun _ kk' => XS.iloadN X1.here hx rfl (hb hby own_d1_14) rfl  kk') ?_
  show own_Go p e below K T1 (mkF m 15 #[.val (.int ch), .val .null, .val (.ref al), .val (.int (4 : Int32)), .val (.int (0 : Int32)), .unset] [(.int (4 : Int32)), (.int (0 : Int32))])
  refine own_go (fun _ kk' => XS.icmpNo X1.here hx rfl (hb hby own_d1_15) rfl (tlt ((by decide) : (0 : Int32) < (4 : Int32))).2.1 kk') ?_
  show own_Go p e below K T1 (mkF m 18 #[.val (.int ch), .val .null, .val (.ref al), .val (.int (4 : Int32)), .val (.int (0 : Int32)), .unset] [])
  refine own_go (fun _ kk' => XS.aloadN X1.here hx rfl (hb hby own_d1_18) rfl rfl  kk') ?_
  show own_Go p e below K T1 (mkF m 19 #[.val (.int ch), .val .null, .val (.ref al), .val (.int (4 : Int32)), .val (.int (0 : Int32)), .unset] [(.ref al)])
  refine own_go (fun _ kk' => XS.iload X1.here hx rfl (hb hby own_d1_19) rfl  kk') ?_
  show own_Go p e below K T1 (mkF m 21 #[.val (.int ch), .val .null, .val (.ref al), .val (.int (4 : Int32)), .val (.int (0 : Int32)), .unset] [(.int (0 : Int32)), (.ref al)])
  obtain ⟨cl3, Ar3, -, S3, Nn3, H3, -⟩ := (id VA)
  have hin3 : ¬ ((0 : Int32) < 0 ∨ cl3.slots.size ≤ ((0 : Int32)).toNatClampNeg) := inb_of S3 ⟨by decide, by decide⟩
  refine own_go (fun tt' kk' => X1.aaload hx (j := (0 : Int32)) (v := (.ref a1)) (by rw [e1]; exact Ar3.1) (State.isArrayOf_alike hZ.alike Ar3.2.1) rfl Ar3.2.2 hin3 (Has.at H3 hin3 rfl) (g := (mkF m 21 #[.val (.int ch), .val .null, .val (.ref al), .val (.int (4 : Int32)), .val (.int (0 : Int32)), .unset] [(.int (0 : Int32)), (.ref al)])) rfl rfl (hb hby own_d1_21) tt' kk') ?_
  show own_Go p e below K T1 (mkF m 22 #[.val (.int ch), .val .null, .val (.ref al), .val (.int (4 : Int32)), .val (.int (0 : Int32)), .unset] [(.ref a1)])
  refine own_go (fun _ kk' => XS.astore X1.here hx rfl (hb hby own_d1_22) rfl rfl (l' := #[.val (.int ch), .val .null, .val (.ref al), .val (.int (4 : Int32)), .val (.int (0 : Int32)), .val (.ref a1)]) rfl kk') ?_
  show own_Go p e below K T1 (mkF m 24 #[.val (.int ch), .val .null, .val (.ref al), .val (.int (4 : Int32)), .val (.int (0 : Int32)), .val (.ref a1)] [])
  refine own_go (fun _ kk' => XS.aload X1.here hx rfl (hb hby own_d1_24) rfl rfl  kk') ?_
  show own_Go p e below K T1 (mkF m 26 #[.val (.int ch), .val .null, .val (.ref al), .val (.int (4 : Int32)), .val (.int (0 : Int32)), .val (.ref a1)] [(.ref a1)])
  obtain ⟨T4, X4, e4, st4⟩ := getF X1 hx hZ hown (host := "") (Or.inl (hw _ (List.mem_of_getElem? (i := 10) rfl))) Via.refl e1 F1 (g := (mkF m 26 #[.val (.int ch), .val .null, .val (.ref al), .val (.int (4 : Int32)), .val (.int (0 : Int32)), .val (.ref a1)] [(.ref a1)])) rfl rfl (hb hby own_d1_26)
  refine own_go st4 ?_
  show own_Go p e below K T4 (mkF m 29 #[.val (.int ch), .val .null, .val (.ref al), .val (.int (4 : Int32)), .val (.int (0 : Int32)), .val (.ref a1)] [(.int (65 : Int32))])
  refine own_go (fun _ kk' => XS.iloadN X4.here hx rfl (hb hby own_d1_29) rfl  kk') ?_
  show own_Go p e below K T4 (mkF m 30 #[.val (.int ch), .val .null, .val (.ref al), .val (.int (4 : Int32)), .val (.int (0 : Int32)), .val (.ref a1)] [(.int ch), (.int (65 : Int32))])
  by_cases hc30_5 : (65 : Int32) = ch
  · refine own_go (fun _ kk' => XS.icmpNo X4.here hx rfl (hb hby own_d1_30) rfl (teq (hc30_5 : (65 : Int32) = ch)).2 kk') ?_
    show own_Go p e below K T4 (mkF m 33 #[.val (.int ch), .val .null, .val (.ref al), .val (.int (4 : Int32)), .val (.int (0 : Int32)), .val (.ref a1)] [])
    refine own_go (fun _ kk' => XS.aload X4.here hx rfl (hb hby own_d1_33) rfl rfl  kk') ?_
    show own_Go p e below K T4 (mkF m 35 #[.val (.int ch), .val .null, .val (.ref al), .val (.int (4 : Int32)), .val (.int (0 : Int32)), .val (.ref a1)] [(.ref a1)])
    refine own_go (fun _ kk' => XS.astoreN X4.here hx rfl (hb hby own_d1_35) rfl rfl (l' := #[.val (.int ch), .val (.ref a1), .val (.ref al), .val (.int (4 : Int32)), .val (.int (0 : Int32)), .val (.ref a1)]) rfl kk') ?_
    show own_Go p e below K T4 (mkF m 36 #[.val (.int ch), .val (.ref a1), .val (.ref al), .val (.int (4 : Int32)), .val (.int (0 : Int32)), .val (.ref a1)] [])
    refine own_go (fun _ kk' => XS.goto X4.here hx rfl (pc0 := 36) (pc' := 45) rfl (hb hby own_d1_36) (by decide) (by decide) kk') ?_
    show own_Go p e below K T4 (mkF m 45 #[.val (.int ch), .val (.ref a1), .val (.ref al), .val (.int (4 : Int32)), .val (.int (0 : Int32)), .val (.ref a1)] [])
    refine own_go (fun _ kk' => XS.aloadN X4.here hx rfl (hb hby own_d1_45) rfl rfl  kk') ?_
    show own_Go p e below K T4 (mkF m 46 #[.val (.int ch), .val (.ref a1), .val (.ref al), .val (.int (4 : Int32)), .val (.int (0 : Int32)), .val (.ref a1)] [(.ref a1)])
    exact own_retR X4 hx hlk hK hret rfl rfl (hb hby own_d1_46) (by decide) (by decide) ⟨by rw [show own_of ch a1 a2 a3 a4 = (.ref a1) from (if_pos hc30_5)], N0, e4⟩
  · refine own_go (fun _ kk' => XS.icmpYes X4.here hx rfl (pc0 := 30) (pc' := 39) rfl (hb hby own_d1_30) rfl (feq (hc30_5 : ¬ ((65 : Int32) = ch))).2 (by decide) (by decide) kk') ?_
    show own_Go p e below K T4 (mkF m 39 #[.val (.int ch), .val .null, .val (.ref al), .val (.int (4 : Int32)), .val (.int (0 : Int32)), .val (.ref a1)] [])
    refine own_go (fun _ kk' => XS.iinc X4.here hx rfl (hb hby own_d1_39) rfl (l' := #[.val (.int ch), .val .null, .val (.ref al), .val (.int (4 : Int32)), .val (.int (1 : Int32)), .val (.ref a1)]) rfl kk') ?_
    show own_Go p e below K T4 (mkF m 42 #[.val (.int ch), .val .null, .val (.ref al), .val (.int (4 : Int32)), .val (.int (1 : Int32)), .val (.ref a1)] [])
    refine own_go (fun _ kk' => XS.goto X4.here hx rfl (pc0 := 42) (pc' := 12) rfl (hb hby own_d1_42) (by decide) (by decide) kk') ?_
    show own_Go p e below K T4 (mkF m 12 #[.val (.int ch), .val .null, .val (.ref al), .val (.int (4 : Int32)), .val (.int (1 : Int32)), .val (.ref a1)] [])
    refine own_go (fun _ kk' => XS.iload X4.here hx rfl (hb hby own_d1_12) rfl  kk') ?_
    show own_Go p e below K T4 (mkF m 14 #[.val (.int ch), .val .null, .val (.ref al), .val (.int (4 : Int32)), .val (.int (1 : Int32)), .val (.ref a1)] [(.int (1 : Int32))])
    refine own_go (fun _ kk' => XS.iloadN X4.here hx rfl (hb hby own_d1_14) rfl  kk') ?_
    show own_Go p e below K T4 (mkF m 15 #[.val (.int ch), .val .null, .val (.ref al), .val (.int (4 : Int32)), .val (.int (1 : Int32)), .val (.ref a1)] [(.int (4 : Int32)), (.int (1 : Int32))])
    refine own_go (fun _ kk' => XS.icmpNo X4.here hx rfl (hb hby own_d1_15) rfl (tlt ((by decide) : (1 : Int32) < (4 : Int32))).2.1 kk') ?_
    show own_Go p e below K T4 (mkF m 18 #[.val (.int ch), .val .null, .val (.ref al), .val (.int (4 : Int32)), .val (.int (1 : Int32)), .val (.ref a1)] [])
    refine own_go (fun _ kk' => XS.aloadN X4.here hx rfl (hb hby own_d1_18) rfl rfl  kk') ?_
    show own_Go p e below K T4 (mkF m 19 #[.val (.int ch), .val .null, .val (.ref al), .val (.int (4 : Int32)), .val (.int (1 : Int32)), .val (.ref a1)] [(.ref al)])
    refine own_go (fun _ kk' => XS.iload X4.here hx rfl (hb hby own_d1_19) rfl  kk') ?_
    show own_Go p e below K T4 (mkF m 21 #[.val (.int ch), .val .null, .val (.ref al), .val (.int (4 : Int32)), .val (.int (1 : Int32)), .val (.ref a1)] [(.int (1 : Int32)), (.ref al)])
    obtain ⟨cl6, Ar6, -, S6, Nn6, H6, -⟩ := (id VA)
    have hin6 : ¬ ((1 : Int32) < 0 ∨ cl6.slots.size ≤ ((1 : Int32)).toNatClampNeg) := inb_of S6 ⟨by decide, by decide⟩
    refine own_go (fun tt' kk' => X4.aaload hx (j := (1 : Int32)) (v := (.ref a2)) (by rw [e4]; exact Ar6.1) (State.isArrayOf_alike hZ.alike Ar6.2.1) rfl Ar6.2.2 hin6 (Has.at H6 hin6 rfl) (g := (mkF m 21 #[.val (.int ch), .val .null, .val (.ref al), .val (.int (4 : Int32)), .val (.int (1 : Int32)), .val (.ref a1)] [(.int (1 : Int32)), (.ref al)])) rfl rfl (hb hby own_d1_21) tt' kk') ?_
    show own_Go p e below K T4 (mkF m 22 #[.val (.int ch), .val .null, .val (.ref al), .val (.int (4 : Int32)), .val (.int (1 : Int32)), .val (.ref a1)] [(.ref a2)])
    refine own_go (fun _ kk' => XS.astore X4.here hx rfl (hb hby own_d1_22) rfl rfl (l' := #[.val (.int ch), .val .null, .val (.ref al), .val (.int (4 : Int32)), .val (.int (1 : Int32)), .val (.ref a2)]) rfl kk') ?_
    show own_Go p e below K T4 (mkF m 24 #[.val (.int ch), .val .null, .val (.ref al), .val (.int (4 : Int32)), .val (.int (1 : Int32)), .val (.ref a2)] [])
    refine own_go (fun _ kk' => XS.aload X4.here hx rfl (hb hby own_d1_24) rfl rfl  kk') ?_
    show own_Go p e below K T4 (mkF m 26 #[.val (.int ch), .val .null, .val (.ref al), .val (.int (4 : Int32)), .val (.int (1 : Int32)), .val (.ref a2)] [(.ref a2)])
    obtain ⟨T7, X7, e7, st7⟩ := getF X4 hx hZ hown (host := "") (Or.inl (hw _ (List.mem_of_getElem? (i := 10) rfl))) Via.refl e4 F2 (g := (mkF m 26 #[.val (.int ch), .val .null, .val (.ref al), .val (.int (4 : Int32)), .val (.int (1 : Int32)), .val (.ref a2)] [(.ref a2)])) rfl rfl (hb hby own_d1_26)
    refine own_go st7 ?_
    show own_Go p e below K T7 (mkF m 29 #[.val (.int ch), .val .null, .val (.ref al), .val (.int (4 : Int32)), .val (.int (1 : Int32)), .val (.ref a2)] [(.int (68 : Int32))])
    refine own_go (fun _ kk' => XS.iloadN X7.here hx rfl (hb hby own_d1_29) rfl  kk') ?_
    show own_Go p e below K T7 (mkF m 30 #[.val (.int ch), .val .null, .val (.ref al), .val (.int (4 : Int32)), .val (.int (1 : Int32)), .val (.ref a2)] [(.int ch), (.int (68 : Int32))])
    by_cases hc30_8 : (68 : Int32) = ch
    · refine own_go (fun _ kk' => XS.icmpNo X7.here hx rfl (hb hby own_d1_30) rfl (teq (hc30_8 : (68 : Int32) = ch)).2 kk') ?_
      show own_Go p e below K T7 (mkF m 33 #[.val (.int ch), .val .null, .val (.ref al), .val (.int (4 : Int32)), .val (.int (1 : Int32)), .val (.ref a2)] [])
      refine own_go (fun _ kk' => XS.aload X7.here hx rfl (hb hby own_d1_33) rfl rfl  kk') ?_
      show own_Go p e below K T7 (mkF m 35 #[.val (.int ch), .val .null, .val (.ref al), .val (.int (4 : Int32)), .val (.int (1 : Int32)), .val (.ref a2)] [(.ref a2)])
      refine own_go (fun _ kk' => XS.astoreN X7.here hx rfl (hb hby own_d1_35) rfl rfl (l' := #[.val (.int ch), .val (.ref a2), .val (.ref al), .val (.int (4 : Int32)), .val (.int (1 : Int32)), .val (.ref a2)]) rfl kk') ?_
      show own_Go p e below K T7 (mkF m 36 #[.val (.int ch), .val (.ref a2), .val (.ref al), .val (.int (4 : Int32)), .val (.int (1 : Int32)), .val (.ref a2)] [])
      refine own_go (fun _ kk' => XS.goto X7.here hx rfl (pc0 := 36) (pc' := 45) rfl (hb hby own_d1_36) (by decide) (by decide) kk') ?_
      show own_Go p e below K T7 (mkF m 45 #[.val (.int ch), .val (.ref a2), .val (.ref al), .val (.int (4 : Int32)), .val (.int (1 : Int32)), .val (.ref a2)] [])
      refine own_go (fun _ kk' => XS.aloadN X7.here hx rfl (hb hby own_d1_45) rfl rfl  kk') ?_
      show own_Go p e below K T7 (mkF m 46 #[.val (.int ch), .val (.ref a2), .val (.ref al), .val (.int (4 : Int32)), .val (.int (1 : Int32)), .val (.ref a2)] [(.ref a2)])
      exact own_retR X7 hx hlk hK hret rfl rfl (hb hby own_d1_46) (by decide) (by decide) ⟨by rw [show own_of ch a1 a2 a3 a4 = (.ref a2) from ((if_neg hc30_5).trans (if_pos hc30_8))], N0, e7⟩
    · refine own_go (fun _ kk' => XS.icmpYes X7.here hx rfl (pc0 := 30) (pc' := 39) rfl (hb hby own_d1_30) rfl (feq (hc30_8 : ¬ ((68 : Int32) = ch))).2 (by decide) (by decide) kk') ?_
      show own_Go p e below K T7 (mkF m 39 #[.val (.int ch), .val .null, .val (.ref al), .val (.int (4 : Int32)), .val (.int (1 : Int32)), .val (.ref a2)] [])
      refine own_go (fun _ kk' => XS.iinc X7.here hx rfl (hb hby own_d1_39) rfl (l' := #[.val (.int ch), .val .null, .val (.ref al), .val (.int (4 : Int32)), .val (.int (2 : Int32)), .val (.ref a2)]) rfl kk') ?_
      show own_Go p e below K T7 (mkF m 42 #[.val (.int ch), .val .null, .val (.ref al), .val (.int (4 : Int32)), .val (.int (2 : Int32)), .val (.ref a2)] [])
      refine own_go (fun _ kk' => XS.goto X7.here hx rfl (pc0 := 42) (pc' := 12) rfl (hb hby own_d1_42) (by decide) (by decide) kk') ?_
      show own_Go p e below K T7 (mkF m 12 #[.val (.int ch), .val .null, .val (.ref al), .val (.int (4 : Int32)), .val (.int (2 : Int32)), .val (.ref a2)] [])
      refine own_go (fun _ kk' => XS.iload X7.here hx rfl (hb hby own_d1_12) rfl  kk') ?_
      show own_Go p e below K T7 (mkF m 14 #[.val (.int ch), .val .null, .val (.ref al), .val (.int (4 : Int32)), .val (.int (2 : Int32)), .val (.ref a2)] [(.int (2 : Int32))])
      refine own_go (fun _ kk' => XS.iloadN X7.here hx rfl (hb hby own_d1_14) rfl  kk') ?_
      show own_Go p e below K T7 (mkF m 15 #[.val (.int ch), .val .null, .val (.ref al), .val (.int (4 : Int32)), .val (.int (2 : Int32)), .val (.ref a2)] [(.int (4 : Int32)), (.int (2 : Int32))])
      refine own_go (fun _ kk' => XS.icmpNo X7.here hx rfl (hb hby own_d1_15) rfl (tlt ((by decide) : (2 : Int32) < (4 : Int32))).2.1 kk') ?_
      show own_Go p e below K T7 (mkF m 18 #[.val (.int ch), .val .null, .val (.ref al), .val (.int (4 : Int32)), .val (.int (2 : Int32)), .val (.ref a2)] [])
      refine own_go (fun _ kk' => XS.aloadN X7.here hx rfl (hb hby own_d1_18) rfl rfl  kk') ?_
      show own_Go p e below K T7 (mkF m 19 #[.val (.int ch), .val .null, .val (.ref al), .val (.int (4 : Int32)), .val (.int (2 : Int32)), .val (.ref a2)] [(.ref al)])
      refine own_go (fun _ kk' => XS.iload X7.here hx rfl (hb hby own_d1_19) rfl  kk') ?_
      show own_Go p e below K T7 (mkF m 21 #[.val (.int ch), .val .null, .val (.ref al), .val (.int (4 : Int32)), .val (.int (2 : Int32)), .val (.ref a2)] [(.int (2 : Int32)), (.ref al)])
      obtain ⟨cl9, Ar9, -, S9, Nn9, H9, -⟩ := (id VA)
      have hin9 : ¬ ((2 : Int32) < 0 ∨ cl9.slots.size ≤ ((2 : Int32)).toNatClampNeg) := inb_of S9 ⟨by decide, by decide⟩
      refine own_go (fun tt' kk' => X7.aaload hx (j := (2 : Int32)) (v := (.ref a3)) (by rw [e7]; exact Ar9.1) (State.isArrayOf_alike hZ.alike Ar9.2.1) rfl Ar9.2.2 hin9 (Has.at H9 hin9 rfl) (g := (mkF m 21 #[.val (.int ch), .val .null, .val (.ref al), .val (.int (4 : Int32)), .val (.int (2 : Int32)), .val (.ref a2)] [(.int (2 : Int32)), (.ref al)])) rfl rfl (hb hby own_d1_21) tt' kk') ?_
      show own_Go p e below K T7 (mkF m 22 #[.val (.int ch), .val .null, .val (.ref al), .val (.int (4 : Int32)), .val (.int (2 : Int32)), .val (.ref a2)] [(.ref a3)])
      refine own_go (fun _ kk' => XS.astore X7.here hx rfl (hb hby own_d1_22) rfl rfl (l' := #[.val (.int ch), .val .null, .val (.ref al), .val (.int (4 : Int32)), .val (.int (2 : Int32)), .val (.ref a3)]) rfl kk') ?_
      show own_Go p e below K T7 (mkF m 24 #[.val (.int ch), .val .null, .val (.ref al), .val (.int (4 : Int32)), .val (.int (2 : Int32)), .val (.ref a3)] [])
      refine own_go (fun _ kk' => XS.aload X7.here hx rfl (hb hby own_d1_24) rfl rfl  kk') ?_
      show own_Go p e below K T7 (mkF m 26 #[.val (.int ch), .val .null, .val (.ref al), .val (.int (4 : Int32)), .val (.int (2 : Int32)), .val (.ref a3)] [(.ref a3)])
      obtain ⟨T10, X10, e10, st10⟩ := getF X7 hx hZ hown (host := "") (Or.inl (hw _ (List.mem_of_getElem? (i := 10) rfl))) Via.refl e7 F3 (g := (mkF m 26 #[.val (.int ch), .val .null, .val (.ref al), .val (.int (4 : Int32)), .val (.int (2 : Int32)), .val (.ref a3)] [(.ref a3)])) rfl rfl (hb hby own_d1_26)
      refine own_go st10 ?_
      show own_Go p e below K T10 (mkF m 29 #[.val (.int ch), .val .null, .val (.ref al), .val (.int (4 : Int32)), .val (.int (2 : Int32)), .val (.ref a3)] [(.int (85 : Int32))])
      refine own_go (fun _ kk' => XS.iloadN X10.here hx rfl (hb hby own_d1_29) rfl  kk') ?_
      show own_Go p e below K T10 (mkF m 30 #[.val (.int ch), .val .null, .val (.ref al), .val (.int (4 : Int32)), .val (.int (2 : Int32)), .val (.ref a3)] [(.int ch), (.int (85 : Int32))])
      by_cases hc30_11 : (85 : Int32) = ch
      · refine own_go (fun _ kk' => XS.icmpNo X10.here hx rfl (hb hby own_d1_30) rfl (teq (hc30_11 : (85 : Int32) = ch)).2 kk') ?_
        show own_Go p e below K T10 (mkF m 33 #[.val (.int ch), .val .null, .val (.ref al), .val (.int (4 : Int32)), .val (.int (2 : Int32)), .val (.ref a3)] [])
        refine own_go (fun _ kk' => XS.aload X10.here hx rfl (hb hby own_d1_33) rfl rfl  kk') ?_
        show own_Go p e below K T10 (mkF m 35 #[.val (.int ch), .val .null, .val (.ref al), .val (.int (4 : Int32)), .val (.int (2 : Int32)), .val (.ref a3)] [(.ref a3)])
        refine own_go (fun _ kk' => XS.astoreN X10.here hx rfl (hb hby own_d1_35) rfl rfl (l' := #[.val (.int ch), .val (.ref a3), .val (.ref al), .val (.int (4 : Int32)), .val (.int (2 : Int32)), .val (.ref a3)]) rfl kk') ?_
        show own_Go p e below K T10 (mkF m 36 #[.val (.int ch), .val (.ref a3), .val (.ref al), .val (.int (4 : Int32)), .val (.int (2 : Int32)), .val (.ref a3)] [])
        refine own_go (fun _ kk' => XS.goto X10.here hx rfl (pc0 := 36) (pc' := 45) rfl (hb hby own_d1_36) (by decide) (by decide) kk') ?_
        show own_Go p e below K T10 (mkF m 45 #[.val (.int ch), .val (.ref a3), .val (.ref al), .val (.int (4 : Int32)), .val (.int (2 : Int32)), .val (.ref a3)] [])
        refine own_go (fun _ kk' => XS.aloadN X10.here hx rfl (hb hby own_d1_45) rfl rfl  kk') ?_
        show own_Go p e below K T10 (mkF m 46 #[.val (.int ch), .val (.ref a3), .val (.ref al), .val (.int (4 : Int32)), .val (.int (2 : Int32)), .val (.ref a3)] [(.ref a3)])
        exact own_retR X10 hx hlk hK hret rfl rfl (hb hby own_d1_46) (by decide) (by decide) ⟨by rw [show own_of ch a1 a2 a3 a4 = (.ref a3) from ((if_neg hc30_5).trans ((if_neg hc30_8).trans (if_pos hc30_11)))], N0, e10⟩
      · refine own_go (fun _ kk' => XS.icmpYes X10.here hx rfl (pc0 := 30) (pc' := 39) rfl (hb hby own_d1_30) rfl (feq (hc30_11 : ¬ ((85 : Int32) = ch))).2 (by decide) (by decide) kk') ?_
        show own_Go p e below K T10 (mkF m 39 #[.val (.int ch), .val .null, .val (.ref al), .val (.int (4 : Int32)), .val (.int (2 : Int32)), .val (.ref a3)] [])
        refine own_go (fun _ kk' => XS.iinc X10.here hx rfl (hb hby own_d1_39) rfl (l' := #[.val (.int ch), .val .null, .val (.ref al), .val (.int (4 : Int32)), .val (.int (3 : Int32)), .val (.ref a3)]) rfl kk') ?_
        show own_Go p e below K T10 (mkF m 42 #[.val (.int ch), .val .null, .val (.ref al), .val (.int (4 : Int32)), .val (.int (3 : Int32)), .val (.ref a3)] [])
        refine own_go (fun _ kk' => XS.goto X10.here hx rfl (pc0 := 42) (pc' := 12) rfl (hb hby own_d1_42) (by decide) (by decide) kk') ?_
        show own_Go p e below K T10 (mkF m 12 #[.val (.int ch), .val .null, .val (.ref al), .val (.int (4 : Int32)), .val (.int (3 : Int32)), .val (.ref a3)] [])
        refine own_go (fun _ kk' => XS.iload X10.here hx rfl (hb hby own_d1_12) rfl  kk') ?_
        show own_Go p e below K T10 (mkF m 14 #[.val (.int ch), .val .null, .val (.ref al), .val (.int (4 : Int32)), .val (.int (3 : Int32)), .val (.ref a3)] [(.int (3 : Int32))])
        refine own_go (fun _ kk' => XS.iloadN X10.here hx rfl (hb hby own_d1_14) rfl  kk') ?_
        show own_Go p e below K T10 (mkF m 15 #[.val (.int ch), .val .null, .val (.ref al), .val (.int (4 : Int32)), .val (.int (3 : Int32)), .val (.ref a3)] [(.int (4 : Int32)), (.int (3 : Int32))])
        refine own_go (fun _ kk' => XS.icmpNo X10.here hx rfl (hb hby own_d1_15) rfl (tlt ((by decide) : (3 : Int32) < (4 : Int32))).2.1 kk') ?_
        show own_Go p e below K T10 (mkF m 18 #[.val (.int ch), .val .null, .val (.ref al), .val (.int (4 : Int32)), .val (.int (3 : Int32)), .val (.ref a3)] [])
        refine own_go (fun _ kk' => XS.aloadN X10.here hx rfl (hb hby own_d1_18) rfl rfl  kk') ?_
        show own_Go p e below K T10 (mkF m 19 #[.val (.int ch), .val .null, .val (.ref al), .val (.int (4 : Int32)), .val (.int (3 : Int32)), .val (.ref a3)] [(.ref al)])
        refine own_go (fun _ kk' => XS.iload X10.here hx rfl (hb hby own_d1_19) rfl  kk') ?_
        show own_Go p e below K T10 (mkF m 21 #[.val (.int ch), .val .null, .val (.ref al), .val (.int (4 : Int32)), .val (.int (3 : Int32)), .val (.ref a3)] [(.int (3 : Int32)), (.ref al)])
        obtain ⟨cl12, Ar12, -, S12, Nn12, H12, -⟩ := (id VA)
        have hin12 : ¬ ((3 : Int32) < 0 ∨ cl12.slots.size ≤ ((3 : Int32)).toNatClampNeg) := inb_of S12 ⟨by decide, by decide⟩
        refine own_go (fun tt' kk' => X10.aaload hx (j := (3 : Int32)) (v := (.ref a4)) (by rw [e10]; exact Ar12.1) (State.isArrayOf_alike hZ.alike Ar12.2.1) rfl Ar12.2.2 hin12 (Has.at H12 hin12 rfl) (g := (mkF m 21 #[.val (.int ch), .val .null, .val (.ref al), .val (.int (4 : Int32)), .val (.int (3 : Int32)), .val (.ref a3)] [(.int (3 : Int32)), (.ref al)])) rfl rfl (hb hby own_d1_21) tt' kk') ?_
        show own_Go p e below K T10 (mkF m 22 #[.val (.int ch), .val .null, .val (.ref al), .val (.int (4 : Int32)), .val (.int (3 : Int32)), .val (.ref a3)] [(.ref a4)])
        refine own_go (fun _ kk' => XS.astore X10.here hx rfl (hb hby own_d1_22) rfl rfl (l' := #[.val (.int ch), .val .null, .val (.ref al), .val (.int (4 : Int32)), .val (.int (3 : Int32)), .val (.ref a4)]) rfl kk') ?_
        show own_Go p e below K T10 (mkF m 24 #[.val (.int ch), .val .null, .val (.ref al), .val (.int (4 : Int32)), .val (.int (3 : Int32)), .val (.ref a4)] [])
        refine own_go (fun _ kk' => XS.aload X10.here hx rfl (hb hby own_d1_24) rfl rfl  kk') ?_
        show own_Go p e below K T10 (mkF m 26 #[.val (.int ch), .val .null, .val (.ref al), .val (.int (4 : Int32)), .val (.int (3 : Int32)), .val (.ref a4)] [(.ref a4)])
        obtain ⟨T13, X13, e13, st13⟩ := getF X10 hx hZ hown (host := "") (Or.inl (hw _ (List.mem_of_getElem? (i := 10) rfl))) Via.refl e10 F4 (g := (mkF m 26 #[.val (.int ch), .val .null, .val (.ref al), .val (.int (4 : Int32)), .val (.int (3 : Int32)), .val (.ref a4)] [(.ref a4)])) rfl rfl (hb hby own_d1_26)
        refine own_go st13 ?_
        show own_Go p e below K T13 (mkF m 29 #[.val (.int ch), .val .null, .val (.ref al), .val (.int (4 : Int32)), .val (.int (3 : Int32)), .val (.ref a4)] [(.int (76 : Int32))])
        refine own_go (fun _ kk' => XS.iloadN X13.here hx rfl (hb hby own_d1_29) rfl  kk') ?_
        show own_Go p e below K T13 (mkF m 30 #[.val (.int ch), .val .null, .val (.ref al), .val (.int (4 : Int32)), .val (.int (3 : Int32)), .val (.ref a4)] [(.int ch), (.int (76 : Int32))])
        by_cases hc30_14 : (76 : Int32) = ch
        · refine own_go (fun _ kk' => XS.icmpNo X13.here hx rfl (hb hby own_d1_30) rfl (teq (hc30_14 : (76 : Int32) = ch)).2 kk') ?_
          show own_Go p e below K T13 (mkF m 33 #[.val (.int ch), .val .null, .val (.ref al), .val (.int (4 : Int32)), .val (.int (3 : Int32)), .val (.ref a4)] [])
          refine own_go (fun _ kk' => XS.aload X13.here hx rfl (hb hby own_d1_33) rfl rfl  kk') ?_
          show own_Go p e below K T13 (mkF m 35 #[.val (.int ch), .val .null, .val (.ref al), .val (.int (4 : Int32)), .val (.int (3 : Int32)), .val (.ref a4)] [(.ref a4)])
          refine own_go (fun _ kk' => XS.astoreN X13.here hx rfl (hb hby own_d1_35) rfl rfl (l' := #[.val (.int ch), .val (.ref a4), .val (.ref al), .val (.int (4 : Int32)), .val (.int (3 : Int32)), .val (.ref a4)]) rfl kk') ?_
          show own_Go p e below K T13 (mkF m 36 #[.val (.int ch), .val (.ref a4), .val (.ref al), .val (.int (4 : Int32)), .val (.int (3 : Int32)), .val (.ref a4)] [])
          refine own_go (fun _ kk' => XS.goto X13.here hx rfl (pc0 := 36) (pc' := 45) rfl (hb hby own_d1_36) (by decide) (by decide) kk') ?_
          show own_Go p e below K T13 (mkF m 45 #[.val (.int ch), .val (.ref a4), .val (.ref al), .val (.int (4 : Int32)), .val (.int (3 : Int32)), .val (.ref a4)] [])
          refine own_go (fun _ kk' => XS.aloadN X13.here hx rfl (hb hby own_d1_45) rfl rfl  kk') ?_
          show own_Go p e below K T13 (mkF m 46 #[.val (.int ch), .val (.ref a4), .val (.ref al), .val (.int (4 : Int32)), .val (.int (3 : Int32)), .val (.ref a4)] [(.ref a4)])
          exact own_retR X13 hx hlk hK hret rfl rfl (hb hby own_d1_46) (by decide) (by decide) ⟨by rw [show own_of ch a1 a2 a3 a4 = (.ref a4) from ((if_neg hc30_5).trans ((if_neg hc30_8).trans ((if_neg hc30_11).trans (if_pos hc30_14))))], N0, e13⟩
        · refine own_go (fun _ kk' => XS.icmpYes X13.here hx rfl (pc0 := 30) (pc' := 39) rfl (hb hby own_d1_30) rfl (feq (hc30_14 : ¬ ((76 : Int32) = ch))).2 (by decide) (by decide) kk') ?_
          show own_Go p e below K T13 (mkF m 39 #[.val (.int ch), .val .null, .val (.ref al), .val (.int (4 : Int32)), .val (.int (3 : Int32)), .val (.ref a4)] [])
          refine own_go (fun _ kk' => XS.iinc X13.here hx rfl (hb hby own_d1_39) rfl (l' := #[.val (.int ch), .val .null, .val (.ref al), .val (.int (4 : Int32)), .val (.int (4 : Int32)), .val (.ref a4)]) rfl kk') ?_
          show own_Go p e below K T13 (mkF m 42 #[.val (.int ch), .val .null, .val (.ref al), .val (.int (4 : Int32)), .val (.int (4 : Int32)), .val (.ref a4)] [])
          refine own_go (fun _ kk' => XS.goto X13.here hx rfl (pc0 := 42) (pc' := 12) rfl (hb hby own_d1_42) (by decide) (by decide) kk') ?_
          show own_Go p e below K T13 (mkF m 12 #[.val (.int ch), .val .null, .val (.ref al), .val (.int (4 : Int32)), .val (.int (4 : Int32)), .val (.ref a4)] [])
          refine own_go (fun _ kk' => XS.iload X13.here hx rfl (hb hby own_d1_12) rfl  kk') ?_
          show own_Go p e below K T13 (mkF m 14 #[.val (.int ch), .val .null, .val (.ref al), .val (.int (4 : Int32)), .val (.int (4 : Int32)), .val (.ref a4)] [(.int (4 : Int32))])
          refine own_go (fun _ kk' => XS.iloadN X13.here hx rfl (hb hby own_d1_14) rfl  kk') ?_
          show own_Go p e below K T13 (mkF m 15 #[.val (.int ch), .val .null, .val (.ref al), .val (.int (4 : Int32)), .val (.int (4 : Int32)), .val (.ref a4)] [(.int (4 : Int32)), (.int (4 : Int32))])
          refine own_go (fun _ kk' => XS.icmpYes X13.here hx rfl (pc0 := 15) (pc' := 45) rfl (hb hby own_d1_15) rfl (flt ((by decide) : ¬ ((4 : Int32) < (4 : Int32)))).2.1 (by decide) (by decide) kk') ?_
          show own_Go p e below K T13 (mkF m 45 #[.val (.int ch), .val .null, .val (.ref al), .val (.int (4 : Int32)), .val (.int (4 : Int32)), .val (.ref a4)] [])
          refine own_go (fun _ kk' => XS.aloadN X13.here hx rfl (hb hby own_d1_45) rfl rfl  kk') ?_
          show own_Go p e below K T13 (mkF m 46 #[.val (.int ch), .val .null, .val (.ref al), .val (.int (4 : Int32)), .val (.int (4 : Int32)), .val (.ref a4)] [.null])
          exact own_retR X13 hx hlk hK hret rfl rfl (hb hby own_d1_46) (by decide) (by decide) ⟨by rw [show own_of ch a1 a2 a3 a4 = .null from ((if_neg hc30_5).trans ((if_neg hc30_8).trans ((if_neg hc30_11).trans (if_neg hc30_14))))], N0, e13⟩
def own_Q (n0 : Nat) (v : Option Value) (h : Heap) (L : List Loc) : Prop := v = some (.int 1) ∧ Fr n0 L
theorem own_gi (zs : List Int32) (i : Nat) : (zs.map Value.int).getD i (.int 0) = .int (zs.getD i 0) := by
  induction zs generalizing i with
  | nil => rfl
  | cons z r ih => cases i with
    | zero => rfl
    | succ i => exact ih i
theorem own_in8 (x : Int32) : ¬ (x &&& 7) < 0 ∧ (x &&& 7) < (8 : Int32) := by
  have h := c_and x 7 (by decide)
  have e0 : (0 : Int32).toInt = 0 := rfl
  have e7 : (7 : Int32).toInt = 7 := rfl
  have e8 : (8 : Int32).toInt = 8 := rfl
  rw [Int32.lt_iff_toInt_lt, Int32.lt_iff_toInt_lt]; omega
theorem own_pd0 : parseMethodDescriptor "(C)Lcom/example/umbral/umbral/acl/Nfs4Acl$Type;" = some ⟨[.char], some (.object "com/example/umbral/umbral/acl/Nfs4Acl$Type")⟩ := by decide +kernel
/- the law needs frames 1, cells 1, slots 8, locals 17 -/
set_option maxRecDepth 65536 in
set_option maxHeartbeats 40000000 in
theorem own_law (l : Launch) (Z : State) (a0 : Array Value) (hw : ∀ d ∈ tables_1, d.before a0 Z = true) (x0 sel : Int32) (a1 a2 a3 a4 al : Addr) (kc : ClassId) (h0 : Heap) (n0 : Nat) (Z0 : n0 ≤ h0.size) (O0 : Old Z n0 h0) (SA : Sta Z Z.heap "com/example/umbral/umbral/acl/Nfs4Acl$Type" "ALL" "[Lcom/example/umbral/umbral/acl/Nfs4Acl$Type;" (.ref al)) (VA : Arv Z Z.heap al kc (.object "com/example/umbral/umbral/acl/Nfs4Acl$Type") (4 : Int32) [(.ref a1), (.ref a2), (.ref a3), (.ref a4)] .null) (F1 : Fld Z Z.heap a1 "com/example/umbral/umbral/acl/Nfs4Acl$Type" "letter" "C" (.int (65 : Int32))) (F2 : Fld Z Z.heap a2 "com/example/umbral/umbral/acl/Nfs4Acl$Type" "letter" "C" (.int (68 : Int32))) (F3 : Fld Z Z.heap a3 "com/example/umbral/umbral/acl/Nfs4Acl$Type" "letter" "C" (.int (85 : Int32))) (F4 : Fld Z Z.heap a4 "com/example/umbral/umbral/acl/Nfs4Acl$Type" "letter" "C" (.int (76 : Int32))) (S1 : Sta Z Z.heap "com/example/umbral/umbral/acl/Nfs4Acl$Type" "ALLOW" "Lcom/example/umbral/umbral/acl/Nfs4Acl$Type;" (.ref a1)) (S2 : Sta Z Z.heap "com/example/umbral/umbral/acl/Nfs4Acl$Type" "DENY" "Lcom/example/umbral/umbral/acl/Nfs4Acl$Type;" (.ref a2)) (S3 : Sta Z Z.heap "com/example/umbral/umbral/acl/Nfs4Acl$Type" "AUDIT" "Lcom/example/umbral/umbral/acl/Nfs4Acl$Type;" (.ref a3)) (S4 : Sta Z Z.heap "com/example/umbral/umbral/acl/Nfs4Acl$Type" "ALARM" "Lcom/example/umbral/umbral/acl/Nfs4Acl$Type;" (.ref a4)) :
    own_Met l Z x code maxLocals ret tables_1 room_1 #[(.int x0), (.int sel)] h0 (own_Q n0) := by
  refine own_body (plainFor_of_name (by first | (simp [plainName, overriddenIn]; done) | decide +kernel)) (g := fun m => mkF m 0 #[.val (.int x0), .val (.int sel), .unset, .unset] []) (fun m => by first | (simp [entryFrame, mkF, argsToLocals, Value.category, maxLocals]; done) | rfl) ?_
  intro p e s m A below meth c T0 K X0 hx hby hml hown hnm hret hlk hZ e0 hK
  have N0 := Fr.nil n0
  show own_Go p e below K T0 (mkF m 0 #[.val (.int x0), .val (.int sel), .unset, .unset] [])
  refine own_go (fun _ kk' => XS.iloadN X0.here hx rfl (hb hby at_0) rfl  kk') ?_
  show own_Go p e below K T0 (mkF m 1 #[.val (.int x0), .val (.int sel), .unset, .unset] [(.int sel)])
  refine own_go (fun _ kk' => XS.iconst X0.here hx rfl (hb hby at_1) kk') ?_
  show own_Go p e below K T0 (mkF m 2 #[.val (.int x0), .val (.int sel), .unset, .unset] [(.int (1 : Int32)), (.int sel)])
  refine own_go (fun _ kk' => XS.iand X0.here hx rfl (hb hby at_2) rfl kk') ?_
  show own_Go p e below K T0 (mkF m 3 #[.val (.int x0), .val (.int sel), .unset, .unset] [(.int (sel &&& (1 : Int32)))])
  by_cases hc3_15 : (sel &&& (1 : Int32)) = (0 : Int32)
  · refine own_go (fun _ kk' => XS.ifYes X0.here hx rfl (pc0 := 3) (pc' := 65) rfl (hb hby at_3) rfl ((if0 _ _).trans (teq (hc3_15 : (sel &&& (1 : Int32)) = (0 : Int32))).1) (by decide) (by decide) kk') ?_
    show own_Go p e below K T0 (mkF m 65 #[.val (.int x0), .val (.int sel), .unset, .unset] [])
    refine own_go (fun _ kk' => XS.iloadN X0.here hx rfl (hb hby at_65) rfl  kk') ?_
    show own_Go p e below K T0 (mkF m 66 #[.val (.int x0), .val (.int sel), .unset, .unset] [(.int x0)])
    refine own_go (fun tt' kk' => X0.ldcInt hx hown (mvT hZ (hw _ (List.mem_of_getElem? (i := 13) rfl))) (g := (mkF m 66 #[.val (.int x0), .val (.int sel), .unset, .unset] [(.int x0)])) rfl (hb hby at_66) tt' kk') ?_
    show own_Go p e below K T0 (mkF m 68 #[.val (.int x0), .val (.int sel), .unset, .unset] [(.int (65535 : Int32)), (.int x0)])
    refine own_go (fun _ kk' => XS.iand X0.here hx rfl (hb hby at_68) rfl kk') ?_
    show own_Go p e below K T0 (mkF m 69 #[.val (.int x0), .val (.int sel), .unset, .unset] [(.int (x0 &&& (65535 : Int32)))])
    refine own_go (fun _ kk' => XS.i2c X0.here hx rfl (hb hby at_69) rfl kk') ?_
    show own_Go p e below K T0 (mkF m 70 #[.val (.int x0), .val (.int sel), .unset, .unset] [(.int ((x0 &&& (65535 : Int32)).toUInt32.toUInt16.toUInt32.toInt32))])
    obtain ⟨ch, hch⟩ : ∃ z, z = ((x0 &&& (65535 : Int32)).toUInt32.toUInt16.toUInt32.toInt32) := ⟨_, rfl⟩
    rw [← hch]
    show own_Go p e below K T0 (mkF m 70 #[.val (.int x0), .val (.int sel), .unset, .unset] [(.int ch)])
    refine own_go (fun _ kk' => XS.istoreN X0.here hx rfl (hb hby at_70) rfl (l' := #[.val (.int x0), .val (.int sel), .val (.int ch), .unset]) rfl kk') ?_
    show own_Go p e below K T0 (mkF m 71 #[.val (.int x0), .val (.int sel), .val (.int ch), .unset] [])
    refine own_go (fun _ kk' => XS.aconstNull X0.here hx rfl (hb hby at_71) kk') ?_
    show own_Go p e below K T0 (mkF m 72 #[.val (.int x0), .val (.int sel), .val (.int ch), .unset] [.null])
    refine own_go (fun _ kk' => XS.astoreN X0.here hx rfl (hb hby at_72) rfl rfl (l' := #[.val (.int x0), .val (.int sel), .val (.int ch), .val .null]) rfl kk') ?_
    show own_Go p e below K T0 (mkF m 73 #[.val (.int x0), .val (.int sel), .val (.int ch), .val .null] [])
    refine own_go (fun _ kk' => XS.iloadN X0.here hx rfl (hb hby at_73) rfl  kk') ?_
    show own_Go p e below K T0 (mkF m 74 #[.val (.int x0), .val (.int sel), .val (.int ch), .val .null] [(.int ch)])
    refine own_go (fun _ kk' => XS.bipush X0.here hx rfl (hb hby at_74) kk') ?_
    show own_Go p e below K T0 (mkF m 76 #[.val (.int x0), .val (.int sel), .val (.int ch), .val .null] [(.int (65 : Int32)), (.int ch)])
    by_cases hc76_16 : ch = (65 : Int32)
    · refine own_go (fun _ kk' => XS.icmpNo X0.here hx rfl (hb hby at_76) rfl (teq (hc76_16 : ch = (65 : Int32))).2 kk') ?_
      show own_Go p e below K T0 (mkF m 79 #[.val (.int x0), .val (.int sel), .val (.int ch), .val .null] [])
      obtain ⟨T17, X17, e17, st17⟩ := getS2 X0 hx hZ hown (host := "") (Or.inl (hw _ (List.mem_of_getElem? (i := 12) rfl))) Via.refl e0 (S1.ext O0.2) (g := (mkF m 79 #[.val (.int x0), .val (.int sel), .val (.int ch), .val .null] [])) rfl (hb hby at_79)
      refine own_go st17 ?_
      show own_Go p e below K T17 (mkF m 82 #[.val (.int x0), .val (.int sel), .val (.int ch), .val .null] [(.ref a1)])
      refine own_go (fun _ kk' => XS.astoreN X17.here hx rfl (hb hby at_82) rfl rfl (l' := #[.val (.int x0), .val (.int sel), .val (.int ch), .val (.ref a1)]) rfl kk') ?_
      show own_Go p e below K T17 (mkF m 83 #[.val (.int x0), .val (.int sel), .val (.int ch), .val (.ref a1)] [])
      refine own_go (fun _ kk' => XS.goto X17.here hx rfl (pc0 := 83) (pc' := 122) rfl (hb hby at_83) (by decide) (by decide) kk') ?_
      show own_Go p e below K T17 (mkF m 122 #[.val (.int x0), .val (.int sel), .val (.int ch), .val (.ref a1)] [])
      refine own_go (fun _ kk' => XS.iloadN X17.here hx rfl (hb hby at_122) rfl  kk') ?_
      show own_Go p e below K T17 (mkF m 123 #[.val (.int x0), .val (.int sel), .val (.int ch), .val (.ref a1)] [(.int ch)])
      refine own_callS X17 hx hZ (y := (⟨"com/example/umbral/umbral/acl/Nfs4Acl$Type", "of", "(C)Lcom/example/umbral/umbral/acl/Nfs4Acl$Type;"⟩ : MethodName)) hown (hw _ (List.mem_of_getElem? (i := 4) rfl)) (hw _ (List.mem_of_getElem? (i := 5) rfl)) (hw _ (List.mem_of_getElem? (i := 2) rfl)) (hw _ (List.mem_of_getElem? (i := 6) rfl)) (by decide) e17 (rm := own_rmo) (argsL := [(.int ch)]) (rest := []) (own_mo l Z a0 hw ch a1 a2 a3 a4 al kc h0 n0 Z0 (SA.ext O0.2) (VA.ext O0.2) (F1.ext O0.2) (F2.ext O0.2) (F3.ext O0.2) (F4.ext O0.2)) (W := 0) (by decide) (by decide) (by decide) (by decide) (g := (mkF m 123 #[.val (.int x0), .val (.int sel), .val (.int ch), .val (.ref a1)] [(.int ch)])) rfl (by rw [hml]; rfl) (lenOf own_pd0 rfl) rfl (by show 2 * 0 + _ ≤ _; exact Nat.le_of_eq rfl) (hb hby at_123) ?_
      intro v18 T18 L18 X18 hQ18
      obtain ⟨rfl, Nq18, e18⟩ := hQ18
      have N18 := Fr.app N0 Nq18
      show own_Go p e below K T18 (mkF m 126 #[.val (.int x0), .val (.int sel), .val (.int ch), .val (.ref a1)] [(own_of ch a1 a2 a3 a4)])
      rw [show own_of ch a1 a2 a3 a4 = (.ref a1) from (if_pos (Eq.symm hc76_16))]
      show own_Go p e below K T18 (mkF m 126 #[.val (.int x0), .val (.int sel), .val (.int ch), .val (.ref a1)] [(.ref a1)])
      refine own_go (fun _ kk' => XS.aloadN X18.here hx rfl (hb hby at_126) rfl rfl  kk') ?_
      show own_Go p e below K T18 (mkF m 127 #[.val (.int x0), .val (.int sel), .val (.int ch), .val (.ref a1)] [(.ref a1), (.ref a1)])
      refine own_go (fun _ kk' => Jvm.RoadKit.acmp (g := (mkF m 127 #[.val (.int x0), .val (.int sel), .val (.int ch), .val (.ref a1)] [(.ref a1), (.ref a1)])) X18 hx rfl rfl rfl (pc0 := 127) (pc' := 130) (same := true) rfl (hb hby at_127) rfl (decide_eq_true (rfl : (Value.ref a1) = (Value.ref a1))) (by decide) (by decide) kk') ?_
      show own_Go p e below K T18 (mkF m 130 #[.val (.int x0), .val (.int sel), .val (.int ch), .val (.ref a1)] [])
      refine own_go (fun _ kk' => XS.iconst X18.here hx rfl (hb hby at_130) kk') ?_
      show own_Go p e below K T18 (mkF m 131 #[.val (.int x0), .val (.int sel), .val (.int ch), .val (.ref a1)] [(.int (1 : Int32))])
      refine own_go (fun _ kk' => XS.goto X18.here hx rfl (pc0 := 131) (pc' := 135) rfl (hb hby at_131) (by decide) (by decide) kk') ?_
      show own_Go p e below K T18 (mkF m 135 #[.val (.int x0), .val (.int sel), .val (.int ch), .val (.ref a1)] [(.int (1 : Int32))])
      exact own_retZ X18 hx hlk hK hret (by decide) (hb hby at_135) (by decide) (by decide) (by rw [e18]; exact ⟨rfl, N18⟩)
    · refine own_go (fun _ kk' => XS.icmpYes X0.here hx rfl (pc0 := 76) (pc' := 86) rfl (hb hby at_76) rfl (feq (hc76_16 : ¬ (ch = (65 : Int32)))).2 (by decide) (by decide) kk') ?_
      show own_Go p e below K T0 (mkF m 86 #[.val (.int x0), .val (.int sel), .val (.int ch), .val .null] [])
      refine own_go (fun _ kk' => XS.iloadN X0.here hx rfl (hb hby at_86) rfl  kk') ?_
      show own_Go p e below K T0 (mkF m 87 #[.val (.int x0), .val (.int sel), .val (.int ch), .val .null] [(.int ch)])
      refine own_go (fun _ kk' => XS.bipush X0.here hx rfl (hb hby at_87) kk') ?_
      show own_Go p e below K T0 (mkF m 89 #[.val (.int x0), .val (.int sel), .val (.int ch), .val .null] [(.int (68 : Int32)), (.int ch)])
      by_cases hc89_19 : ch = (68 : Int32)
      · refine own_go (fun _ kk' => XS.icmpNo X0.here hx rfl (hb hby at_89) rfl (teq (hc89_19 : ch = (68 : Int32))).2 kk') ?_
        show own_Go p e below K T0 (mkF m 92 #[.val (.int x0), .val (.int sel), .val (.int ch), .val .null] [])
        obtain ⟨T20, X20, e20, st20⟩ := getS2 X0 hx hZ hown (host := "") (Or.inl (hw _ (List.mem_of_getElem? (i := 1) rfl))) Via.refl e0 (S2.ext O0.2) (g := (mkF m 92 #[.val (.int x0), .val (.int sel), .val (.int ch), .val .null] [])) rfl (hb hby at_92)
        refine own_go st20 ?_
        show own_Go p e below K T20 (mkF m 95 #[.val (.int x0), .val (.int sel), .val (.int ch), .val .null] [(.ref a2)])
        refine own_go (fun _ kk' => XS.astoreN X20.here hx rfl (hb hby at_95) rfl rfl (l' := #[.val (.int x0), .val (.int sel), .val (.int ch), .val (.ref a2)]) rfl kk') ?_
        show own_Go p e below K T20 (mkF m 96 #[.val (.int x0), .val (.int sel), .val (.int ch), .val (.ref a2)] [])
        refine own_go (fun _ kk' => XS.goto X20.here hx rfl (pc0 := 96) (pc' := 122) rfl (hb hby at_96) (by decide) (by decide) kk') ?_
        show own_Go p e below K T20 (mkF m 122 #[.val (.int x0), .val (.int sel), .val (.int ch), .val (.ref a2)] [])
        refine own_go (fun _ kk' => XS.iloadN X20.here hx rfl (hb hby at_122) rfl  kk') ?_
        show own_Go p e below K T20 (mkF m 123 #[.val (.int x0), .val (.int sel), .val (.int ch), .val (.ref a2)] [(.int ch)])
        refine own_callS X20 hx hZ (y := (⟨"com/example/umbral/umbral/acl/Nfs4Acl$Type", "of", "(C)Lcom/example/umbral/umbral/acl/Nfs4Acl$Type;"⟩ : MethodName)) hown (hw _ (List.mem_of_getElem? (i := 4) rfl)) (hw _ (List.mem_of_getElem? (i := 5) rfl)) (hw _ (List.mem_of_getElem? (i := 2) rfl)) (hw _ (List.mem_of_getElem? (i := 6) rfl)) (by decide) e20 (rm := own_rmo) (argsL := [(.int ch)]) (rest := []) (own_mo l Z a0 hw ch a1 a2 a3 a4 al kc h0 n0 Z0 (SA.ext O0.2) (VA.ext O0.2) (F1.ext O0.2) (F2.ext O0.2) (F3.ext O0.2) (F4.ext O0.2)) (W := 0) (by decide) (by decide) (by decide) (by decide) (g := (mkF m 123 #[.val (.int x0), .val (.int sel), .val (.int ch), .val (.ref a2)] [(.int ch)])) rfl (by rw [hml]; rfl) (lenOf own_pd0 rfl) rfl (by show 2 * 0 + _ ≤ _; exact Nat.le_of_eq rfl) (hb hby at_123) ?_
        intro v21 T21 L21 X21 hQ21
        obtain ⟨rfl, Nq21, e21⟩ := hQ21
        have N21 := Fr.app N0 Nq21
        show own_Go p e below K T21 (mkF m 126 #[.val (.int x0), .val (.int sel), .val (.int ch), .val (.ref a2)] [(own_of ch a1 a2 a3 a4)])
        rw [show own_of ch a1 a2 a3 a4 = (.ref a2) from ((if_neg (fun q => hc76_16 (Eq.symm q))).trans (if_pos (Eq.symm hc89_19)))]
        show own_Go p e below K T21 (mkF m 126 #[.val (.int x0), .val (.int sel), .val (.int ch), .val (.ref a2)] [(.ref a2)])
        refine own_go (fun _ kk' => XS.aloadN X21.here hx rfl (hb hby at_126) rfl rfl  kk') ?_
        show own_Go p e below K T21 (mkF m 127 #[.val (.int x0), .val (.int sel), .val (.int ch), .val (.ref a2)] [(.ref a2), (.ref a2)])
        refine own_go (fun _ kk' => Jvm.RoadKit.acmp (g := (mkF m 127 #[.val (.int x0), .val (.int sel), .val (.int ch), .val (.ref a2)] [(.ref a2), (.ref a2)])) X21 hx rfl rfl rfl (pc0 := 127) (pc' := 130) (same := true) rfl (hb hby at_127) rfl (decide_eq_true (rfl : (Value.ref a2) = (Value.ref a2))) (by decide) (by decide) kk') ?_
        show own_Go p e below K T21 (mkF m 130 #[.val (.int x0), .val (.int sel), .val (.int ch), .val (.ref a2)] [])
        refine own_go (fun _ kk' => XS.iconst X21.here hx rfl (hb hby at_130) kk') ?_
        show own_Go p e below K T21 (mkF m 131 #[.val (.int x0), .val (.int sel), .val (.int ch), .val (.ref a2)] [(.int (1 : Int32))])
        refine own_go (fun _ kk' => XS.goto X21.here hx rfl (pc0 := 131) (pc' := 135) rfl (hb hby at_131) (by decide) (by decide) kk') ?_
        show own_Go p e below K T21 (mkF m 135 #[.val (.int x0), .val (.int sel), .val (.int ch), .val (.ref a2)] [(.int (1 : Int32))])
        exact own_retZ X21 hx hlk hK hret (by decide) (hb hby at_135) (by decide) (by decide) (by rw [e21]; exact ⟨rfl, N21⟩)
      · refine own_go (fun _ kk' => XS.icmpYes X0.here hx rfl (pc0 := 89) (pc' := 99) rfl (hb hby at_89) rfl (feq (hc89_19 : ¬ (ch = (68 : Int32)))).2 (by decide) (by decide) kk') ?_
        show own_Go p e below K T0 (mkF m 99 #[.val (.int x0), .val (.int sel), .val (.int ch), .val .null] [])
        refine own_go (fun _ kk' => XS.iloadN X0.here hx rfl (hb hby at_99) rfl  kk') ?_
        show own_Go p e below K T0 (mkF m 100 #[.val (.int x0), .val (.int sel), .val (.int ch), .val .null] [(.int ch)])
        refine own_go (fun _ kk' => XS.bipush X0.here hx rfl (hb hby at_100) kk') ?_
        show own_Go p e below K T0 (mkF m 102 #[.val (.int x0), .val (.int sel), .val (.int ch), .val .null] [(.int (85 : Int32)), (.int ch)])
        by_cases hc102_22 : ch = (85 : Int32)
        · refine own_go (fun _ kk' => XS.icmpNo X0.here hx rfl (hb hby at_102) rfl (teq (hc102_22 : ch = (85 : Int32))).2 kk') ?_
          show own_Go p e below K T0 (mkF m 105 #[.val (.int x0), .val (.int sel), .val (.int ch), .val .null] [])
          obtain ⟨T23, X23, e23, st23⟩ := getS2 X0 hx hZ hown (host := "") (Or.inl (hw _ (List.mem_of_getElem? (i := 16) rfl))) Via.refl e0 (S3.ext O0.2) (g := (mkF m 105 #[.val (.int x0), .val (.int sel), .val (.int ch), .val .null] [])) rfl (hb hby at_105)
          refine own_go st23 ?_
          show own_Go p e below K T23 (mkF m 108 #[.val (.int x0), .val (.int sel), .val (.int ch), .val .null] [(.ref a3)])
          refine own_go (fun _ kk' => XS.astoreN X23.here hx rfl (hb hby at_108) rfl rfl (l' := #[.val (.int x0), .val (.int sel), .val (.int ch), .val (.ref a3)]) rfl kk') ?_
          show own_Go p e below K T23 (mkF m 109 #[.val (.int x0), .val (.int sel), .val (.int ch), .val (.ref a3)] [])
          refine own_go (fun _ kk' => XS.goto X23.here hx rfl (pc0 := 109) (pc' := 122) rfl (hb hby at_109) (by decide) (by decide) kk') ?_
          show own_Go p e below K T23 (mkF m 122 #[.val (.int x0), .val (.int sel), .val (.int ch), .val (.ref a3)] [])
          refine own_go (fun _ kk' => XS.iloadN X23.here hx rfl (hb hby at_122) rfl  kk') ?_
          show own_Go p e below K T23 (mkF m 123 #[.val (.int x0), .val (.int sel), .val (.int ch), .val (.ref a3)] [(.int ch)])
          refine own_callS X23 hx hZ (y := (⟨"com/example/umbral/umbral/acl/Nfs4Acl$Type", "of", "(C)Lcom/example/umbral/umbral/acl/Nfs4Acl$Type;"⟩ : MethodName)) hown (hw _ (List.mem_of_getElem? (i := 4) rfl)) (hw _ (List.mem_of_getElem? (i := 5) rfl)) (hw _ (List.mem_of_getElem? (i := 2) rfl)) (hw _ (List.mem_of_getElem? (i := 6) rfl)) (by decide) e23 (rm := own_rmo) (argsL := [(.int ch)]) (rest := []) (own_mo l Z a0 hw ch a1 a2 a3 a4 al kc h0 n0 Z0 (SA.ext O0.2) (VA.ext O0.2) (F1.ext O0.2) (F2.ext O0.2) (F3.ext O0.2) (F4.ext O0.2)) (W := 0) (by decide) (by decide) (by decide) (by decide) (g := (mkF m 123 #[.val (.int x0), .val (.int sel), .val (.int ch), .val (.ref a3)] [(.int ch)])) rfl (by rw [hml]; rfl) (lenOf own_pd0 rfl) rfl (by show 2 * 0 + _ ≤ _; exact Nat.le_of_eq rfl) (hb hby at_123) ?_
          intro v24 T24 L24 X24 hQ24
          obtain ⟨rfl, Nq24, e24⟩ := hQ24
          have N24 := Fr.app N0 Nq24
          show own_Go p e below K T24 (mkF m 126 #[.val (.int x0), .val (.int sel), .val (.int ch), .val (.ref a3)] [(own_of ch a1 a2 a3 a4)])
          rw [show own_of ch a1 a2 a3 a4 = (.ref a3) from ((if_neg (fun q => hc76_16 (Eq.symm q))).trans ((if_neg (fun q => hc89_19 (Eq.symm q))).trans (if_pos (Eq.symm hc102_22))))]
          show own_Go p e below K T24 (mkF m 126 #[.val (.int x0), .val (.int sel), .val (.int ch), .val (.ref a3)] [(.ref a3)])
          refine own_go (fun _ kk' => XS.aloadN X24.here hx rfl (hb hby at_126) rfl rfl  kk') ?_
          show own_Go p e below K T24 (mkF m 127 #[.val (.int x0), .val (.int sel), .val (.int ch), .val (.ref a3)] [(.ref a3), (.ref a3)])
          refine own_go (fun _ kk' => Jvm.RoadKit.acmp (g := (mkF m 127 #[.val (.int x0), .val (.int sel), .val (.int ch), .val (.ref a3)] [(.ref a3), (.ref a3)])) X24 hx rfl rfl rfl (pc0 := 127) (pc' := 130) (same := true) rfl (hb hby at_127) rfl (decide_eq_true (rfl : (Value.ref a3) = (Value.ref a3))) (by decide) (by decide) kk') ?_
          show own_Go p e below K T24 (mkF m 130 #[.val (.int x0), .val (.int sel), .val (.int ch), .val (.ref a3)] [])
          refine own_go (fun _ kk' => XS.iconst X24.here hx rfl (hb hby at_130) kk') ?_
          show own_Go p e below K T24 (mkF m 131 #[.val (.int x0), .val (.int sel), .val (.int ch), .val (.ref a3)] [(.int (1 : Int32))])
          refine own_go (fun _ kk' => XS.goto X24.here hx rfl (pc0 := 131) (pc' := 135) rfl (hb hby at_131) (by decide) (by decide) kk') ?_
          show own_Go p e below K T24 (mkF m 135 #[.val (.int x0), .val (.int sel), .val (.int ch), .val (.ref a3)] [(.int (1 : Int32))])
          exact own_retZ X24 hx hlk hK hret (by decide) (hb hby at_135) (by decide) (by decide) (by rw [e24]; exact ⟨rfl, N24⟩)
        · refine own_go (fun _ kk' => XS.icmpYes X0.here hx rfl (pc0 := 102) (pc' := 112) rfl (hb hby at_102) rfl (feq (hc102_22 : ¬ (ch = (85 : Int32)))).2 (by decide) (by decide) kk') ?_
          show own_Go p e below K T0 (mkF m 112 #[.val (.int x0), .val (.int sel), .val (.int ch), .val .null] [])
          refine own_go (fun _ kk' => XS.iloadN X0.here hx rfl (hb hby at_112) rfl  kk') ?_
          show own_Go p e below K T0 (mkF m 113 #[.val (.int x0), .val (.int sel), .val (.int ch), .val .null] [(.int ch)])
          refine own_go (fun _ kk' => XS.bipush X0.here hx rfl (hb hby at_113) kk') ?_
          show own_Go p e below K T0 (mkF m 115 #[.val (.int x0), .val (.int sel), .val (.int ch), .val .null] [(.int (76 : Int32)), (.int ch)])
          by_cases hc115_25 : ch = (76 : Int32)
          · refine own_go (fun _ kk' => XS.icmpNo X0.here hx rfl (hb hby at_115) rfl (teq (hc115_25 : ch = (76 : Int32))).2 kk') ?_
            show own_Go p e below K T0 (mkF m 118 #[.val (.int x0), .val (.int sel), .val (.int ch), .val .null] [])
            obtain ⟨T26, X26, e26, st26⟩ := getS2 X0 hx hZ hown (host := "") (Or.inl (hw _ (List.mem_of_getElem? (i := 17) rfl))) Via.refl e0 (S4.ext O0.2) (g := (mkF m 118 #[.val (.int x0), .val (.int sel), .val (.int ch), .val .null] [])) rfl (hb hby at_118)
            refine own_go st26 ?_
            show own_Go p e below K T26 (mkF m 121 #[.val (.int x0), .val (.int sel), .val (.int ch), .val .null] [(.ref a4)])
            refine own_go (fun _ kk' => XS.astoreN X26.here hx rfl (hb hby at_121) rfl rfl (l' := #[.val (.int x0), .val (.int sel), .val (.int ch), .val (.ref a4)]) rfl kk') ?_
            show own_Go p e below K T26 (mkF m 122 #[.val (.int x0), .val (.int sel), .val (.int ch), .val (.ref a4)] [])
            refine own_go (fun _ kk' => XS.iloadN X26.here hx rfl (hb hby at_122) rfl  kk') ?_
            show own_Go p e below K T26 (mkF m 123 #[.val (.int x0), .val (.int sel), .val (.int ch), .val (.ref a4)] [(.int ch)])
            refine own_callS X26 hx hZ (y := (⟨"com/example/umbral/umbral/acl/Nfs4Acl$Type", "of", "(C)Lcom/example/umbral/umbral/acl/Nfs4Acl$Type;"⟩ : MethodName)) hown (hw _ (List.mem_of_getElem? (i := 4) rfl)) (hw _ (List.mem_of_getElem? (i := 5) rfl)) (hw _ (List.mem_of_getElem? (i := 2) rfl)) (hw _ (List.mem_of_getElem? (i := 6) rfl)) (by decide) e26 (rm := own_rmo) (argsL := [(.int ch)]) (rest := []) (own_mo l Z a0 hw ch a1 a2 a3 a4 al kc h0 n0 Z0 (SA.ext O0.2) (VA.ext O0.2) (F1.ext O0.2) (F2.ext O0.2) (F3.ext O0.2) (F4.ext O0.2)) (W := 0) (by decide) (by decide) (by decide) (by decide) (g := (mkF m 123 #[.val (.int x0), .val (.int sel), .val (.int ch), .val (.ref a4)] [(.int ch)])) rfl (by rw [hml]; rfl) (lenOf own_pd0 rfl) rfl (by show 2 * 0 + _ ≤ _; exact Nat.le_of_eq rfl) (hb hby at_123) ?_
            intro v27 T27 L27 X27 hQ27
            obtain ⟨rfl, Nq27, e27⟩ := hQ27
            have N27 := Fr.app N0 Nq27
            show own_Go p e below K T27 (mkF m 126 #[.val (.int x0), .val (.int sel), .val (.int ch), .val (.ref a4)] [(own_of ch a1 a2 a3 a4)])
            rw [show own_of ch a1 a2 a3 a4 = (.ref a4) from ((if_neg (fun q => hc76_16 (Eq.symm q))).trans ((if_neg (fun q => hc89_19 (Eq.symm q))).trans ((if_neg (fun q => hc102_22 (Eq.symm q))).trans (if_pos (Eq.symm hc115_25)))))]
            show own_Go p e below K T27 (mkF m 126 #[.val (.int x0), .val (.int sel), .val (.int ch), .val (.ref a4)] [(.ref a4)])
            refine own_go (fun _ kk' => XS.aloadN X27.here hx rfl (hb hby at_126) rfl rfl  kk') ?_
            show own_Go p e below K T27 (mkF m 127 #[.val (.int x0), .val (.int sel), .val (.int ch), .val (.ref a4)] [(.ref a4), (.ref a4)])
            refine own_go (fun _ kk' => Jvm.RoadKit.acmp (g := (mkF m 127 #[.val (.int x0), .val (.int sel), .val (.int ch), .val (.ref a4)] [(.ref a4), (.ref a4)])) X27 hx rfl rfl rfl (pc0 := 127) (pc' := 130) (same := true) rfl (hb hby at_127) rfl (decide_eq_true (rfl : (Value.ref a4) = (Value.ref a4))) (by decide) (by decide) kk') ?_
            show own_Go p e below K T27 (mkF m 130 #[.val (.int x0), .val (.int sel), .val (.int ch), .val (.ref a4)] [])
            refine own_go (fun _ kk' => XS.iconst X27.here hx rfl (hb hby at_130) kk') ?_
            show own_Go p e below K T27 (mkF m 131 #[.val (.int x0), .val (.int sel), .val (.int ch), .val (.ref a4)] [(.int (1 : Int32))])
            refine own_go (fun _ kk' => XS.goto X27.here hx rfl (pc0 := 131) (pc' := 135) rfl (hb hby at_131) (by decide) (by decide) kk') ?_
            show own_Go p e below K T27 (mkF m 135 #[.val (.int x0), .val (.int sel), .val (.int ch), .val (.ref a4)] [(.int (1 : Int32))])
            exact own_retZ X27 hx hlk hK hret (by decide) (hb hby at_135) (by decide) (by decide) (by rw [e27]; exact ⟨rfl, N27⟩)
          · refine own_go (fun _ kk' => XS.icmpYes X0.here hx rfl (pc0 := 115) (pc' := 122) rfl (hb hby at_115) rfl (feq (hc115_25 : ¬ (ch = (76 : Int32)))).2 (by decide) (by decide) kk') ?_
            show own_Go p e below K T0 (mkF m 122 #[.val (.int x0), .val (.int sel), .val (.int ch), .val .null] [])
            refine own_go (fun _ kk' => XS.iloadN X0.here hx rfl (hb hby at_122) rfl  kk') ?_
            show own_Go p e below K T0 (mkF m 123 #[.val (.int x0), .val (.int sel), .val (.int ch), .val .null] [(.int ch)])
            refine own_callS X0 hx hZ (y := (⟨"com/example/umbral/umbral/acl/Nfs4Acl$Type", "of", "(C)Lcom/example/umbral/umbral/acl/Nfs4Acl$Type;"⟩ : MethodName)) hown (hw _ (List.mem_of_getElem? (i := 4) rfl)) (hw _ (List.mem_of_getElem? (i := 5) rfl)) (hw _ (List.mem_of_getElem? (i := 2) rfl)) (hw _ (List.mem_of_getElem? (i := 6) rfl)) (by decide) e0 (rm := own_rmo) (argsL := [(.int ch)]) (rest := []) (own_mo l Z a0 hw ch a1 a2 a3 a4 al kc h0 n0 Z0 (SA.ext O0.2) (VA.ext O0.2) (F1.ext O0.2) (F2.ext O0.2) (F3.ext O0.2) (F4.ext O0.2)) (W := 0) (by decide) (by decide) (by decide) (by decide) (g := (mkF m 123 #[.val (.int x0), .val (.int sel), .val (.int ch), .val .null] [(.int ch)])) rfl (by rw [hml]; rfl) (lenOf own_pd0 rfl) rfl (by show 2 * 0 + _ ≤ _; exact Nat.le_of_eq rfl) (hb hby at_123) ?_
            intro v28 T28 L28 X28 hQ28
            obtain ⟨rfl, Nq28, e28⟩ := hQ28
            have N28 := Fr.app N0 Nq28
            show own_Go p e below K T28 (mkF m 126 #[.val (.int x0), .val (.int sel), .val (.int ch), .val .null] [(own_of ch a1 a2 a3 a4)])
            rw [show own_of ch a1 a2 a3 a4 = .null from ((if_neg (fun q => hc76_16 (Eq.symm q))).trans ((if_neg (fun q => hc89_19 (Eq.symm q))).trans ((if_neg (fun q => hc102_22 (Eq.symm q))).trans (if_neg (fun q => hc115_25 (Eq.symm q))))))]
            show own_Go p e below K T28 (mkF m 126 #[.val (.int x0), .val (.int sel), .val (.int ch), .val .null] [.null])
            refine own_go (fun _ kk' => XS.aloadN X28.here hx rfl (hb hby at_126) rfl rfl  kk') ?_
            show own_Go p e below K T28 (mkF m 127 #[.val (.int x0), .val (.int sel), .val (.int ch), .val .null] [.null, .null])
            refine own_go (fun _ kk' => Jvm.RoadKit.acmp (g := (mkF m 127 #[.val (.int x0), .val (.int sel), .val (.int ch), .val .null] [.null, .null])) X28 hx rfl rfl rfl (pc0 := 127) (pc' := 130) (same := true) rfl (hb hby at_127) rfl (decide_eq_true (rfl : Value.null = Value.null)) (by decide) (by decide) kk') ?_
            show own_Go p e below K T28 (mkF m 130 #[.val (.int x0), .val (.int sel), .val (.int ch), .val .null] [])
            refine own_go (fun _ kk' => XS.iconst X28.here hx rfl (hb hby at_130) kk') ?_
            show own_Go p e below K T28 (mkF m 131 #[.val (.int x0), .val (.int sel), .val (.int ch), .val .null] [(.int (1 : Int32))])
            refine own_go (fun _ kk' => XS.goto X28.here hx rfl (pc0 := 131) (pc' := 135) rfl (hb hby at_131) (by decide) (by decide) kk') ?_
            show own_Go p e below K T28 (mkF m 135 #[.val (.int x0), .val (.int sel), .val (.int ch), .val .null] [(.int (1 : Int32))])
            exact own_retZ X28 hx hlk hK hret (by decide) (hb hby at_135) (by decide) (by decide) (by rw [e28]; exact ⟨rfl, N28⟩)
  · refine own_go (fun _ kk' => XS.ifNo X0.here hx rfl (hb hby at_3) rfl ((if0 _ _).trans (feq (hc3_15 : ¬ ((sel &&& (1 : Int32)) = (0 : Int32)))).1) kk') ?_
    show own_Go p e below K T0 (mkF m 6 #[.val (.int x0), .val (.int sel), .unset, .unset] [])
    refine own_go (fun _ kk' => XS.bipush X0.here hx rfl (hb hby at_6) kk') ?_
    show own_Go p e below K T0 (mkF m 8 #[.val (.int x0), .val (.int sel), .unset, .unset] [(.int (8 : Int32))])
    obtain ⟨T29, h29, k29, X29, e29, E29, A29, st29⟩ := newP X0 hx hZ (hw _ (List.mem_of_getElem? (i := 0) rfl)) e0 (g := (mkF m 8 #[.val (.int x0), .val (.int sel), .unset, .unset] [(.int (8 : Int32))])) rfl (hb hby at_8) rfl (by decide) (cap := 8) (by decide) (by decide) (by decide) (by decide)
    obtain ⟨b29, g29⟩ : ∃ z, z = h0.size := ⟨_, rfl⟩
    rw [← g29] at A29 st29
    have gp29 : n0 ≤ b29 := Nat.le_trans Z0 (Nat.le_of_eq g29.symm)
    have sz29 : h0.size ≤ b29 := Nat.le_trans (Nat.le_refl _) (Nat.le_of_eq g29.symm)
    have V29 : Arv Z h29 b29 k29 .char (8 : Int32) [(.int (0 : Int32)), (.int (0 : Int32)), (.int (0 : Int32)), (.int (0 : Int32)), (.int (0 : Int32)), (.int (0 : Int32)), (.int (0 : Int32)), (.int (0 : Int32))] (.int (0 : Int32)) := (Arv.new A29 (by decide)).pad (pad_rep [] (.int (0 : Int32)) 8)
    refine own_go st29 ?_
    show own_Go p e below K T29 (mkF m 10 #[.val (.int x0), .val (.int sel), .unset, .unset] [(.ref b29)])
    refine own_go (fun _ kk' => XS.dup X29.here hx rfl (hb hby at_10) rfl rfl kk') ?_
    show own_Go p e below K T29 (mkF m 11 #[.val (.int x0), .val (.int sel), .unset, .unset] [(.ref b29), (.ref b29)])
    refine own_go (fun _ kk' => XS.iconst X29.here hx rfl (hb hby at_11) kk') ?_
    show own_Go p e below K T29 (mkF m 12 #[.val (.int x0), .val (.int sel), .unset, .unset] [(.int (0 : Int32)), (.ref b29), (.ref b29)])
    refine own_go (fun _ kk' => XS.bipush X29.here hx rfl (hb hby at_12) kk') ?_
    show own_Go p e below K T29 (mkF m 14 #[.val (.int x0), .val (.int sel), .unset, .unset] [(.int (65 : Int32)), (.int (0 : Int32)), (.ref b29), (.ref b29)])
    obtain ⟨cl30, Ar30, q30, S30, Nn30, H30, G30⟩ := (id V29)
    have hin30 : ¬ ((0 : Int32) < 0 ∨ cl30.slots.size ≤ ((0 : Int32)).toNatClampNeg) := inb_of S30 ⟨by decide, by decide⟩
    obtain ⟨T30, h30, X30, e30, W30, st30⟩ := stC X29 hx hZ e29 Ar30 (j := (0 : Int32)) hin30 (g := (mkF m 14 #[.val (.int x0), .val (.int sel), .unset, .unset] [(.int (65 : Int32)), (.int (0 : Int32)), (.ref b29), (.ref b29)])) rfl rfl (hb hby at_14)
    have V30 : Arv Z h30 b29 k29 .char (8 : Int32) [(.int (65 : Int32)), (.int (0 : Int32)), (.int (0 : Int32)), (.int (0 : Int32)), (.int (0 : Int32)), (.int (0 : Int32)), (.int (0 : Int32)), (.int (0 : Int32))] (.int (0 : Int32)) := Arv.set Ar30 q30 S30 Nn30 H30 G30 (by decide) W30 0 rfl (Nat.le_of_ble_eq_true rfl)
    have N30 := Fr.snoc X30 N0 gp29
    refine own_go st30 ?_
    show own_Go p e below K T30 (mkF m 15 #[.val (.int x0), .val (.int sel), .unset, .unset] [(.ref b29)])
    refine own_go (fun _ kk' => XS.dup X30.here hx rfl (hb hby at_15) rfl rfl kk') ?_
    show own_Go p e below K T30 (mkF m 16 #[.val (.int x0), .val (.int sel), .unset, .unset] [(.ref b29), (.ref b29)])
    refine own_go (fun _ kk' => XS.iconst X30.here hx rfl (hb hby at_16) kk') ?_
    show own_Go p e below K T30 (mkF m 17 #[.val (.int x0), .val (.int sel), .unset, .unset] [(.int (1 : Int32)), (.ref b29), (.ref b29)])
    refine own_go (fun _ kk' => XS.bipush X30.here hx rfl (hb hby at_17) kk') ?_
    show own_Go p e below K T30 (mkF m 19 #[.val (.int x0), .val (.int sel), .unset, .unset] [(.int (68 : Int32)), (.int (1 : Int32)), (.ref b29), (.ref b29)])
    obtain ⟨cl31, Ar31, q31, S31, Nn31, H31, G31⟩ := (id V30)
    have hin31 : ¬ ((1 : Int32) < 0 ∨ cl31.slots.size ≤ ((1 : Int32)).toNatClampNeg) := inb_of S31 ⟨by decide, by decide⟩
    obtain ⟨T31, h31, X31, e31, W31, st31⟩ := stC X30 hx hZ e30 Ar31 (j := (1 : Int32)) hin31 (g := (mkF m 19 #[.val (.int x0), .val (.int sel), .unset, .unset] [(.int (68 : Int32)), (.int (1 : Int32)), (.ref b29), (.ref b29)])) rfl rfl (hb hby at_19)
    have V31 : Arv Z h31 b29 k29 .char (8 : Int32) [(.int (65 : Int32)), (.int (68 : Int32)), (.int (0 : Int32)), (.int (0 : Int32)), (.int (0 : Int32)), (.int (0 : Int32)), (.int (0 : Int32)), (.int (0 : Int32))] (.int (0 : Int32)) := Arv.set Ar31 q31 S31 Nn31 H31 G31 (by decide) W31 1 rfl (Nat.le_of_ble_eq_true rfl)
    have N31 := Fr.snoc X31 N30 gp29
    refine own_go st31 ?_
    show own_Go p e below K T31 (mkF m 20 #[.val (.int x0), .val (.int sel), .unset, .unset] [(.ref b29)])
    refine own_go (fun _ kk' => XS.dup X31.here hx rfl (hb hby at_20) rfl rfl kk') ?_
    show own_Go p e below K T31 (mkF m 21 #[.val (.int x0), .val (.int sel), .unset, .unset] [(.ref b29), (.ref b29)])
    refine own_go (fun _ kk' => XS.iconst X31.here hx rfl (hb hby at_21) kk') ?_
    show own_Go p e below K T31 (mkF m 22 #[.val (.int x0), .val (.int sel), .unset, .unset] [(.int (2 : Int32)), (.ref b29), (.ref b29)])
    refine own_go (fun _ kk' => XS.bipush X31.here hx rfl (hb hby at_22) kk') ?_
    show own_Go p e below K T31 (mkF m 24 #[.val (.int x0), .val (.int sel), .unset, .unset] [(.int (85 : Int32)), (.int (2 : Int32)), (.ref b29), (.ref b29)])
    obtain ⟨cl32, Ar32, q32, S32, Nn32, H32, G32⟩ := (id V31)
    have hin32 : ¬ ((2 : Int32) < 0 ∨ cl32.slots.size ≤ ((2 : Int32)).toNatClampNeg) := inb_of S32 ⟨by decide, by decide⟩
    obtain ⟨T32, h32, X32, e32, W32, st32⟩ := stC X31 hx hZ e31 Ar32 (j := (2 : Int32)) hin32 (g := (mkF m 24 #[.val (.int x0), .val (.int sel), .unset, .unset] [(.int (85 : Int32)), (.int (2 : Int32)), (.ref b29), (.ref b29)])) rfl rfl (hb hby at_24)
    have V32 : Arv Z h32 b29 k29 .char (8 : Int32) [(.int (65 : Int32)), (.int (68 : Int32)), (.int (85 : Int32)), (.int (0 : Int32)), (.int (0 : Int32)), (.int (0 : Int32)), (.int (0 : Int32)), (.int (0 : Int32))] (.int (0 : Int32)) := Arv.set Ar32 q32 S32 Nn32 H32 G32 (by decide) W32 2 rfl (Nat.le_of_ble_eq_true rfl)
    have N32 := Fr.snoc X32 N31 gp29
    refine own_go st32 ?_
    show own_Go p e below K T32 (mkF m 25 #[.val (.int x0), .val (.int sel), .unset, .unset] [(.ref b29)])
    refine own_go (fun _ kk' => XS.dup X32.here hx rfl (hb hby at_25) rfl rfl kk') ?_
    show own_Go p e below K T32 (mkF m 26 #[.val (.int x0), .val (.int sel), .unset, .unset] [(.ref b29), (.ref b29)])
    refine own_go (fun _ kk' => XS.iconst X32.here hx rfl (hb hby at_26) kk') ?_
    show own_Go p e below K T32 (mkF m 27 #[.val (.int x0), .val (.int sel), .unset, .unset] [(.int (3 : Int32)), (.ref b29), (.ref b29)])
    refine own_go (fun _ kk' => XS.bipush X32.here hx rfl (hb hby at_27) kk') ?_
    show own_Go p e below K T32 (mkF m 29 #[.val (.int x0), .val (.int sel), .unset, .unset] [(.int (76 : Int32)), (.int (3 : Int32)), (.ref b29), (.ref b29)])
    obtain ⟨cl33, Ar33, q33, S33, Nn33, H33, G33⟩ := (id V32)
    have hin33 : ¬ ((3 : Int32) < 0 ∨ cl33.slots.size ≤ ((3 : Int32)).toNatClampNeg) := inb_of S33 ⟨by decide, by decide⟩
    obtain ⟨T33, h33, X33, e33, W33, st33⟩ := stC X32 hx hZ e32 Ar33 (j := (3 : Int32)) hin33 (g := (mkF m 29 #[.val (.int x0), .val (.int sel), .unset, .unset] [(.int (76 : Int32)), (.int (3 : Int32)), (.ref b29), (.ref b29)])) rfl rfl (hb hby at_29)
    have V33 : Arv Z h33 b29 k29 .char (8 : Int32) [(.int (65 : Int32)), (.int (68 : Int32)), (.int (85 : Int32)), (.int (76 : Int32)), (.int (0 : Int32)), (.int (0 : Int32)), (.int (0 : Int32)), (.int (0 : Int32))] (.int (0 : Int32)) := Arv.set Ar33 q33 S33 Nn33 H33 G33 (by decide) W33 3 rfl (Nat.le_of_ble_eq_true rfl)
    have N33 := Fr.snoc X33 N32 gp29
    refine own_go st33 ?_
    show own_Go p e below K T33 (mkF m 30 #[.val (.int x0), .val (.int sel), .unset, .unset] [(.ref b29)])
    refine own_go (fun _ kk' => XS.dup X33.here hx rfl (hb hby at_30) rfl rfl kk') ?_
    show own_Go p e below K T33 (mkF m 31 #[.val (.int x0), .val (.int sel), .unset, .unset] [(.ref b29), (.ref b29)])
    refine own_go (fun _ kk' => XS.iconst X33.here hx rfl (hb hby at_31) kk') ?_
    show own_Go p e below K T33 (mkF m 32 #[.val (.int x0), .val (.int sel), .unset, .unset] [(.int (4 : Int32)), (.ref b29), (.ref b29)])
    refine own_go (fun _ kk' => XS.bipush X33.here hx rfl (hb hby at_32) kk') ?_
    show own_Go p e below K T33 (mkF m 34 #[.val (.int x0), .val (.int sel), .unset, .unset] [(.int (97 : Int32)), (.int (4 : Int32)), (.ref b29), (.ref b29)])
    obtain ⟨cl34, Ar34, q34, S34, Nn34, H34, G34⟩ := (id V33)
    have hin34 : ¬ ((4 : Int32) < 0 ∨ cl34.slots.size ≤ ((4 : Int32)).toNatClampNeg) := inb_of S34 ⟨by decide, by decide⟩
    obtain ⟨T34, h34, X34, e34, W34, st34⟩ := stC X33 hx hZ e33 Ar34 (j := (4 : Int32)) hin34 (g := (mkF m 34 #[.val (.int x0), .val (.int sel), .unset, .unset] [(.int (97 : Int32)), (.int (4 : Int32)), (.ref b29), (.ref b29)])) rfl rfl (hb hby at_34)
    have V34 : Arv Z h34 b29 k29 .char (8 : Int32) [(.int (65 : Int32)), (.int (68 : Int32)), (.int (85 : Int32)), (.int (76 : Int32)), (.int (97 : Int32)), (.int (0 : Int32)), (.int (0 : Int32)), (.int (0 : Int32))] (.int (0 : Int32)) := Arv.set Ar34 q34 S34 Nn34 H34 G34 (by decide) W34 4 rfl (Nat.le_of_ble_eq_true rfl)
    have N34 := Fr.snoc X34 N33 gp29
    refine own_go st34 ?_
    show own_Go p e below K T34 (mkF m 35 #[.val (.int x0), .val (.int sel), .unset, .unset] [(.ref b29)])
    refine own_go (fun _ kk' => XS.dup X34.here hx rfl (hb hby at_35) rfl rfl kk') ?_
    show own_Go p e below K T34 (mkF m 36 #[.val (.int x0), .val (.int sel), .unset, .unset] [(.ref b29), (.ref b29)])
    refine own_go (fun _ kk' => XS.iconst X34.here hx rfl (hb hby at_36) kk') ?_
    show own_Go p e below K T34 (mkF m 37 #[.val (.int x0), .val (.int sel), .unset, .unset] [(.int (5 : Int32)), (.ref b29), (.ref b29)])
    refine own_go (fun _ kk' => XS.bipush X34.here hx rfl (hb hby at_37) kk') ?_
    show own_Go p e below K T34 (mkF m 39 #[.val (.int x0), .val (.int sel), .unset, .unset] [(.int (100 : Int32)), (.int (5 : Int32)), (.ref b29), (.ref b29)])
    obtain ⟨cl35, Ar35, q35, S35, Nn35, H35, G35⟩ := (id V34)
    have hin35 : ¬ ((5 : Int32) < 0 ∨ cl35.slots.size ≤ ((5 : Int32)).toNatClampNeg) := inb_of S35 ⟨by decide, by decide⟩
    obtain ⟨T35, h35, X35, e35, W35, st35⟩ := stC X34 hx hZ e34 Ar35 (j := (5 : Int32)) hin35 (g := (mkF m 39 #[.val (.int x0), .val (.int sel), .unset, .unset] [(.int (100 : Int32)), (.int (5 : Int32)), (.ref b29), (.ref b29)])) rfl rfl (hb hby at_39)
    have V35 : Arv Z h35 b29 k29 .char (8 : Int32) [(.int (65 : Int32)), (.int (68 : Int32)), (.int (85 : Int32)), (.int (76 : Int32)), (.int (97 : Int32)), (.int (100 : Int32)), (.int (0 : Int32)), (.int (0 : Int32))] (.int (0 : Int32)) := Arv.set Ar35 q35 S35 Nn35 H35 G35 (by decide) W35 5 rfl (Nat.le_of_ble_eq_true rfl)
    have N35 := Fr.snoc X35 N34 gp29
    refine own_go st35 ?_
    show own_Go p e below K T35 (mkF m 40 #[.val (.int x0), .val (.int sel), .unset, .unset] [(.ref b29)])
    refine own_go (fun _ kk' => XS.dup X35.here hx rfl (hb hby at_40) rfl rfl kk') ?_
    show own_Go p e below K T35 (mkF m 41 #[.val (.int x0), .val (.int sel), .unset, .unset] [(.ref b29), (.ref b29)])
    refine own_go (fun _ kk' => XS.bipush X35.here hx rfl (hb hby at_41) kk') ?_
    show own_Go p e below K T35 (mkF m 43 #[.val (.int x0), .val (.int sel), .unset, .unset] [(.int (6 : Int32)), (.ref b29), (.ref b29)])
    refine own_go (fun _ kk' => XS.bipush X35.here hx rfl (hb hby at_43) kk') ?_
    show own_Go p e below K T35 (mkF m 45 #[.val (.int x0), .val (.int sel), .unset, .unset] [(.int (117 : Int32)), (.int (6 : Int32)), (.ref b29), (.ref b29)])
    obtain ⟨cl36, Ar36, q36, S36, Nn36, H36, G36⟩ := (id V35)
    have hin36 : ¬ ((6 : Int32) < 0 ∨ cl36.slots.size ≤ ((6 : Int32)).toNatClampNeg) := inb_of S36 ⟨by decide, by decide⟩
    obtain ⟨T36, h36, X36, e36, W36, st36⟩ := stC X35 hx hZ e35 Ar36 (j := (6 : Int32)) hin36 (g := (mkF m 45 #[.val (.int x0), .val (.int sel), .unset, .unset] [(.int (117 : Int32)), (.int (6 : Int32)), (.ref b29), (.ref b29)])) rfl rfl (hb hby at_45)
    have V36 : Arv Z h36 b29 k29 .char (8 : Int32) [(.int (65 : Int32)), (.int (68 : Int32)), (.int (85 : Int32)), (.int (76 : Int32)), (.int (97 : Int32)), (.int (100 : Int32)), (.int (117 : Int32)), (.int (0 : Int32))] (.int (0 : Int32)) := Arv.set Ar36 q36 S36 Nn36 H36 G36 (by decide) W36 6 rfl (Nat.le_of_ble_eq_true rfl)
    have N36 := Fr.snoc X36 N35 gp29
    refine own_go st36 ?_
    show own_Go p e below K T36 (mkF m 46 #[.val (.int x0), .val (.int sel), .unset, .unset] [(.ref b29)])
    refine own_go (fun _ kk' => XS.dup X36.here hx rfl (hb hby at_46) rfl rfl kk') ?_
    show own_Go p e below K T36 (mkF m 47 #[.val (.int x0), .val (.int sel), .unset, .unset] [(.ref b29), (.ref b29)])
    refine own_go (fun _ kk' => XS.bipush X36.here hx rfl (hb hby at_47) kk') ?_
    show own_Go p e below K T36 (mkF m 49 #[.val (.int x0), .val (.int sel), .unset, .unset] [(.int (7 : Int32)), (.ref b29), (.ref b29)])
    refine own_go (fun _ kk' => XS.bipush X36.here hx rfl (hb hby at_49) kk') ?_
    show own_Go p e below K T36 (mkF m 51 #[.val (.int x0), .val (.int sel), .unset, .unset] [(.int (108 : Int32)), (.int (7 : Int32)), (.ref b29), (.ref b29)])
    obtain ⟨cl37, Ar37, q37, S37, Nn37, H37, G37⟩ := (id V36)
    have hin37 : ¬ ((7 : Int32) < 0 ∨ cl37.slots.size ≤ ((7 : Int32)).toNatClampNeg) := inb_of S37 ⟨by decide, by decide⟩
    obtain ⟨T37, h37, X37, e37, W37, st37⟩ := stC X36 hx hZ e36 Ar37 (j := (7 : Int32)) hin37 (g := (mkF m 51 #[.val (.int x0), .val (.int sel), .unset, .unset] [(.int (108 : Int32)), (.int (7 : Int32)), (.ref b29), (.ref b29)])) rfl rfl (hb hby at_51)
    have V37 : Arv Z h37 b29 k29 .char (8 : Int32) [(.int (65 : Int32)), (.int (68 : Int32)), (.int (85 : Int32)), (.int (76 : Int32)), (.int (97 : Int32)), (.int (100 : Int32)), (.int (117 : Int32)), (.int (108 : Int32))] (.int (0 : Int32)) := Arv.set Ar37 q37 S37 Nn37 H37 G37 (by decide) W37 7 rfl (Nat.le_of_ble_eq_true rfl)
    have N37 := Fr.snoc X37 N36 gp29
    refine own_go st37 ?_
    show own_Go p e below K T37 (mkF m 52 #[.val (.int x0), .val (.int sel), .unset, .unset] [(.ref b29)])
    refine own_go (fun _ kk' => XS.astoreN X37.here hx rfl (hb hby at_52) rfl rfl (l' := #[.val (.int x0), .val (.int sel), .unset, .val (.ref b29)]) rfl kk') ?_
    show own_Go p e below K T37 (mkF m 53 #[.val (.int x0), .val (.int sel), .unset, .val (.ref b29)] [])
    refine own_go (fun _ kk' => XS.aloadN X37.here hx rfl (hb hby at_53) rfl rfl  kk') ?_
    show own_Go p e below K T37 (mkF m 54 #[.val (.int x0), .val (.int sel), .unset, .val (.ref b29)] [(.ref b29)])
    refine own_go (fun _ kk' => XS.iloadN X37.here hx rfl (hb hby at_54) rfl  kk') ?_
    show own_Go p e below K T37 (mkF m 55 #[.val (.int x0), .val (.int sel), .unset, .val (.ref b29)] [(.int sel), (.ref b29)])
    refine own_go (fun _ kk' => XS.iconst X37.here hx rfl (hb hby at_55) kk') ?_
    show own_Go p e below K T37 (mkF m 56 #[.val (.int x0), .val (.int sel), .unset, .val (.ref b29)] [(.int (1 : Int32)), (.int sel), (.ref b29)])
    refine own_go (fun _ kk' => XS.iushr X37.here hx rfl (hb hby at_56) rfl kk') ?_
    show own_Go p e below K T37 (mkF m 57 #[.val (.int x0), .val (.int sel), .unset, .val (.ref b29)] [(.int ((sel.toUInt32 >>> ((1 : Int32) &&& 31).toUInt32).toInt32)), (.ref b29)])
    refine own_go (fun _ kk' => XS.bipush X37.here hx rfl (hb hby at_57) kk') ?_
    show own_Go p e below K T37 (mkF m 59 #[.val (.int x0), .val (.int sel), .unset, .val (.ref b29)] [(.int (7 : Int32)), (.int ((sel.toUInt32 >>> ((1 : Int32) &&& 31).toUInt32).toInt32)), (.ref b29)])
    refine own_go (fun _ kk' => XS.iand X37.here hx rfl (hb hby at_59) rfl kk') ?_
    show own_Go p e below K T37 (mkF m 60 #[.val (.int x0), .val (.int sel), .unset, .val (.ref b29)] [(.int (((sel.toUInt32 >>> ((1 : Int32) &&& 31).toUInt32).toInt32) &&& (7 : Int32))), (.ref b29)])
    obtain ⟨cl38, Ar38, -, S38, Nn38, H38, -⟩ := V37
    have hin38 : ¬ ((((sel.toUInt32 >>> ((1 : Int32) &&& 31).toUInt32).toInt32) &&& (7 : Int32)) < 0 ∨ cl38.slots.size ≤ ((((sel.toUInt32 >>> ((1 : Int32) &&& 31).toUInt32).toInt32) &&& (7 : Int32))).toNatClampNeg) := inb_of S38 (own_in8 _)
    obtain ⟨ch, hch⟩ : ∃ z, ([(.int (65 : Int32)), (.int (68 : Int32)), (.int (85 : Int32)), (.int (76 : Int32)), (.int (97 : Int32)), (.int (100 : Int32)), (.int (117 : Int32)), (.int (108 : Int32))] : List Value).getD ((((sel.toUInt32 >>> ((1 : Int32) &&& 31).toUInt32).toInt32) &&& (7 : Int32))).toNatClampNeg (.int (0 : Int32)) = .int z := ⟨_, own_gi [65, 68, 85, 76, 97, 100, 117, 108] _⟩
    refine own_go (fun tt' kk' => X37.caload hx (j := (((sel.toUInt32 >>> ((1 : Int32) &&& 31).toUInt32).toInt32) &&& (7 : Int32))) (v := .int ch) (by rw [e37]; exact Ar38.1) (State.isArrayOf_alike hZ.alike Ar38.2.1) Ar38.2.2 hin38 (Has.at H38 hin38 hch) (g := (mkF m 60 #[.val (.int x0), .val (.int sel), .unset, .val (.ref b29)] [(.int (((sel.toUInt32 >>> ((1 : Int32) &&& 31).toUInt32).toInt32) &&& (7 : Int32))), (.ref b29)])) rfl rfl (hb hby at_60) tt' kk') ?_
    show own_Go p e below K T37 (mkF m 61 #[.val (.int x0), .val (.int sel), .unset, .val (.ref b29)] [(.int ch)])
    refine own_go (fun _ kk' => XS.istoreN X37.here hx rfl (hb hby at_61) rfl (l' := #[.val (.int x0), .val (.int sel), .val (.int ch), .val (.ref b29)]) rfl kk') ?_
    show own_Go p e below K T37 (mkF m 62 #[.val (.int x0), .val (.int sel), .val (.int ch), .val (.ref b29)] [])
    refine own_go (fun _ kk' => XS.goto X37.here hx rfl (pc0 := 62) (pc' := 71) rfl (hb hby at_62) (by decide) (by decide) kk') ?_
    show own_Go p e below K T37 (mkF m 71 #[.val (.int x0), .val (.int sel), .val (.int ch), .val (.ref b29)] [])
    refine own_go (fun _ kk' => XS.aconstNull X37.here hx rfl (hb hby at_71) kk') ?_
    show own_Go p e below K T37 (mkF m 72 #[.val (.int x0), .val (.int sel), .val (.int ch), .val (.ref b29)] [.null])
    refine own_go (fun _ kk' => XS.astoreN X37.here hx rfl (hb hby at_72) rfl rfl (l' := #[.val (.int x0), .val (.int sel), .val (.int ch), .val .null]) rfl kk') ?_
    show own_Go p e below K T37 (mkF m 73 #[.val (.int x0), .val (.int sel), .val (.int ch), .val .null] [])
    refine own_go (fun _ kk' => XS.iloadN X37.here hx rfl (hb hby at_73) rfl  kk') ?_
    show own_Go p e below K T37 (mkF m 74 #[.val (.int x0), .val (.int sel), .val (.int ch), .val .null] [(.int ch)])
    refine own_go (fun _ kk' => XS.bipush X37.here hx rfl (hb hby at_74) kk') ?_
    show own_Go p e below K T37 (mkF m 76 #[.val (.int x0), .val (.int sel), .val (.int ch), .val .null] [(.int (65 : Int32)), (.int ch)])
    by_cases hc76_39 : ch = (65 : Int32)
    · refine own_go (fun _ kk' => XS.icmpNo X37.here hx rfl (hb hby at_76) rfl (teq (hc76_39 : ch = (65 : Int32))).2 kk') ?_
      show own_Go p e below K T37 (mkF m 79 #[.val (.int x0), .val (.int sel), .val (.int ch), .val .null] [])
      obtain ⟨T40, X40, e40, st40⟩ := getS2 X37 hx hZ hown (host := "") (Or.inl (hw _ (List.mem_of_getElem? (i := 12) rfl))) Via.refl e37 (S1.ext (((((((((O0.ext E29).wr W30 gp29).wr W31 gp29).wr W32 gp29).wr W33 gp29).wr W34 gp29).wr W35 gp29).wr W36 gp29).wr W37 gp29).2) (g := (mkF m 79 #[.val (.int x0), .val (.int sel), .val (.int ch), .val .null] [])) rfl (hb hby at_79)
      refine own_go st40 ?_
      show own_Go p e below K T40 (mkF m 82 #[.val (.int x0), .val (.int sel), .val (.int ch), .val .null] [(.ref a1)])
      refine own_go (fun _ kk' => XS.astoreN X40.here hx rfl (hb hby at_82) rfl rfl (l' := #[.val (.int x0), .val (.int sel), .val (.int ch), .val (.ref a1)]) rfl kk') ?_
      show own_Go p e below K T40 (mkF m 83 #[.val (.int x0), .val (.int sel), .val (.int ch), .val (.ref a1)] [])
      refine own_go (fun _ kk' => XS.goto X40.here hx rfl (pc0 := 83) (pc' := 122) rfl (hb hby at_83) (by decide) (by decide) kk') ?_
      show own_Go p e below K T40 (mkF m 122 #[.val (.int x0), .val (.int sel), .val (.int ch), .val (.ref a1)] [])
      refine own_go (fun _ kk' => XS.iloadN X40.here hx rfl (hb hby at_122) rfl  kk') ?_
      show own_Go p e below K T40 (mkF m 123 #[.val (.int x0), .val (.int sel), .val (.int ch), .val (.ref a1)] [(.int ch)])
      refine own_callS X40 hx hZ (y := (⟨"com/example/umbral/umbral/acl/Nfs4Acl$Type", "of", "(C)Lcom/example/umbral/umbral/acl/Nfs4Acl$Type;"⟩ : MethodName)) hown (hw _ (List.mem_of_getElem? (i := 4) rfl)) (hw _ (List.mem_of_getElem? (i := 5) rfl)) (hw _ (List.mem_of_getElem? (i := 2) rfl)) (hw _ (List.mem_of_getElem? (i := 6) rfl)) (by decide) e40 (rm := own_rmo) (argsL := [(.int ch)]) (rest := []) (own_mo l Z a0 hw ch a1 a2 a3 a4 al kc h37 n0 (Nat.le_trans (Nat.le_trans (Nat.le_trans (Nat.le_trans (Nat.le_trans (Nat.le_trans (Nat.le_trans (Nat.le_trans (Nat.le_trans Z0 E29.1) (Keep.of_wr W30).1) (Keep.of_wr W31).1) (Keep.of_wr W32).1) (Keep.of_wr W33).1) (Keep.of_wr W34).1) (Keep.of_wr W35).1) (Keep.of_wr W36).1) (Keep.of_wr W37).1) (SA.ext (((((((((O0.ext E29).wr W30 gp29).wr W31 gp29).wr W32 gp29).wr W33 gp29).wr W34 gp29).wr W35 gp29).wr W36 gp29).wr W37 gp29).2) (VA.ext (((((((((O0.ext E29).wr W30 gp29).wr W31 gp29).wr W32 gp29).wr W33 gp29).wr W34 gp29).wr W35 gp29).wr W36 gp29).wr W37 gp29).2) (F1.ext (((((((((O0.ext E29).wr W30 gp29).wr W31 gp29).wr W32 gp29).wr W33 gp29).wr W34 gp29).wr W35 gp29).wr W36 gp29).wr W37 gp29).2) (F2.ext (((((((((O0.ext E29).wr W30 gp29).wr W31 gp29).wr W32 gp29).wr W33 gp29).wr W34 gp29).wr W35 gp29).wr W36 gp29).wr W37 gp29).2) (F3.ext (((((((((O0.ext E29).wr W30 gp29).wr W31 gp29).wr W32 gp29).wr W33 gp29).wr W34 gp29).wr W35 gp29).wr W36 gp29).wr W37 gp29).2) (F4.ext (((((((((O0.ext E29).wr W30 gp29).wr W31 gp29).wr W32 gp29).wr W33 gp29).wr W34 gp29).wr W35 gp29).wr W36 gp29).wr W37 gp29).2)) (W := 0) (by decide) (by decide) (by decide) (by decide) (g := (mkF m 123 #[.val (.int x0), .val (.int sel), .val (.int ch), .val (.ref a1)] [(.int ch)])) rfl (by rw [hml]; rfl) (lenOf own_pd0 rfl) rfl (by show 2 * 0 + _ ≤ _; exact Nat.le_of_eq rfl) (hb hby at_123) ?_
      intro v41 T41 L41 X41 hQ41
      obtain ⟨rfl, Nq41, e41⟩ := hQ41
      have N41 := Fr.app N37 Nq41
      show own_Go p e below K T41 (mkF m 126 #[.val (.int x0), .val (.int sel), .val (.int ch), .val (.ref a1)] [(own_of ch a1 a2 a3 a4)])
      rw [show own_of ch a1 a2 a3 a4 = (.ref a1) from (if_pos (Eq.symm hc76_39))]
      show own_Go p e below K T41 (mkF m 126 #[.val (.int x0), .val (.int sel), .val (.int ch), .val (.ref a1)] [(.ref a1)])
      refine own_go (fun _ kk' => XS.aloadN X41.here hx rfl (hb hby at_126) rfl rfl  kk') ?_
      show own_Go p e below K T41 (mkF m 127 #[.val (.int x0), .val (.int sel), .val (.int ch), .val (.ref a1)] [(.ref a1), (.ref a1)])
      refine own_go (fun _ kk' => Jvm.RoadKit.acmp (g := (mkF m 127 #[.val (.int x0), .val (.int sel), .val (.int ch), .val (.ref a1)] [(.ref a1), (.ref a1)])) X41 hx rfl rfl rfl (pc0 := 127) (pc' := 130) (same := true) rfl (hb hby at_127) rfl (decide_eq_true (rfl : (Value.ref a1) = (Value.ref a1))) (by decide) (by decide) kk') ?_
      show own_Go p e below K T41 (mkF m 130 #[.val (.int x0), .val (.int sel), .val (.int ch), .val (.ref a1)] [])
      refine own_go (fun _ kk' => XS.iconst X41.here hx rfl (hb hby at_130) kk') ?_
      show own_Go p e below K T41 (mkF m 131 #[.val (.int x0), .val (.int sel), .val (.int ch), .val (.ref a1)] [(.int (1 : Int32))])
      refine own_go (fun _ kk' => XS.goto X41.here hx rfl (pc0 := 131) (pc' := 135) rfl (hb hby at_131) (by decide) (by decide) kk') ?_
      show own_Go p e below K T41 (mkF m 135 #[.val (.int x0), .val (.int sel), .val (.int ch), .val (.ref a1)] [(.int (1 : Int32))])
      exact own_retZ X41 hx hlk hK hret (by decide) (hb hby at_135) (by decide) (by decide) (by rw [e41]; exact ⟨rfl, N41⟩)
    · refine own_go (fun _ kk' => XS.icmpYes X37.here hx rfl (pc0 := 76) (pc' := 86) rfl (hb hby at_76) rfl (feq (hc76_39 : ¬ (ch = (65 : Int32)))).2 (by decide) (by decide) kk') ?_
      show own_Go p e below K T37 (mkF m 86 #[.val (.int x0), .val (.int sel), .val (.int ch), .val .null] [])
      refine own_go (fun _ kk' => XS.iloadN X37.here hx rfl (hb hby at_86) rfl  kk') ?_
      show own_Go p e below K T37 (mkF m 87 #[.val (.int x0), .val (.int sel), .val (.int ch), .val .null] [(.int ch)])
      refine own_go (fun _ kk' => XS.bipush X37.here hx rfl (hb hby at_87) kk') ?_
      show own_Go p e below K T37 (mkF m 89 #[.val (.int x0), .val (.int sel), .val (.int ch), .val .null] [(.int (68 : Int32)), (.int ch)])
      by_cases hc89_42 : ch = (68 : Int32)
      · refine own_go (fun _ kk' => XS.icmpNo X37.here hx rfl (hb hby at_89) rfl (teq (hc89_42 : ch = (68 : Int32))).2 kk') ?_
        show own_Go p e below K T37 (mkF m 92 #[.val (.int x0), .val (.int sel), .val (.int ch), .val .null] [])
        obtain ⟨T43, X43, e43, st43⟩ := getS2 X37 hx hZ hown (host := "") (Or.inl (hw _ (List.mem_of_getElem? (i := 1) rfl))) Via.refl e37 (S2.ext (((((((((O0.ext E29).wr W30 gp29).wr W31 gp29).wr W32 gp29).wr W33 gp29).wr W34 gp29).wr W35 gp29).wr W36 gp29).wr W37 gp29).2) (g := (mkF m 92 #[.val (.int x0), .val (.int sel), .val (.int ch), .val .null] [])) rfl (hb hby at_92)
        refine own_go st43 ?_
        show own_Go p e below K T43 (mkF m 95 #[.val (.int x0), .val (.int sel), .val (.int ch), .val .null] [(.ref a2)])
        refine own_go (fun _ kk' => XS.astoreN X43.here hx rfl (hb hby at_95) rfl rfl (l' := #[.val (.int x0), .val (.int sel), .val (.int ch), .val (.ref a2)]) rfl kk') ?_
        show own_Go p e below K T43 (mkF m 96 #[.val (.int x0), .val (.int sel), .val (.int ch), .val (.ref a2)] [])
        refine own_go (fun _ kk' => XS.goto X43.here hx rfl (pc0 := 96) (pc' := 122) rfl (hb hby at_96) (by decide) (by decide) kk') ?_
        show own_Go p e below K T43 (mkF m 122 #[.val (.int x0), .val (.int sel), .val (.int ch), .val (.ref a2)] [])
        refine own_go (fun _ kk' => XS.iloadN X43.here hx rfl (hb hby at_122) rfl  kk') ?_
        show own_Go p e below K T43 (mkF m 123 #[.val (.int x0), .val (.int sel), .val (.int ch), .val (.ref a2)] [(.int ch)])
        refine own_callS X43 hx hZ (y := (⟨"com/example/umbral/umbral/acl/Nfs4Acl$Type", "of", "(C)Lcom/example/umbral/umbral/acl/Nfs4Acl$Type;"⟩ : MethodName)) hown (hw _ (List.mem_of_getElem? (i := 4) rfl)) (hw _ (List.mem_of_getElem? (i := 5) rfl)) (hw _ (List.mem_of_getElem? (i := 2) rfl)) (hw _ (List.mem_of_getElem? (i := 6) rfl)) (by decide) e43 (rm := own_rmo) (argsL := [(.int ch)]) (rest := []) (own_mo l Z a0 hw ch a1 a2 a3 a4 al kc h37 n0 (Nat.le_trans (Nat.le_trans (Nat.le_trans (Nat.le_trans (Nat.le_trans (Nat.le_trans (Nat.le_trans (Nat.le_trans (Nat.le_trans Z0 E29.1) (Keep.of_wr W30).1) (Keep.of_wr W31).1) (Keep.of_wr W32).1) (Keep.of_wr W33).1) (Keep.of_wr W34).1) (Keep.of_wr W35).1) (Keep.of_wr W36).1) (Keep.of_wr W37).1) (SA.ext (((((((((O0.ext E29).wr W30 gp29).wr W31 gp29).wr W32 gp29).wr W33 gp29).wr W34 gp29).wr W35 gp29).wr W36 gp29).wr W37 gp29).2) (VA.ext (((((((((O0.ext E29).wr W30 gp29).wr W31 gp29).wr W32 gp29).wr W33 gp29).wr W34 gp29).wr W35 gp29).wr W36 gp29).wr W37 gp29).2) (F1.ext (((((((((O0.ext E29).wr W30 gp29).wr W31 gp29).wr W32 gp29).wr W33 gp29).wr W34 gp29).wr W35 gp29).wr W36 gp29).wr W37 gp29).2) (F2.ext (((((((((O0.ext E29).wr W30 gp29).wr W31 gp29).wr W32 gp29).wr W33 gp29).wr W34 gp29).wr W35 gp29).wr W36 gp29).wr W37 gp29).2) (F3.ext (((((((((O0.ext E29).wr W30 gp29).wr W31 gp29).wr W32 gp29).wr W33 gp29).wr W34 gp29).wr W35 gp29).wr W36 gp29).wr W37 gp29).2) (F4.ext (((((((((O0.ext E29).wr W30 gp29).wr W31 gp29).wr W32 gp29).wr W33 gp29).wr W34 gp29).wr W35 gp29).wr W36 gp29).wr W37 gp29).2)) (W := 0) (by decide) (by decide) (by decide) (by decide) (g := (mkF m 123 #[.val (.int x0), .val (.int sel), .val (.int ch), .val (.ref a2)] [(.int ch)])) rfl (by rw [hml]; rfl) (lenOf own_pd0 rfl) rfl (by show 2 * 0 + _ ≤ _; exact Nat.le_of_eq rfl) (hb hby at_123) ?_
        intro v44 T44 L44 X44 hQ44
        obtain ⟨rfl, Nq44, e44⟩ := hQ44
        have N44 := Fr.app N37 Nq44
        show own_Go p e below K T44 (mkF m 126 #[.val (.int x0), .val (.int sel), .val (.int ch), .val (.ref a2)] [(own_of ch a1 a2 a3 a4)])
        rw [show own_of ch a1 a2 a3 a4 = (.ref a2) from ((if_neg (fun q => hc76_39 (Eq.symm q))).trans (if_pos (Eq.symm hc89_42)))]
        show own_Go p e below K T44 (mkF m 126 #[.val (.int x0), .val (.int sel), .val (.int ch), .val (.ref a2)] [(.ref a2)])
        refine own_go (fun _ kk' => XS.aloadN X44.here hx rfl (hb hby at_126) rfl rfl  kk') ?_
        show own_Go p e below K T44 (mkF m 127 #[.val (.int x0), .val (.int sel), .val (.int ch), .val (.ref a2)] [(.ref a2), (.ref a2)])
        refine own_go (fun _ kk' => Jvm.RoadKit.acmp (g := (mkF m 127 #[.val (.int x0), .val (.int sel), .val (.int ch), .val (.ref a2)] [(.ref a2), (.ref a2)])) X44 hx rfl rfl rfl (pc0 := 127) (pc' := 130) (same := true) rfl (hb hby at_127) rfl (decide_eq_true (rfl : (Value.ref a2) = (Value.ref a2))) (by decide) (by decide) kk') ?_
        show own_Go p e below K T44 (mkF m 130 #[.val (.int x0), .val (.int sel), .val (.int ch), .val (.ref a2)] [])
        refine own_go (fun _ kk' => XS.iconst X44.here hx rfl (hb hby at_130) kk') ?_
        show own_Go p e below K T44 (mkF m 131 #[.val (.int x0), .val (.int sel), .val (.int ch), .val (.ref a2)] [(.int (1 : Int32))])
        refine own_go (fun _ kk' => XS.goto X44.here hx rfl (pc0 := 131) (pc' := 135) rfl (hb hby at_131) (by decide) (by decide) kk') ?_
        show own_Go p e below K T44 (mkF m 135 #[.val (.int x0), .val (.int sel), .val (.int ch), .val (.ref a2)] [(.int (1 : Int32))])
        exact own_retZ X44 hx hlk hK hret (by decide) (hb hby at_135) (by decide) (by decide) (by rw [e44]; exact ⟨rfl, N44⟩)
      · refine own_go (fun _ kk' => XS.icmpYes X37.here hx rfl (pc0 := 89) (pc' := 99) rfl (hb hby at_89) rfl (feq (hc89_42 : ¬ (ch = (68 : Int32)))).2 (by decide) (by decide) kk') ?_
        show own_Go p e below K T37 (mkF m 99 #[.val (.int x0), .val (.int sel), .val (.int ch), .val .null] [])
        refine own_go (fun _ kk' => XS.iloadN X37.here hx rfl (hb hby at_99) rfl  kk') ?_
        show own_Go p e below K T37 (mkF m 100 #[.val (.int x0), .val (.int sel), .val (.int ch), .val .null] [(.int ch)])
        refine own_go (fun _ kk' => XS.bipush X37.here hx rfl (hb hby at_100) kk') ?_
        show own_Go p e below K T37 (mkF m 102 #[.val (.int x0), .val (.int sel), .val (.int ch), .val .null] [(.int (85 : Int32)), (.int ch)])
        by_cases hc102_45 : ch = (85 : Int32)
        · refine own_go (fun _ kk' => XS.icmpNo X37.here hx rfl (hb hby at_102) rfl (teq (hc102_45 : ch = (85 : Int32))).2 kk') ?_
          show own_Go p e below K T37 (mkF m 105 #[.val (.int x0), .val (.int sel), .val (.int ch), .val .null] [])
          obtain ⟨T46, X46, e46, st46⟩ := getS2 X37 hx hZ hown (host := "") (Or.inl (hw _ (List.mem_of_getElem? (i := 16) rfl))) Via.refl e37 (S3.ext (((((((((O0.ext E29).wr W30 gp29).wr W31 gp29).wr W32 gp29).wr W33 gp29).wr W34 gp29).wr W35 gp29).wr W36 gp29).wr W37 gp29).2) (g := (mkF m 105 #[.val (.int x0), .val (.int sel), .val (.int ch), .val .null] [])) rfl (hb hby at_105)
          refine own_go st46 ?_
          show own_Go p e below K T46 (mkF m 108 #[.val (.int x0), .val (.int sel), .val (.int ch), .val .null] [(.ref a3)])
          refine own_go (fun _ kk' => XS.astoreN X46.here hx rfl (hb hby at_108) rfl rfl (l' := #[.val (.int x0), .val (.int sel), .val (.int ch), .val (.ref a3)]) rfl kk') ?_
          show own_Go p e below K T46 (mkF m 109 #[.val (.int x0), .val (.int sel), .val (.int ch), .val (.ref a3)] [])
          refine own_go (fun _ kk' => XS.goto X46.here hx rfl (pc0 := 109) (pc' := 122) rfl (hb hby at_109) (by decide) (by decide) kk') ?_
          show own_Go p e below K T46 (mkF m 122 #[.val (.int x0), .val (.int sel), .val (.int ch), .val (.ref a3)] [])
          refine own_go (fun _ kk' => XS.iloadN X46.here hx rfl (hb hby at_122) rfl  kk') ?_
          show own_Go p e below K T46 (mkF m 123 #[.val (.int x0), .val (.int sel), .val (.int ch), .val (.ref a3)] [(.int ch)])
          refine own_callS X46 hx hZ (y := (⟨"com/example/umbral/umbral/acl/Nfs4Acl$Type", "of", "(C)Lcom/example/umbral/umbral/acl/Nfs4Acl$Type;"⟩ : MethodName)) hown (hw _ (List.mem_of_getElem? (i := 4) rfl)) (hw _ (List.mem_of_getElem? (i := 5) rfl)) (hw _ (List.mem_of_getElem? (i := 2) rfl)) (hw _ (List.mem_of_getElem? (i := 6) rfl)) (by decide) e46 (rm := own_rmo) (argsL := [(.int ch)]) (rest := []) (own_mo l Z a0 hw ch a1 a2 a3 a4 al kc h37 n0 (Nat.le_trans (Nat.le_trans (Nat.le_trans (Nat.le_trans (Nat.le_trans (Nat.le_trans (Nat.le_trans (Nat.le_trans (Nat.le_trans Z0 E29.1) (Keep.of_wr W30).1) (Keep.of_wr W31).1) (Keep.of_wr W32).1) (Keep.of_wr W33).1) (Keep.of_wr W34).1) (Keep.of_wr W35).1) (Keep.of_wr W36).1) (Keep.of_wr W37).1) (SA.ext (((((((((O0.ext E29).wr W30 gp29).wr W31 gp29).wr W32 gp29).wr W33 gp29).wr W34 gp29).wr W35 gp29).wr W36 gp29).wr W37 gp29).2) (VA.ext (((((((((O0.ext E29).wr W30 gp29).wr W31 gp29).wr W32 gp29).wr W33 gp29).wr W34 gp29).wr W35 gp29).wr W36 gp29).wr W37 gp29).2) (F1.ext (((((((((O0.ext E29).wr W30 gp29).wr W31 gp29).wr W32 gp29).wr W33 gp29).wr W34 gp29).wr W35 gp29).wr W36 gp29).wr W37 gp29).2) (F2.ext (((((((((O0.ext E29).wr W30 gp29).wr W31 gp29).wr W32 gp29).wr W33 gp29).wr W34 gp29).wr W35 gp29).wr W36 gp29).wr W37 gp29).2) (F3.ext (((((((((O0.ext E29).wr W30 gp29).wr W31 gp29).wr W32 gp29).wr W33 gp29).wr W34 gp29).wr W35 gp29).wr W36 gp29).wr W37 gp29).2) (F4.ext (((((((((O0.ext E29).wr W30 gp29).wr W31 gp29).wr W32 gp29).wr W33 gp29).wr W34 gp29).wr W35 gp29).wr W36 gp29).wr W37 gp29).2)) (W := 0) (by decide) (by decide) (by decide) (by decide) (g := (mkF m 123 #[.val (.int x0), .val (.int sel), .val (.int ch), .val (.ref a3)] [(.int ch)])) rfl (by rw [hml]; rfl) (lenOf own_pd0 rfl) rfl (by show 2 * 0 + _ ≤ _; exact Nat.le_of_eq rfl) (hb hby at_123) ?_
          intro v47 T47 L47 X47 hQ47
          obtain ⟨rfl, Nq47, e47⟩ := hQ47
          have N47 := Fr.app N37 Nq47
          show own_Go p e below K T47 (mkF m 126 #[.val (.int x0), .val (.int sel), .val (.int ch), .val (.ref a3)] [(own_of ch a1 a2 a3 a4)])
          rw [show own_of ch a1 a2 a3 a4 = (.ref a3) from ((if_neg (fun q => hc76_39 (Eq.symm q))).trans ((if_neg (fun q => hc89_42 (Eq.symm q))).trans (if_pos (Eq.symm hc102_45))))]
          show own_Go p e below K T47 (mkF m 126 #[.val (.int x0), .val (.int sel), .val (.int ch), .val (.ref a3)] [(.ref a3)])
          refine own_go (fun _ kk' => XS.aloadN X47.here hx rfl (hb hby at_126) rfl rfl  kk') ?_
          show own_Go p e below K T47 (mkF m 127 #[.val (.int x0), .val (.int sel), .val (.int ch), .val (.ref a3)] [(.ref a3), (.ref a3)])
          refine own_go (fun _ kk' => Jvm.RoadKit.acmp (g := (mkF m 127 #[.val (.int x0), .val (.int sel), .val (.int ch), .val (.ref a3)] [(.ref a3), (.ref a3)])) X47 hx rfl rfl rfl (pc0 := 127) (pc' := 130) (same := true) rfl (hb hby at_127) rfl (decide_eq_true (rfl : (Value.ref a3) = (Value.ref a3))) (by decide) (by decide) kk') ?_
          show own_Go p e below K T47 (mkF m 130 #[.val (.int x0), .val (.int sel), .val (.int ch), .val (.ref a3)] [])
          refine own_go (fun _ kk' => XS.iconst X47.here hx rfl (hb hby at_130) kk') ?_
          show own_Go p e below K T47 (mkF m 131 #[.val (.int x0), .val (.int sel), .val (.int ch), .val (.ref a3)] [(.int (1 : Int32))])
          refine own_go (fun _ kk' => XS.goto X47.here hx rfl (pc0 := 131) (pc' := 135) rfl (hb hby at_131) (by decide) (by decide) kk') ?_
          show own_Go p e below K T47 (mkF m 135 #[.val (.int x0), .val (.int sel), .val (.int ch), .val (.ref a3)] [(.int (1 : Int32))])
          exact own_retZ X47 hx hlk hK hret (by decide) (hb hby at_135) (by decide) (by decide) (by rw [e47]; exact ⟨rfl, N47⟩)
        · refine own_go (fun _ kk' => XS.icmpYes X37.here hx rfl (pc0 := 102) (pc' := 112) rfl (hb hby at_102) rfl (feq (hc102_45 : ¬ (ch = (85 : Int32)))).2 (by decide) (by decide) kk') ?_
          show own_Go p e below K T37 (mkF m 112 #[.val (.int x0), .val (.int sel), .val (.int ch), .val .null] [])
          refine own_go (fun _ kk' => XS.iloadN X37.here hx rfl (hb hby at_112) rfl  kk') ?_
          show own_Go p e below K T37 (mkF m 113 #[.val (.int x0), .val (.int sel), .val (.int ch), .val .null] [(.int ch)])
          refine own_go (fun _ kk' => XS.bipush X37.here hx rfl (hb hby at_113) kk') ?_
          show own_Go p e below K T37 (mkF m 115 #[.val (.int x0), .val (.int sel), .val (.int ch), .val .null] [(.int (76 : Int32)), (.int ch)])
          by_cases hc115_48 : ch = (76 : Int32)
          · refine own_go (fun _ kk' => XS.icmpNo X37.here hx rfl (hb hby at_115) rfl (teq (hc115_48 : ch = (76 : Int32))).2 kk') ?_
            show own_Go p e below K T37 (mkF m 118 #[.val (.int x0), .val (.int sel), .val (.int ch), .val .null] [])
            obtain ⟨T49, X49, e49, st49⟩ := getS2 X37 hx hZ hown (host := "") (Or.inl (hw _ (List.mem_of_getElem? (i := 17) rfl))) Via.refl e37 (S4.ext (((((((((O0.ext E29).wr W30 gp29).wr W31 gp29).wr W32 gp29).wr W33 gp29).wr W34 gp29).wr W35 gp29).wr W36 gp29).wr W37 gp29).2) (g := (mkF m 118 #[.val (.int x0), .val (.int sel), .val (.int ch), .val .null] [])) rfl (hb hby at_118)
            refine own_go st49 ?_
            show own_Go p e below K T49 (mkF m 121 #[.val (.int x0), .val (.int sel), .val (.int ch), .val .null] [(.ref a4)])
            refine own_go (fun _ kk' => XS.astoreN X49.here hx rfl (hb hby at_121) rfl rfl (l' := #[.val (.int x0), .val (.int sel), .val (.int ch), .val (.ref a4)]) rfl kk') ?_
            show own_Go p e below K T49 (mkF m 122 #[.val (.int x0), .val (.int sel), .val (.int ch), .val (.ref a4)] [])
            refine own_go (fun _ kk' => XS.iloadN X49.here hx rfl (hb hby at_122) rfl  kk') ?_
            show own_Go p e below K T49 (mkF m 123 #[.val (.int x0), .val (.int sel), .val (.int ch), .val (.ref a4)] [(.int ch)])
            refine own_callS X49 hx hZ (y := (⟨"com/example/umbral/umbral/acl/Nfs4Acl$Type", "of", "(C)Lcom/example/umbral/umbral/acl/Nfs4Acl$Type;"⟩ : MethodName)) hown (hw _ (List.mem_of_getElem? (i := 4) rfl)) (hw _ (List.mem_of_getElem? (i := 5) rfl)) (hw _ (List.mem_of_getElem? (i := 2) rfl)) (hw _ (List.mem_of_getElem? (i := 6) rfl)) (by decide) e49 (rm := own_rmo) (argsL := [(.int ch)]) (rest := []) (own_mo l Z a0 hw ch a1 a2 a3 a4 al kc h37 n0 (Nat.le_trans (Nat.le_trans (Nat.le_trans (Nat.le_trans (Nat.le_trans (Nat.le_trans (Nat.le_trans (Nat.le_trans (Nat.le_trans Z0 E29.1) (Keep.of_wr W30).1) (Keep.of_wr W31).1) (Keep.of_wr W32).1) (Keep.of_wr W33).1) (Keep.of_wr W34).1) (Keep.of_wr W35).1) (Keep.of_wr W36).1) (Keep.of_wr W37).1) (SA.ext (((((((((O0.ext E29).wr W30 gp29).wr W31 gp29).wr W32 gp29).wr W33 gp29).wr W34 gp29).wr W35 gp29).wr W36 gp29).wr W37 gp29).2) (VA.ext (((((((((O0.ext E29).wr W30 gp29).wr W31 gp29).wr W32 gp29).wr W33 gp29).wr W34 gp29).wr W35 gp29).wr W36 gp29).wr W37 gp29).2) (F1.ext (((((((((O0.ext E29).wr W30 gp29).wr W31 gp29).wr W32 gp29).wr W33 gp29).wr W34 gp29).wr W35 gp29).wr W36 gp29).wr W37 gp29).2) (F2.ext (((((((((O0.ext E29).wr W30 gp29).wr W31 gp29).wr W32 gp29).wr W33 gp29).wr W34 gp29).wr W35 gp29).wr W36 gp29).wr W37 gp29).2) (F3.ext (((((((((O0.ext E29).wr W30 gp29).wr W31 gp29).wr W32 gp29).wr W33 gp29).wr W34 gp29).wr W35 gp29).wr W36 gp29).wr W37 gp29).2) (F4.ext (((((((((O0.ext E29).wr W30 gp29).wr W31 gp29).wr W32 gp29).wr W33 gp29).wr W34 gp29).wr W35 gp29).wr W36 gp29).wr W37 gp29).2)) (W := 0) (by decide) (by decide) (by decide) (by decide) (g := (mkF m 123 #[.val (.int x0), .val (.int sel), .val (.int ch), .val (.ref a4)] [(.int ch)])) rfl (by rw [hml]; rfl) (lenOf own_pd0 rfl) rfl (by show 2 * 0 + _ ≤ _; exact Nat.le_of_eq rfl) (hb hby at_123) ?_
            intro v50 T50 L50 X50 hQ50
            obtain ⟨rfl, Nq50, e50⟩ := hQ50
            have N50 := Fr.app N37 Nq50
            show own_Go p e below K T50 (mkF m 126 #[.val (.int x0), .val (.int sel), .val (.int ch), .val (.ref a4)] [(own_of ch a1 a2 a3 a4)])
            rw [show own_of ch a1 a2 a3 a4 = (.ref a4) from ((if_neg (fun q => hc76_39 (Eq.symm q))).trans ((if_neg (fun q => hc89_42 (Eq.symm q))).trans ((if_neg (fun q => hc102_45 (Eq.symm q))).trans (if_pos (Eq.symm hc115_48)))))]
            show own_Go p e below K T50 (mkF m 126 #[.val (.int x0), .val (.int sel), .val (.int ch), .val (.ref a4)] [(.ref a4)])
            refine own_go (fun _ kk' => XS.aloadN X50.here hx rfl (hb hby at_126) rfl rfl  kk') ?_
            show own_Go p e below K T50 (mkF m 127 #[.val (.int x0), .val (.int sel), .val (.int ch), .val (.ref a4)] [(.ref a4), (.ref a4)])
            refine own_go (fun _ kk' => Jvm.RoadKit.acmp (g := (mkF m 127 #[.val (.int x0), .val (.int sel), .val (.int ch), .val (.ref a4)] [(.ref a4), (.ref a4)])) X50 hx rfl rfl rfl (pc0 := 127) (pc' := 130) (same := true) rfl (hb hby at_127) rfl (decide_eq_true (rfl : (Value.ref a4) = (Value.ref a4))) (by decide) (by decide) kk') ?_
            show own_Go p e below K T50 (mkF m 130 #[.val (.int x0), .val (.int sel), .val (.int ch), .val (.ref a4)] [])
            refine own_go (fun _ kk' => XS.iconst X50.here hx rfl (hb hby at_130) kk') ?_
            show own_Go p e below K T50 (mkF m 131 #[.val (.int x0), .val (.int sel), .val (.int ch), .val (.ref a4)] [(.int (1 : Int32))])
            refine own_go (fun _ kk' => XS.goto X50.here hx rfl (pc0 := 131) (pc' := 135) rfl (hb hby at_131) (by decide) (by decide) kk') ?_
            show own_Go p e below K T50 (mkF m 135 #[.val (.int x0), .val (.int sel), .val (.int ch), .val (.ref a4)] [(.int (1 : Int32))])
            exact own_retZ X50 hx hlk hK hret (by decide) (hb hby at_135) (by decide) (by decide) (by rw [e50]; exact ⟨rfl, N50⟩)
          · refine own_go (fun _ kk' => XS.icmpYes X37.here hx rfl (pc0 := 115) (pc' := 122) rfl (hb hby at_115) rfl (feq (hc115_48 : ¬ (ch = (76 : Int32)))).2 (by decide) (by decide) kk') ?_
            show own_Go p e below K T37 (mkF m 122 #[.val (.int x0), .val (.int sel), .val (.int ch), .val .null] [])
            refine own_go (fun _ kk' => XS.iloadN X37.here hx rfl (hb hby at_122) rfl  kk') ?_
            show own_Go p e below K T37 (mkF m 123 #[.val (.int x0), .val (.int sel), .val (.int ch), .val .null] [(.int ch)])
            refine own_callS X37 hx hZ (y := (⟨"com/example/umbral/umbral/acl/Nfs4Acl$Type", "of", "(C)Lcom/example/umbral/umbral/acl/Nfs4Acl$Type;"⟩ : MethodName)) hown (hw _ (List.mem_of_getElem? (i := 4) rfl)) (hw _ (List.mem_of_getElem? (i := 5) rfl)) (hw _ (List.mem_of_getElem? (i := 2) rfl)) (hw _ (List.mem_of_getElem? (i := 6) rfl)) (by decide) e37 (rm := own_rmo) (argsL := [(.int ch)]) (rest := []) (own_mo l Z a0 hw ch a1 a2 a3 a4 al kc h37 n0 (Nat.le_trans (Nat.le_trans (Nat.le_trans (Nat.le_trans (Nat.le_trans (Nat.le_trans (Nat.le_trans (Nat.le_trans (Nat.le_trans Z0 E29.1) (Keep.of_wr W30).1) (Keep.of_wr W31).1) (Keep.of_wr W32).1) (Keep.of_wr W33).1) (Keep.of_wr W34).1) (Keep.of_wr W35).1) (Keep.of_wr W36).1) (Keep.of_wr W37).1) (SA.ext (((((((((O0.ext E29).wr W30 gp29).wr W31 gp29).wr W32 gp29).wr W33 gp29).wr W34 gp29).wr W35 gp29).wr W36 gp29).wr W37 gp29).2) (VA.ext (((((((((O0.ext E29).wr W30 gp29).wr W31 gp29).wr W32 gp29).wr W33 gp29).wr W34 gp29).wr W35 gp29).wr W36 gp29).wr W37 gp29).2) (F1.ext (((((((((O0.ext E29).wr W30 gp29).wr W31 gp29).wr W32 gp29).wr W33 gp29).wr W34 gp29).wr W35 gp29).wr W36 gp29).wr W37 gp29).2) (F2.ext (((((((((O0.ext E29).wr W30 gp29).wr W31 gp29).wr W32 gp29).wr W33 gp29).wr W34 gp29).wr W35 gp29).wr W36 gp29).wr W37 gp29).2) (F3.ext (((((((((O0.ext E29).wr W30 gp29).wr W31 gp29).wr W32 gp29).wr W33 gp29).wr W34 gp29).wr W35 gp29).wr W36 gp29).wr W37 gp29).2) (F4.ext (((((((((O0.ext E29).wr W30 gp29).wr W31 gp29).wr W32 gp29).wr W33 gp29).wr W34 gp29).wr W35 gp29).wr W36 gp29).wr W37 gp29).2)) (W := 0) (by decide) (by decide) (by decide) (by decide) (g := (mkF m 123 #[.val (.int x0), .val (.int sel), .val (.int ch), .val .null] [(.int ch)])) rfl (by rw [hml]; rfl) (lenOf own_pd0 rfl) rfl (by show 2 * 0 + _ ≤ _; exact Nat.le_of_eq rfl) (hb hby at_123) ?_
            intro v51 T51 L51 X51 hQ51
            obtain ⟨rfl, Nq51, e51⟩ := hQ51
            have N51 := Fr.app N37 Nq51
            show own_Go p e below K T51 (mkF m 126 #[.val (.int x0), .val (.int sel), .val (.int ch), .val .null] [(own_of ch a1 a2 a3 a4)])
            rw [show own_of ch a1 a2 a3 a4 = .null from ((if_neg (fun q => hc76_39 (Eq.symm q))).trans ((if_neg (fun q => hc89_42 (Eq.symm q))).trans ((if_neg (fun q => hc102_45 (Eq.symm q))).trans (if_neg (fun q => hc115_48 (Eq.symm q))))))]
            show own_Go p e below K T51 (mkF m 126 #[.val (.int x0), .val (.int sel), .val (.int ch), .val .null] [.null])
            refine own_go (fun _ kk' => XS.aloadN X51.here hx rfl (hb hby at_126) rfl rfl  kk') ?_
            show own_Go p e below K T51 (mkF m 127 #[.val (.int x0), .val (.int sel), .val (.int ch), .val .null] [.null, .null])
            refine own_go (fun _ kk' => Jvm.RoadKit.acmp (g := (mkF m 127 #[.val (.int x0), .val (.int sel), .val (.int ch), .val .null] [.null, .null])) X51 hx rfl rfl rfl (pc0 := 127) (pc' := 130) (same := true) rfl (hb hby at_127) rfl (decide_eq_true (rfl : Value.null = Value.null)) (by decide) (by decide) kk') ?_
            show own_Go p e below K T51 (mkF m 130 #[.val (.int x0), .val (.int sel), .val (.int ch), .val .null] [])
            refine own_go (fun _ kk' => XS.iconst X51.here hx rfl (hb hby at_130) kk') ?_
            show own_Go p e below K T51 (mkF m 131 #[.val (.int x0), .val (.int sel), .val (.int ch), .val .null] [(.int (1 : Int32))])
            refine own_go (fun _ kk' => XS.goto X51.here hx rfl (pc0 := 131) (pc' := 135) rfl (hb hby at_131) (by decide) (by decide) kk') ?_
            show own_Go p e below K T51 (mkF m 135 #[.val (.int x0), .val (.int sel), .val (.int ch), .val .null] [(.int (1 : Int32))])
            exact own_retZ X51 hx hlk hK hret (by decide) (hb hby at_135) (by decide) (by decide) (by rw [e51]; exact ⟨rfl, N51⟩)
theorem own_fint {args : Array Value} {s : State} {a : Addr} {t u : Jvm.Term} {C n d : String} {v : Int32} {idx : List Nat} (ev : t.eval args s none idx s = some (.ref a)) (eu : u.eval args s none idx s = some (.int v)) (h : (Jvm.Cond.eq (.field t C n d) u).value args s none s idx = some true) : Fld s s.heap a C n d (.int v) := by
  have q := fld_at (C := C) (n := n) (dd := d) ev
  cases hf : s.fieldOf? a C n d with
  | none => rw [hf] at q; simp [Cond.value, q] at h
  | some w =>
    rw [hf] at q
    cases w <;> simp [Cond.value, q, eu] at h
    subst h; exact Fld.start hf
theorem own_elr {args : Array Value} {s : State} {a b : Addr} {cl : Cell} {t u : Jvm.Term} {j : Int32} (ev : t.eval args s none [] s = some (.ref a)) (hat : s.arrayAt? a = some cl) (eu : u.eval args s none [] s = some (.ref b)) (h0 : ¬ j < 0) (h : (Jvm.Cond.eq (.elem t (.int j)) u).value args s none s [] = some true) : cl.slots[j.toNatClampNeg]? = some (.ref b) := by
  have q := elem_f ev (Term.int_eval j) hat h0
  cases hf : cl.slots[j.toNatClampNeg]? with
  | none => rw [hf] at q; simp [Cond.value, q] at h
  | some w =>
    rw [hf] at q
    cases w <;> simp [Cond.value, q, eu] at h
    subst h; rfl
theorem own_len {args : Array Value} {s : State} {a : Addr} {cl : Cell} {t : Jvm.Term} {z : Int32} (ev : t.eval args s none [] s = some (.ref a)) (hat : s.arrayAt? a = some cl) (h : (Jvm.Cond.eq (.length t) (.int z)).value args s none s [] = some true) : cl.slots.size < 2 ^ 31 ∧ cl.slots.size.toInt32 = z := by
  by_cases q : cl.slots.size < 2 ^ 31
  · exact ⟨q, gotT (Cond.eq_ints (len_f ev hat q) (Term.int_eval _)) h⟩
  · exfalso
    have : (Jvm.Term.length t).eval args s none [] s = none := by simp [Term.eval, ev, hat, q]
    simp [Cond.value, this] at h
set_option maxRecDepth 65536 in
set_option maxHeartbeats 40000000 in
theorem own_comes {Post : Tables → Env → Array Value → State → Outcome → State → Prop} (hpost : ∀ tb e args s v u, (limb_1_1.after args s (.returned v) u = true ∧ limb_1_2.after args s (.returned v) u = true ∧ True) → FrameEnd s (.returned v) u (Jvm.fieldLocs frame_1_writes args s ++ Jvm.arrayLocs frame_1_arrays args s ++ Jvm.staticLocs frame_1_statics s) 16 128 → Post tb e args s (.returned v) u) :
    ArmFor flags0 classFile x code maxLocals ret World_1 tables_1 room_1 Calls_1 rest_1 Pre_1 Post := by
  intro l hfl _ _ p e ha hc hk s m args below hf hA hF happ hP
  obtain ⟨hcalls, hrest, hpre⟩ := hP
  obtain ⟨-, -, -, hnamed, -, -, -, hat⟩ := (Spec.applies_iff hf).mp happ
  obtain ⟨hg, hn⟩ := and_e (Cond.before_iff.mp (show (Jvm.Cond.and given_1 narrow_1).before args s = true from hpre))
  obtain ⟨hcnt, hg0⟩ := and_e hg
  obtain ⟨hi0, hg1⟩ := and_e hg0
  have hi1 := hg1
  obtain ⟨w0, w1, rfl⟩ : ∃ w0 w1 : Value, args = #[w0, w1] := by
    have hs : args.size = 2 := by simpa [Cond.value, given_1] using hcnt
    obtain ⟨L⟩ := args
    match L, hs with
    | [w0, w1], _ => exact ⟨w0, w1, rfl⟩
  have hw := fun d (hd : d ∈ tables_1) => atoms_spec (ws := Jvm.Cond.code x code maxLocals ret :: tables_1) hat d (List.mem_cons_of_mem _ hd)
  have hfit : Fit s := fun {y c} hc i hi => by
    obtain ⟨ha, rfl⟩ := Array.getElem?_eq_some_iff.mp hc
    have q := List.all_eq_true.mp ((Array.all_eq_true_iff_forall_mem.mp hF) _ (Array.getElem_mem ha)) i (List.mem_range.mpr hi)
    simpa [Array.getElem?_eq_getElem hi] using q
  obtain ⟨x0, ei0⟩ := is_v hi0
  obtain rfl : w0 = (.int x0) := Option.some.inj ei0
  obtain ⟨sel, ei1⟩ := is_v hi1
  obtain rfl : w1 = (.int sel) := Option.some.inj ei1
  obtain ⟨hn0, hr0⟩ := and_e (show narrow_1.value _ s none s [] = some true from hn)
  obtain ⟨hn1, hr1⟩ := and_e hr0
  obtain ⟨hn2, hr2⟩ := and_e hr1
  obtain ⟨hn3, hr3⟩ := and_e hr2
  obtain ⟨hn4, hr4⟩ := and_e hr3
  obtain ⟨hn5, hr5⟩ := and_e hr4
  obtain ⟨hn6, hr6⟩ := and_e hr5
  obtain ⟨hn7, hr7⟩ := and_e hr6
  obtain ⟨hn8, hr8⟩ := and_e hr7
  obtain ⟨hn9, hr9⟩ := and_e hr8
  obtain ⟨hn10, hr10⟩ := and_e hr9
  obtain ⟨hn11, hr11⟩ := and_e hr10
  obtain ⟨hn12, hr12⟩ := and_e hr11
  have hn13 := hr12
  obtain ⟨a2, ev2⟩ := exa_v hn0
  have S2 : Sta s s.heap "com/example/umbral/umbral/acl/Nfs4Acl$Type" "DENY" "Lcom/example/umbral/umbral/acl/Nfs4Acl$Type;" (.ref a2) := Sta.start ev2 (Or.inr ⟨(hw _ (List.mem_of_getElem? (i := 2) rfl)), (hw _ (List.mem_of_getElem? (i := 3) rfl))⟩)
  obtain ⟨al, evA⟩ := arr_v hn1
  obtain ⟨cl, Ar⟩ := Arr.start evA hn1
  have hat' : s.arrayAt? al = some cl := Arr.fin (Vm.Alike.refl _) Ar
  have SA : Sta s s.heap "com/example/umbral/umbral/acl/Nfs4Acl$Type" "ALL" "[Lcom/example/umbral/umbral/acl/Nfs4Acl$Type;" (.ref al) := Sta.start evA (Or.inr ⟨(hw _ (List.mem_of_getElem? (i := 2) rfl)), (hw _ (List.mem_of_getElem? (i := 8) rfl))⟩)
  obtain ⟨hsz, hle⟩ := own_len evA hat' hn2
  obtain ⟨a1, ev1⟩ := exa_v hn3
  have S1 : Sta s s.heap "com/example/umbral/umbral/acl/Nfs4Acl$Type" "ALLOW" "Lcom/example/umbral/umbral/acl/Nfs4Acl$Type;" (.ref a1) := Sta.start ev1 (Or.inr ⟨(hw _ (List.mem_of_getElem? (i := 2) rfl)), (hw _ (List.mem_of_getElem? (i := 9) rfl))⟩)
  obtain ⟨a3, ev3⟩ := exa_v hn8
  have S3 : Sta s s.heap "com/example/umbral/umbral/acl/Nfs4Acl$Type" "AUDIT" "Lcom/example/umbral/umbral/acl/Nfs4Acl$Type;" (.ref a3) := Sta.start ev3 (Or.inr ⟨(hw _ (List.mem_of_getElem? (i := 2) rfl)), (hw _ (List.mem_of_getElem? (i := 14) rfl))⟩)
  obtain ⟨a4, ev4⟩ := exa_v hn11
  have S4 : Sta s s.heap "com/example/umbral/umbral/acl/Nfs4Acl$Type" "ALARM" "Lcom/example/umbral/umbral/acl/Nfs4Acl$Type;" (.ref a4) := Sta.start ev4 (Or.inr ⟨(hw _ (List.mem_of_getElem? (i := 2) rfl)), (hw _ (List.mem_of_getElem? (i := 15) rfl))⟩)
  have F1 := own_fint ev1 (Term.int_eval _) hn5
  have F2 := own_fint ev2 (Term.int_eval _) hn7
  have F3 := own_fint ev3 (Term.int_eval _) hn10
  have F4 := own_fint ev4 (Term.int_eval _) hn13
  have L0 : cl.slots[0]? = some (.ref a1) := own_elr evA hat' ev1 (j := 0) (by decide) hn4
  have L1 : cl.slots[1]? = some (.ref a2) := own_elr evA hat' ev2 (j := 1) (by decide) hn6
  have L2 : cl.slots[2]? = some (.ref a3) := own_elr evA hat' ev3 (j := 2) (by decide) hn9
  have L3 : cl.slots[3]? = some (.ref a4) := own_elr evA hat' ev4 (j := 3) (by decide) hn12
  have VA : Arv s s.heap al cl.cls (.object "com/example/umbral/umbral/acl/Nfs4Acl$Type") (4 : Int32) [(.ref a1), (.ref a2), (.ref a3), (.ref a4)] .null := Arv.start hfit Ar hsz hle (by decide) rfl ⟨L0, L1, L2, L3, trivial⟩
  obtain ⟨n, o, q1, q2, q3, _, L, rfl, ⟨rfl, N⟩, hq⟩ := own_law l s _ hw x0 sel a1 a2 a3 a4 al cl.cls s.heap s.heap.size (Nat.le_refl _) (Old.start s) SA VA F1 F2 F3 F4 S1 S2 S3 S4 p e ha hc hk s m _ below hf ((Spec.applies_iff_loose hf).mp happ).1 ⟨rfl, State.Warmed39.refl s, rfl⟩ trivial
  refine ⟨n, _, q1, q2, q3, hpost _ _ _ _ _ _ ⟨Cond.after_iff.mpr rfl, Cond.after_iff.mpr (eq_i res_at (Term.int_eval (1)) rfl), trivial⟩ ⟨hq.1, hq.2.1, (hq.2.2.sift fun y hy => Or.inr (N y hy)).mono (by decide) (by decide)⟩⟩
theorem main_1_1 : Claimed_1_1 := own_comes fun _ _ _ _ _ _ h hF => ⟨h.1, hF⟩
theorem main_1_2 : Claimed_1_2 := own_comes fun _ _ _ _ _ _ h hF => ⟨h.2.1, hF⟩
end Jvm.Pilot.@@N@@
namespace Jvm.Pilot.@@N@@
open Jvm Jvm.ClassFile Sem Op Lib Jvm.Free Jvm.Stand Jvm.Pilot.@@N@@.Jvm.D
/-! MADE BY PROGRAM (witnessworld.py) out of the Statement's table words and the real class files: 15 classes; the members and pool entries that the words name. The judged class is class 1, her method 1. -/
namespace start1
open Jvm.ClassFile
def u (s : String) : CpInfo := .utf8 (stringToUtf16 s)
/-- a pool by its gaps: so many unusable entries, then the entry; so many at the end -/
def gap : Nat → List CpInfo → List CpInfo
  | 0, r => r
  | n + 1, r => .unusable :: gap n r
def poolList (es : List (Nat × CpInfo)) (last : Nat) : List CpInfo := es.foldr (fun e r => gap e.1 (e.2 :: r)) (gap last [])
def pool (es : List (Nat × CpInfo)) (last : Nat) : Array CpInfo := ⟨poolList es last⟩
def fileOf (pool : Array CpInfo) (this : Nat) (attrs : Array Attribute := #[]) (ms : Array MethodInfo := #[]) (fl : Nat := 33) (sup : Nat := 0) (ifs : Array Nat := #[]) (fds : Array FieldInfo := #[]) : ClassFile where
  minorVersion := 0
  majorVersion := 65
  constantPool := pool
  accessFlags := fl
  thisClass := this
  superClass := sup
  interfaces := ifs
  fields := fds
  methods := ms
  attributes := attrs
def plain (name : String) (sup : Option ClassId) : Class where
  name := name
  kind := .ordinary
  loader := none
  accessFlags := 33
  super := sup
  interfaces := #[]
  cf := none
  fields := #[]
  methods := #[]
  instanceTypes := #[]
  staticTypes := #[]
  resolved := #[]
  callSites := []
  init := .initialized
  statics := none
  mirror := none

def pool0 : Array CpInfo := pool [(5, u "<init>"), (0, u "()V"), (1, .class_ 10), (1, u "java/lang/Object")] 113

def k0m0 : Method := { name := "<init>", desc := "()V", sig := { parameters := [], returnType := none }, accessFlags := 1, code := none }
/-- java/lang/Object -/
def k0 : Class := { plain "java/lang/Object" none with
  accessFlags := 33
  interfaces := #[]
  cf := some (fileOf pool0 8 #[] #[{ accessFlags := 1, nameIndex := 5, descriptorIndex := 6, attributes := #[] }] 33 0 #[] #[])
  fields := #[]
  methods := #[k0m0]
  instanceTypes := #[]
  staticTypes := #[]
  resolved := Array.replicate 124 none
  statics := none }

def pool1 : Array CpInfo := pool [(2, .class_ 4), (1, u "java/lang/Object"), (0, u "<init>"), (0, u "()V"), (0, .integer 65535), (0, .fieldref 9 10), (0, .class_ 11), (0, .nameAndType 12 13), (0, u "com/example/umbral/umbral/acl/Nfs4Acl$Type"), (0, u "ALLOW"), (0, u "Lcom/example/umbral/umbral/acl/Nfs4Acl$Type;"), (0, .fieldref 9 15), (0, .nameAndType 16 13), (0, u "DENY"), (0, .fieldref 9 18), (0, .nameAndType 19 13), (0, u "AUDIT"), (0, .fieldref 9 21), (0, .nameAndType 22 13), (0, u "ALARM"), (0, .methodref 9 24), (0, .nameAndType 25 26), (0, u "of"), (0, u "(C)Lcom/example/umbral/umbral/acl/Nfs4Acl$Type;"), (0, .class_ 28), (0, u "com/example/umbral/umbral/acl/TypeOfPinLaw"), (2, u "law"), (0, u "(II)Z")] 7

def k1m0 : Method := { name := "<init>", desc := "()V", sig := { parameters := [], returnType := none }, accessFlags := 2, code := none }
def k1c1 : Code := { maxStack := 4, maxLocals := 4, code := code, exceptionTable := #[], attributes := #[] }
def k1m1 : Method := { name := "law", desc := "(II)Z", sig := { parameters := [.int, .int], returnType := some .boolean }, accessFlags := 9, code := some k1c1 }
/-- com/example/umbral/umbral/acl/TypeOfPinLaw -/
def k1 : Class := { plain "com/example/umbral/umbral/acl/TypeOfPinLaw" (some 0) with
  accessFlags := 49
  interfaces := #[]
  cf := some (fileOf pool1 27 #[] #[{ accessFlags := 2, nameIndex := 5, descriptorIndex := 6, attributes := #[] }, { accessFlags := 9, nameIndex := 31, descriptorIndex := 32, attributes := #[] }] 49 2 #[] #[])
  fields := #[]
  methods := #[k1m0, k1m1]
  instanceTypes := #[]
  staticTypes := #[]
  resolved := Array.replicate 40 none
  statics := none }

def pool2 : Array CpInfo := pool [(1, .class_ 2), (0, u "java/lang/constant/Constable"), (0, .class_ 4), (0, u "java/lang/Object")] 6

/-- java/lang/constant/Constable -/
def k2 : Class := { plain "java/lang/constant/Constable" (some 0) with
  accessFlags := 1537
  interfaces := #[]
  cf := some (fileOf pool2 1 #[] #[] 1537 3 #[] #[])
  fields := #[]
  methods := #[]
  instanceTypes := #[]
  staticTypes := #[]
  resolved := Array.replicate 11 none
  statics := none }

def pool3 : Array CpInfo := pool [(1, .class_ 2), (0, u "java/lang/Comparable"), (0, .class_ 4), (0, u "java/lang/Object")] 7

/-- java/lang/Comparable -/
def k3 : Class := { plain "java/lang/Comparable" (some 0) with
  accessFlags := 1537
  interfaces := #[]
  cf := some (fileOf pool3 1 #[] #[] 1537 3 #[] #[])
  fields := #[]
  methods := #[]
  instanceTypes := #[]
  staticTypes := #[]
  resolved := Array.replicate 12 none
  statics := none }

def pool4 : Array CpInfo := pool [(1, .class_ 2), (0, u "java/io/Serializable"), (0, .class_ 4), (0, u "java/lang/Object")] 2

/-- java/io/Serializable -/
def k4 : Class := { plain "java/io/Serializable" (some 0) with
  accessFlags := 1537
  interfaces := #[]
  cf := some (fileOf pool4 1 #[] #[] 1537 3 #[] #[])
  fields := #[]
  methods := #[]
  instanceTypes := #[]
  staticTypes := #[]
  resolved := Array.replicate 7 none
  statics := none }

def pool5 : Array CpInfo := pool [(2, .class_ 4), (1, u "java/lang/Enum"), (0, u "name"), (0, u "Ljava/lang/String;"), (2, u "ordinal"), (0, u "I"), (1, .class_ 14), (1, u "java/lang/Object"), (4, u "hash"), (86, .class_ 108), (1, u "java/lang/Enum$EnumDesc"), (2, .class_ 112), (0, u "java/lang/constant/Constable"), (0, .class_ 114), (0, u "java/lang/Comparable"), (0, .class_ 116), (0, u "java/io/Serializable")] 87

/-- java/lang/Enum -/
def k5 : Class := { plain "java/lang/Enum" (some 0) with
  accessFlags := 1057
  interfaces := #[2, 3, 4]
  cf := some (fileOf pool5 2 #[.nestMembers #[106]] #[] 1057 12 #[111, 113, 115] #[{ accessFlags := 18, nameIndex := 5, descriptorIndex := 6, attributes := #[] }, { accessFlags := 18, nameIndex := 9, descriptorIndex := 10, attributes := #[] }, { accessFlags := 2, nameIndex := 19, descriptorIndex := 10, attributes := #[] }])
  fields := #[{ name := "name", type := (.object "java/lang/String"), accessFlags := 18, slot := 0, constantValue := 0 }, { name := "ordinal", type := .int, accessFlags := 18, slot := 1, constantValue := 0 }, { name := "hash", type := .int, accessFlags := 2, slot := 2, constantValue := 0 }]
  methods := #[]
  instanceTypes := #[(.object "java/lang/String"), .int, .int]
  staticTypes := #[]
  resolved := Array.replicate 204 none
  statics := none }

def pool6 : Array CpInfo := pool [(1, .class_ 2), (0, u "com/example/umbral/umbral/acl/Nfs4Acl$Type"), (2, u "ALLOW"), (0, u "Lcom/example/umbral/umbral/acl/Nfs4Acl$Type;"), (2, u "DENY"), (2, u "AUDIT"), (2, u "ALARM"), (2, u "$VALUES"), (0, u "[Lcom/example/umbral/umbral/acl/Nfs4Acl$Type;"), (6, .class_ 28), (1, u "java/lang/Enum"), (6, .fieldref 1 36), (0, .nameAndType 37 38), (0, u "letter"), (0, u "C"), (0, .fieldref 1 40), (0, .nameAndType 41 19), (0, u "ALL"), (20, u "of"), (0, u "(C)Lcom/example/umbral/umbral/acl/Nfs4Acl$Type;"), (7, .class_ 72), (0, u "com/example/umbral/umbral/acl/Nfs4Acl")] 2

def k6c0 : Code := { maxStack := 2, maxLocals := 6, code := prog_23_method_4_code, exceptionTable := #[], attributes := #[] }
def k6m0 : Method := { name := "of", desc := "(C)Lcom/example/umbral/umbral/acl/Nfs4Acl$Type;", sig := { parameters := [.char], returnType := some (.object "com/example/umbral/umbral/acl/Nfs4Acl$Type") }, accessFlags := 8, code := some k6c0 }
/-- com/example/umbral/umbral/acl/Nfs4Acl$Type -/
def k6 : Class := { plain "com/example/umbral/umbral/acl/Nfs4Acl$Type" (some 5) with
  accessFlags := 16433
  interfaces := #[]
  cf := some (fileOf pool6 1 #[.nestHost 71] #[{ accessFlags := 8, nameIndex := 62, descriptorIndex := 63, attributes := #[] }] 16433 26 #[] #[{ accessFlags := 16409, nameIndex := 5, descriptorIndex := 6, attributes := #[] }, { accessFlags := 16409, nameIndex := 9, descriptorIndex := 6, attributes := #[] }, { accessFlags := 16409, nameIndex := 12, descriptorIndex := 6, attributes := #[] }, { accessFlags := 16409, nameIndex := 15, descriptorIndex := 6, attributes := #[] }, { accessFlags := 26, nameIndex := 41, descriptorIndex := 19, attributes := #[] }, { accessFlags := 18, nameIndex := 37, descriptorIndex := 38, attributes := #[] }, { accessFlags := 4122, nameIndex := 18, descriptorIndex := 19, attributes := #[] }])
  fields := #[{ name := "ALLOW", type := (.object "com/example/umbral/umbral/acl/Nfs4Acl$Type"), accessFlags := 16409, slot := 0, constantValue := 0 }, { name := "DENY", type := (.object "com/example/umbral/umbral/acl/Nfs4Acl$Type"), accessFlags := 16409, slot := 1, constantValue := 0 }, { name := "AUDIT", type := (.object "com/example/umbral/umbral/acl/Nfs4Acl$Type"), accessFlags := 16409, slot := 2, constantValue := 0 }, { name := "ALARM", type := (.object "com/example/umbral/umbral/acl/Nfs4Acl$Type"), accessFlags := 16409, slot := 3, constantValue := 0 }, { name := "ALL", type := (.array (.object "com/example/umbral/umbral/acl/Nfs4Acl$Type")), accessFlags := 26, slot := 4, constantValue := 0 }, { name := "letter", type := .char, accessFlags := 18, slot := 3, constantValue := 0 }, { name := "$VALUES", type := (.array (.object "com/example/umbral/umbral/acl/Nfs4Acl$Type")), accessFlags := 4122, slot := 5, constantValue := 0 }]
  methods := #[k6m0]
  instanceTypes := #[(.object "java/lang/String"), .int, .int, .char]
  staticTypes := #[(.object "com/example/umbral/umbral/acl/Nfs4Acl$Type"), (.object "com/example/umbral/umbral/acl/Nfs4Acl$Type"), (.object "com/example/umbral/umbral/acl/Nfs4Acl$Type"), (.object "com/example/umbral/umbral/acl/Nfs4Acl$Type"), (.array (.object "com/example/umbral/umbral/acl/Nfs4Acl$Type")), (.array (.object "com/example/umbral/umbral/acl/Nfs4Acl$Type"))]
  resolved := Array.replicate 75 none
  statics := some 0 }

def pool7 : Array CpInfo := pool [(1, u "java/lang/Cloneable"), (0, .class_ 1), (0, u "java/lang/Object"), (0, .class_ 3)] 3

/-- java/lang/Cloneable -/
def k7 : Class := { plain "java/lang/Cloneable" (some 0) with
  accessFlags := 1537
  interfaces := #[]
  cf := some (fileOf pool7 2 #[] #[] 1537 4 #[] #[])
  fields := #[]
  methods := #[]
  instanceTypes := #[]
  staticTypes := #[]
  resolved := Array.replicate 8 none
  statics := none }

/-- the primitive byte -/
def k8 : Class := { plain "byte" none with kind := .primitive 'B', accessFlags := 0x411 }
/-- [B -/
def k9 : Class := { plain "[B" (some 0) with kind := .array 8 .byte, interfaces := #[7, 4], accessFlags := 1041 }

/-- the primitive char -/
def k10 : Class := { plain "char" none with kind := .primitive 'C', accessFlags := 0x411 }
/-- [C -/
def k11 : Class := { plain "[C" (some 0) with kind := .array 10 .char, interfaces := #[7, 4], accessFlags := 1041 }

/-- the primitive int -/
def k12 : Class := { plain "int" none with kind := .primitive 'I', accessFlags := 0x411 }
/-- [I -/
def k13 : Class := { plain "[I" (some 0) with kind := .array 12 .int, interfaces := #[7, 4], accessFlags := 1041 }

/-- [Lcom/example/umbral/umbral/acl/Nfs4Acl$Type; -/
def k14 : Class := { plain "[Lcom/example/umbral/umbral/acl/Nfs4Acl$Type;" (some 0) with kind := .array 6 (.object "com/example/umbral/umbral/acl/Nfs4Acl$Type"), interfaces := #[7, 4], accessFlags := 1041 }

def heap : Heap := #[{ cls := 6, slots := #[.ref 2, .ref 3, .ref 4, .ref 5, .ref 1, .null], vm := .statics 6 },
  { cls := 14, slots := #[.ref 2, .ref 3, .ref 4, .ref 5], vm := .none },
  { cls := 6, slots := #[.null, .int 0, .int 0, .int 65], vm := .none },
  { cls := 6, slots := #[.null, .int 1, .int 0, .int 68], vm := .none },
  { cls := 6, slots := #[.null, .int 2, .int 0, .int 85], vm := .none },
  { cls := 6, slots := #[.null, .int 3, .int 0, .int 76], vm := .none }]
def classes : Array Class := #[k0, k1, k2, k3, k4, k5, k6, k7, k8, k9, k10, k11, k12, k13, k14]
def interned : List (Array UInt16 × Addr) := []
def slotsUsed : Nat := 26
def theMethod : MethodId := ⟨1, 1⟩
def args0 : Array Value := #[.int 5, .int 7]
def aboutOver (below : List Frame) : State where
  vm := { classes := classes, interned := interned.toArray }
  heap := heap
  slotsUsed := slotsUsed
  threads := #[{ frames := .invoking theMethod args0 :: below }]
def below0 : List Frame := [.native { method := ⟨0, 0⟩, args := #[] }]
def about1 : State := aboutOver below0
def p0 : Program := .bare "" "" ""
def e0 : Env := launch0.env 0 0 0
theorem w_frames : about1.frames = Frame.invoking theMethod args0 :: below0 := rfl
set_option maxRecDepth 65536 in
theorem w_args : argsFit about1.vm theMethod args0 = true := by decide +kernel
set_option maxRecDepth 65536 in
theorem w_heap : heapFits about1 = true := by decide +kernel
set_option maxRecDepth 65536 in
theorem w_runnable : about1.curStatus? = some .runnable := by decide +kernel
set_option maxRecDepth 65536 in
theorem w_alone : about1.alone = true := by decide +kernel
set_option maxRecDepth 65536 in
theorem w_named : about1.methodNamed? x = some theMethod := by decide +kernel
set_option maxRecDepth 65536 in
theorem w_hears : about1.hears theMethod below0 = true := by decide +kernel
set_option maxRecDepth 65536 in
theorem w_ripe : about1.ripe theMethod args0 below0 = true := by decide +kernel
theorem w_running : about1.status = .running := rfl
set_option maxRecDepth 65536 in
theorem w_room : about1.hasRoom e0.platform room_1 = true :=
  launch0.hasRoom_least _ room_1 (by decide +kernel) (by decide +kernel) (by decide +kernel) (by decide +kernel) (by decide +kernel) (by decide +kernel)
theorem allAtoms_all (ts : List Jvm.Cond) (a : Array Jvm.Value) (st : Jvm.State) : (allAtoms ts).before a st = ts.all (fun c => c.before a st) := by
  induction ts with
  | nil => rfl
  | cons c t ih =>
    show (Jvm.Cond.and c (allAtoms t)).before a st = _
    rw [Jvm.Cond.before_and, ih, List.all_cons]
def words1 : List Jvm.Cond := Jvm.Cond.code x code maxLocals ret :: tables_1
/-- a 'code' word, met by the world's own term for the bytes: nothing is compared byte by byte -/
theorem code_word {y : MethodName} {bytes : ByteArray} {mx : Nat} {rt : Option FieldType} {a : Array Value} {s : State} {m : MethodId} {meth : Method} {c : Code} (h1 : s.methodNamed? y = some m) (h2 : s.vm.method? m = some meth) (h3 : meth.code = some c) (h4 : c.code = bytes)
    (h5 : (c.maxLocals == mx && c.exceptionTable.isEmpty && decide (c.maxStack ≤ mostOperands) && decide (meth.sig.returnType = rt) && !meth.locks && decide (parseMethodDescriptor y.desc = some meth.sig)) = true) : (Jvm.Cond.code y bytes mx rt).before a s = true := by
  simp only [Bool.and_eq_true, beq_iff_eq, Bool.not_eq_true', decide_eq_true_eq] at h5
  obtain ⟨⟨⟨⟨⟨g1, g2⟩, g3⟩, g4⟩, g5⟩, g6⟩ := h5
  simp [Cond.before, Cond.holds, Cond.value, h1, h2, h3, h4, g1, g2, g3, g4, g5, g6]
def isCode : Jvm.Cond → Bool
  | .code _ _ _ _ => true
  | _ => false
theorem all_split {L : List Jvm.Cond} {P : Jvm.Cond → Bool} (h1 : L.all (fun c => isCode c || P c) = true) (h2 : ∀ c ∈ L.filter isCode, P c = true) : L.all P = true := by
  refine List.all_eq_true.mpr fun c hc => ?_
  have h := List.all_eq_true.mp h1 c hc
  rcases Bool.eq_false_or_eq_true (isCode c) with hi | hi
  · exact h2 c (List.mem_filter.mpr ⟨hc, hi⟩)
  · simpa [hi] using h
set_option maxRecDepth 65536 in
theorem w_c0 : (Jvm.Cond.code x code maxLocals ret).before args0 about1 = true := code_word (m := ⟨1, 1⟩) (meth := k1m1) (c := k1c1) (by decide +kernel) rfl rfl rfl (by decide +kernel)
set_option maxRecDepth 65536 in
theorem w_c1 : (Jvm.Cond.code ({ cls := "com/example/umbral/umbral/acl/Nfs4Acl$Type", name := "of", desc := "(C)Lcom/example/umbral/umbral/acl/Nfs4Acl$Type;" } : Jvm.MethodName) prog_23_method_4_code (6 : Nat) (Option.some (Jvm.ClassFile.FieldType.object "com/example/umbral/umbral/acl/Nfs4Acl$Type"))).before args0 about1 = true := code_word (m := ⟨6, 0⟩) (meth := k6m0) (c := k6c0) (by decide +kernel) rfl rfl rfl (by decide +kernel)
def codes1 : List Jvm.Cond := [Jvm.Cond.code x code maxLocals ret, Jvm.Cond.code ({ cls := "com/example/umbral/umbral/acl/Nfs4Acl$Type", name := "of", desc := "(C)Lcom/example/umbral/umbral/acl/Nfs4Acl$Type;" } : Jvm.MethodName) prog_23_method_4_code (6 : Nat) (Option.some (Jvm.ClassFile.FieldType.object "com/example/umbral/umbral/acl/Nfs4Acl$Type"))]
set_option maxRecDepth 65536 in
theorem codes_eq : words1.filter isCode = codes1 := rfl
theorem w_codes : ∀ c ∈ words1.filter isCode, c.before args0 about1 = true := by
  rw [codes_eq]
  intro c hc
  simp only [codes1, List.mem_cons, List.not_mem_nil, or_false] at hc
  rcases hc with rfl | rfl
  · exact w_c0
  · exact w_c1
set_option maxRecDepth 65536 in
theorem w_t1 : words1.all (fun c => isCode c || c.before args0 about1) = true := by decide +kernel
theorem w_tables : (allAtoms (Jvm.Cond.code x code maxLocals ret :: tables_1)).before args0 about1 = true := by
  rw [allAtoms_all]
  show words1.all (fun c => c.before args0 about1) = true
  refine all_split ?_ w_codes
  rw [w_t1]
set_option maxRecDepth 65536 in
theorem w_case : (Jvm.Cond.and given_1 narrow_1).before args0 about1 = true := by decide +kernel
theorem w_applies : (headSpec (Jvm.Cond.code x code maxLocals ret :: tables_1) room_1).applies x e0.platform about1 = true :=
  (Spec.applies_iff w_frames).mpr ⟨w_running, w_runnable, w_alone, w_named, w_hears, w_ripe, w_room, w_tables⟩
theorem atStart : AtStart classFile x code maxLocals ret World_1 tables_1 room_1 Calls_1 rest_1 Pre_1 launch0 p0 e0 about1 theMethod args0 below0 :=
  ⟨lists_1, trivial, launch0.admits_env _ _ _, launch0.least_env, fairChoices_fair.cas, fairChoices_fair.clock, w_frames, w_args, w_heap, w_applies, trivial, trivial, w_case⟩
end start1
theorem witness_1 : WitnessClaimed_1 := ⟨start1.p0, start1.e0, start1.about1, start1.theMethod, start1.args0, start1.below0, start1.atStart⟩
end Jvm.Pilot.@@N@@
