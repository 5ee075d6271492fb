import JvmDerived
import JvmDerived.Pilot.@@N@@Statement
import JvmDerived.Pilot.@@N@@Code
set_option linter.unusedVariables false
set_option linter.unusedSimpArgs false

namespace Jvm.Pilot.@@N@@
open Jvm Jvm.ClassFile Sem Op Lib Jvm.Free Jvm.Stand Jvm.LawKit Jvm.RoadKit Bundle Jvm.Pilot.@@N@@.Jvm.D
section OwnLayer
variable {p : Program} {l : Launch} {e : Env} {R : Room} {s : State} {m : MethodId} {args : Array Value} {below : List Frame} {meth : Method} {c : Code} {T : State} {locs : List Loc} {cells slots : Nat} {Z : State} {a0 : Array Value} {h : Heap} {K : State → Prop}
/-- the run from the frame g at T comes to a state of which K holds -/
def own_Go (p : Program) (e : Env) (below : List Frame) (K : State → Prop) (T : State) (g : JFrame) : Prop := ∃ t, Steps p.tables e below (T.setTop g) t ∧ K t
theorem own_go {T' : State} {g g' : JFrame} (st : ∀ t, Steps p.tables e below (T'.setTop g') t → Steps p.tables e below (T.setTop g) t) (k : own_Go p e below K T' g') : own_Go p e below K T g := by
  obtain ⟨t, h1, h2⟩ := k
  exact ⟨t, st t h1, h2⟩
/-- the method has returned, Q says what, and the frame is kept -/
def own_End (s : State) (below : List Frame) (Q : Option Value → Heap → List Loc → Prop) (C N : Nat) (t : State) : Prop :=
  ∃ o, t.status = .running ∧ Ended t below o ∧ ∃ v L, o = .returned v ∧ Q v t.heap L ∧ FrameEnd s o t L C N
/-- a contract, as the callers of this family ask it -/
abbrev own_Met (l : Launch) (Z : State) (y : MethodName) (bytes : ByteArray) (maxL : Nat) (ret : Option FieldType) (ws : List Jvm.Cond) (rm : Room) (as' : Array Value) (h : Heap) (Q : Option Value → Heap → List Loc → Prop) : Prop :=
  MetFree l y (head1 (Jvm.Cond.code y bytes maxL ret :: ws) rm) (fun a U => a = as' ∧ Z.Warmed39 U.vm ∧ U.heap = h) (fun _ _ _ _ _ => True) (fun _ U o U' => ∃ v L, o = .returned v ∧ Q v U'.heap L ∧ FrameEnd U o U' L rm.cells rm.slots)
theorem own_body {y : MethodName} {bytes : ByteArray} {maxL : Nat} {ret : Option FieldType} {ws : List Jvm.Cond} {rm : Room} {as' : Array Value} {h0 : Heap} {Q : Option Value → Heap → List Loc → Prop} {g : MethodId → JFrame}
    (hp : plainFor y = true) (hef : ∀ m, entryFrame m as' maxL = g m)
    (H : ∀ (p : Program) (e : Env) (s : State) (m : MethodId) (A : Array Value) (below : List Frame) (meth : Method) (c : Code) (T : State) (K : State → Prop), Stand p l e rm s m A below meth c T [] 0 0 → p.tables.exec = Jvm.exec → c.code = bytes → c.maxLocals = maxL → s.vm.findClass y.cls = some m.cls → meth.name = y.name → meth.sig.returnType = ret → meth.locks = false → Z.Warmed39 s.vm → T.heap = h0 → (∀ t, own_End s below Q rm.cells rm.slots t → K t) → own_Go p e below K T (g m)) :
    own_Met l Z y bytes maxL ret ws rm as' h0 Q := by
  refine MetFree.of_bodySF hp hisR ?_
  intro p e s m args below meth c s₁ Bd hml0 hP hK
  obtain ⟨rfl, hZ, hh⟩ := hP
  have e0 : s₁.heap = h0 := by rw [← hh, Bd.state]; rfl
  obtain ⟨t, h1, o, h2, h3, h4⟩ := H p e s m args below meth c s₁ _ (Stand.of_body Bd) Bd.exec Bd.bytes hml0 (findClass_of_methodNamed Bd.named) (name_of_methodNamed Bd.named Bd.method).1 Bd.returns Bd.notSynchronized hZ e0 (fun _ q => q)
  exact ⟨t, o, castTop (hef m) h1, h2, h3, h4⟩
theorem own_ret {Q : Option Value → Heap → List Loc → Prop} {C N : Nat} (X : Stand p l e R s m args below meth c T locs cells slots) (hx : p.tables.exec = Jvm.exec) (hlk : meth.locks = false) (hK : ∀ t, own_End s below Q C N t → K t) {pc : Nat} {Ls : Array Slot} {w : Value} {t : FieldType} {i : Instr} {rest : List Value} (hret : meth.sig.returnType = some t) (hn : narrow t w = w)
    (hi : (i = .ireturn ∧ (t = .int ∨ t = .boolean ∨ t = .byte ∨ t = .char ∨ t = .short) ∧ ∃ z, w = .int z) ∨ (i = .lreturn ∧ t = .long ∧ ∃ z, w = .long z) ∨ (i = .dreturn ∧ t = .double ∧ ∃ z, w = .double z) ∨ (i = .freturn ∧ t = .float ∧ ∃ z, w = .float z) ∨ (i = .areturn ∧ t.isReference = true ∧ w.isRef = true))
    (hd : decode c.code pc = .ok (i, 1)) (hC : cells ≤ C) (hN : slots ≤ N) (hQ : Q (some w) T.heap locs) : own_Go p e below K T (mkF m pc Ls (w :: rest)) := by
  obtain ⟨fs, hr, hrun, hended, hW, hsame⟩ := X.leave (v := some w) (fun h => by rw [hret] at h; cases h) hlk
  exact ⟨_, retOut X hx hret hn hi hd hr, hK _ ⟨_, hrun, hended, _, _, rfl, hQ, ⟨_, rfl⟩, hW, hsame.mono hC hN⟩⟩
theorem own_retI {Q : Option Value → Heap → List Loc → Prop} {C N : Nat} (X : Stand p l e R s m args below meth c T locs cells slots) (hx : p.tables.exec = Jvm.exec) (hlk : meth.locks = false) (hK : ∀ t, own_End s below Q C N t → K t) {pc : Nat} {Ls : Array Slot} {z : Int32} {rest : List Value} (hret : meth.sig.returnType = some .int)
    (hd : decode c.code pc = .ok (.ireturn, 1)) (hC : cells ≤ C) (hN : slots ≤ N) (hQ : Q (some (.int z)) T.heap locs) : own_Go p e below K T (mkF m pc Ls (.int z :: rest)) :=
  own_ret X hx hlk hK hret rfl (Or.inl ⟨rfl, Or.inl rfl, z, rfl⟩) hd hC hN hQ
theorem own_retZ {Q : Option Value → Heap → List Loc → Prop} {C N : Nat} (X : Stand p l e R s m args below meth c T locs cells slots) (hx : p.tables.exec = Jvm.exec) (hlk : meth.locks = false) (hK : ∀ t, own_End s below Q C N t → K t) {pc : Nat} {Ls : Array Slot} {z : Int32} {rest : List Value} (hret : meth.sig.returnType = some .boolean) (hz : z &&& 1 = z)
    (hd : decode c.code pc = .ok (.ireturn, 1)) (hC : cells ≤ C) (hN : slots ≤ N) (hQ : Q (some (.int z)) T.heap locs) : own_Go p e below K T (mkF m pc Ls (.int z :: rest)) :=
  own_ret X hx hlk hK hret (by show Value.int (z &&& 1) = _; rw [hz]) (Or.inl ⟨rfl, Or.inr (Or.inl rfl), z, rfl⟩) hd hC hN hQ
theorem own_retR {Q : Option Value → Heap → List Loc → Prop} {C N : Nat} (X : Stand p l e R s m args below meth c T locs cells slots) (hx : p.tables.exec = Jvm.exec) (hlk : meth.locks = false) (hK : ∀ t, own_End s below Q C N t → K t) {pc : Nat} {Ls : Array Slot} {w : Value} {t : FieldType} {rest : List Value} (hret : meth.sig.returnType = some t) (ht : t.isReference = true) (hw : w.isRef = true)
    (hd : decode c.code pc = .ok (.areturn, 1)) (hC : cells ≤ C) (hN : slots ≤ N) (hQ : Q (some w) T.heap locs) : own_Go p e below K T (mkF m pc Ls (w :: rest)) :=
  own_ret X hx hlk hK hret (by cases t <;> first | (cases ht; done) | rfl) (Or.inr (Or.inr (Or.inr (Or.inr ⟨rfl, ht, hw⟩)))) hd hC hN hQ
theorem own_retV {Q : Option Value → Heap → List Loc → Prop} {C N : Nat} (X : Stand p l e R s m args below meth c T locs cells slots) (hx : p.tables.exec = Jvm.exec) (hlk : meth.locks = false) (hK : ∀ t, own_End s below Q C N t → K t) {pc : Nat} {Ls : Array Slot} (hret : meth.sig.returnType = none)
    (hd : decode c.code pc = .ok (.return_, 1)) (hC : cells ≤ C) (hN : slots ≤ N) (hQ : Q none T.heap locs) : own_Go p e below K T (mkF m pc Ls []) := by
  obtain ⟨fs, hr, hrun, hended, hW, hsame⟩ := X.leave (v := none) (fun _ => rfl) hlk
  exact ⟨_, X.returnOut hx hret hd hr, hK _ ⟨_, hrun, hended, _, _, rfl, hQ, ⟨_, rfl⟩, hW, hsame.mono hC hN⟩⟩
theorem own_callS (X : Stand p l e R s m args below meth c T locs cells slots) (hx : p.tables.exec = Jvm.exec) (hZ : Z.Warmed39 s.vm) {own : String} {index : Nat} {y : MethodName} {bytes : ByteArray} {maxL : Nat} {ret : Option FieldType}
    (hown : s.vm.findClass own = some m.cls) (wl : (Jvm.Cond.methodLink own index y).before a0 Z = true) (wt : (Jvm.Cond.static y).before a0 Z = true) (wz : (Jvm.Cond.initialized y.cls).before a0 Z = true) (wc : (Jvm.Cond.code y bytes maxL ret).before a0 Z = true)
    (hy : y.cls ≠ "java/lang/invoke/MethodHandle" ∧ y.cls ≠ "java/lang/invoke/VarHandle") (eT : T.heap = h) {rm : Room} {Q : Option Value → Heap → List Loc → Prop} {argsL rest : List Value} (hM : own_Met l Z y bytes maxL ret [] rm argsL.toArray h Q)
    {W : Nat} (hf : rm.frames + 1 ≤ R.frames) (hl : W + (maxL + 11) + rm.locals ≤ R.locals) (hc : cells + rm.cells ≤ R.cells) (hs : slots + rm.slots ≤ R.slots)
    {g : JFrame} (hg : g.method = m) (hsize : g.locals.size = c.maxLocals) (hlen : ∀ sig, parseMethodDescriptor y.desc = some sig → argsL.length = sig.parameters.length)
    (hstack : g.stack = argsL.reverse ++ rest) (hW : 2 * g.monitorRoom + (rest.map fun v => v.category).sum ≤ W) (hd : decode c.code g.pc = .ok (.invokestatic index, 3))
    (k : ∀ (v : Option Value) (T' : State) (L : List Loc), Stand p l e R s m args below meth c T' (locs ++ L) (cells + rm.cells) (slots + rm.slots) → Q v T'.heap L → own_Go p e below K T' { g with pc := g.pc + 3, stack := v.toList ++ rest }) : own_Go p e below K T g := by
  obtain ⟨v, vm₁, ⟨T', L', k', n'⟩, -, X', ⟨L, hQ, hl', hk', hn'⟩, st⟩ := Jvm.LawKit.callS X hx (y := y) hown (mvT hZ wl) (mvT hZ wt) (mvT hZ wz) (mvT hZ wc) hy (backOf (W := W) hM hZ wc wz hf hl) (g := g) hg hsize (argsL := argsL) (rest := rest) hlen hstack hW hd (fun _ _ => ⟨rfl, eT, hc, hs⟩)
  dsimp only [Pt.U, Pt.locs, Pt.cells, Pt.slots] at X' hl' hk' hn' st hQ
  subst hl' hk' hn'
  exact own_go st (k v T' L X' hQ)
theorem own_callI (X : Stand p l e R s m args below meth c T locs cells slots) (hx : p.tables.exec = Jvm.exec) (hZ : Z.Warmed39 s.vm) {own : String} {index : Nat} {y : MethodName} (hy1 : y.name = "<init>") {bytes : ByteArray} {maxL : Nat}
    (hown : s.vm.findClass own = some m.cls) (wl : (Jvm.Cond.methodLink own index y).before a0 Z = true) (wt : (Jvm.Cond.instanceMethod y).before a0 Z = true) (wz : (Jvm.Cond.initialized y.cls).before a0 Z = true) (wc : (Jvm.Cond.code y bytes maxL none).before a0 Z = true)
    (hy : y.cls ≠ "java/lang/invoke/MethodHandle" ∧ y.cls ≠ "java/lang/invoke/VarHandle") (eT : T.heap = h) {rm : Room} {Q : Option Value → Heap → List Loc → Prop} {a : Addr} {argsL rest : List Value} (hM : own_Met l Z y bytes maxL none [] rm (.ref a :: argsL).toArray h Q)
    {W : Nat} (hf : rm.frames + 1 ≤ R.frames) (hl : W + (maxL + 11) + rm.locals ≤ R.locals) (hc : cells + rm.cells ≤ R.cells) (hs : slots + rm.slots ≤ R.slots)
    {g : JFrame} (hg : g.method = m) (hsize : g.locals.size = c.maxLocals) (hlen : ∀ sig, parseMethodDescriptor y.desc = some sig → argsL.length = sig.parameters.length)
    (hstack : g.stack = argsL.reverse ++ .ref a :: rest) (hW : 2 * g.monitorRoom + (rest.map fun v => v.category).sum ≤ W) (hd : decode c.code g.pc = .ok (.invokespecial index, 3))
    (k : ∀ (v : Option Value) (T' : State) (L : List Loc), Stand p l e R s m args below meth c T' (locs ++ L) (cells + rm.cells) (slots + rm.slots) → Q v T'.heap L → own_Go p e below K T' { g with pc := g.pc + 3, stack := v.toList ++ rest }) : own_Go p e below K T g := by
  obtain ⟨v, vm₁, ⟨T', L', k', n'⟩, -, X', ⟨L, hQ, hl', hk', hn'⟩, st⟩ := X.specialBack hx (y := y) hy1 hown (mvT hZ wl) (mvT hZ wt) (mvT hZ wc) hy (backOf (W := W) hM hZ wc wz hf hl) (g := g) hg hsize (Steps.refl _) (a := a) (argsL := argsL) (rest := rest) hlen hstack hW hd (fun _ _ => ⟨rfl, eT, hc, hs⟩)
  dsimp only [Pt.U, Pt.locs, Pt.cells, Pt.slots] at X' hl' hk' hn' st hQ
  subst hl' hk' hn'
  exact own_go (fun _ q => st.trans q) (k v T' L X' hQ)
theorem own_callV (X : Stand p l e R s m args below meth c T locs cells slots) (hx : p.tables.exec = Jvm.exec) (hZ : Z.Warmed39 s.vm) {own C : String} {index : Nat} {y z : MethodName} {bytes : ByteArray} {maxL : Nat} {ret : Option FieldType}
    (hown : s.vm.findClass own = some m.cls) (wl : (Jvm.Cond.methodLink own index y).before a0 Z = true) (wd : (Jvm.Cond.declares y).before a0 Z = true) (hnf : NotFace s y) (wsel : (Jvm.Cond.selects C y z).before a0 Z = true) (wt : (Jvm.Cond.instanceMethod z).before a0 Z = true) (wz : (Jvm.Cond.initialized z.cls).before a0 Z = true) (wc : (Jvm.Cond.code z bytes maxL ret).before a0 Z = true)
    (hy : y.cls ≠ "java/lang/invoke/MethodHandle" ∧ y.cls ≠ "java/lang/invoke/VarHandle") (eT : T.heap = h) {rm : Room} {Q : Option Value → Heap → List Loc → Prop} {a : Addr} (E : Exa Z h a C) {argsL rest : List Value} (hM : own_Met l Z z bytes maxL ret [] rm (.ref a :: argsL).toArray h Q)
    {W : Nat} (hf : rm.frames + 1 ≤ R.frames) (hl : W + (maxL + 11) + rm.locals ≤ R.locals) (hc : cells + rm.cells ≤ R.cells) (hs : slots + rm.slots ≤ R.slots)
    {g : JFrame} (hg : g.method = m) (hsize : g.locals.size = c.maxLocals) (hlen : ∀ sig, parseMethodDescriptor y.desc = some sig → argsL.length = sig.parameters.length)
    (hstack : g.stack = argsL.reverse ++ .ref a :: rest) (hW : 2 * g.monitorRoom + (rest.map fun v => v.category).sum ≤ W) (hd : decode c.code g.pc = .ok (.invokevirtual index, 3))
    (k : ∀ (v : Option Value) (T' : State) (L : List Loc), Stand p l e R s m args below meth c T' (locs ++ L) (cells + rm.cells) (slots + rm.slots) → Q v T'.heap L → own_Go p e below K T' { g with pc := g.pc + 3, stack := v.toList ++ rest }) : own_Go p e below K T g := by
  obtain ⟨cq, kq, qa, qb, qc⟩ := isOf hZ eT E
  obtain ⟨v, vm₁, ⟨T', L', k', n'⟩, -, X', ⟨L, hQ, hl', hk', hn'⟩, st⟩ := X.virtualBack hx (y := y) (z := z) hown (mvT hZ wl) (mvT hZ wd) hnf (mvT hZ wsel) (mvT hZ wt) hy (backOf (W := W) hM hZ wc wz hf hl) qa qc (g := g) hg hsize (Steps.refl _) (argsL := argsL) (rest := rest) hlen hstack hW hd (fun _ _ => ⟨rfl, eT, hc, hs⟩)
  dsimp only [Pt.U, Pt.locs, Pt.cells, Pt.slots] at X' hl' hk' hn' st hQ
  subst hl' hk' hn'
  exact own_go (fun _ q => st.trans q) (k v T' L X' hQ)
theorem own_callF (X : Stand p l e R s m args below meth c T locs cells slots) (hx : p.tables.exec = Jvm.exec) (hZ : Z.Warmed39 s.vm) {own C : String} {index count : Nat} {xi z : MethodName} {bytes : ByteArray} {maxL : Nat} {ret : Option FieldType}
    (hown : s.vm.findClass own = some m.cls) (wl : (Jvm.Cond.methodLink own index xi).before a0 Z = true) (wd : (Jvm.Cond.declares xi).before a0 Z = true) (wf : (Jvm.Cond.interfaceMethod xi.cls xi.cls xi.name xi.desc).before args s = true) (wsel : (Jvm.Cond.selects C xi z).before a0 Z = true) (wt : (Jvm.Cond.instanceMethod z).before a0 Z = true)
    (wp : (Jvm.Cond.publicMethod z).before a0 Z = true) (wu : (Jvm.Cond.unhidden C xi.name xi.desc).before a0 Z = true) (wk : (Jvm.Cond.castable C xi.cls).before a0 Z = true) (wz : (Jvm.Cond.initialized z.cls).before a0 Z = true) (wc : (Jvm.Cond.code z bytes maxL ret).before a0 Z = true)
    (hy : xi.cls ≠ "java/lang/invoke/MethodHandle" ∧ xi.cls ≠ "java/lang/invoke/VarHandle") (eT : T.heap = h) {rm : Room} {Q : Option Value → Heap → List Loc → Prop} {a : Addr} (E : Exa Z h a C) {argsL rest : List Value} (hM : own_Met l Z z bytes maxL ret [] rm (.ref a :: argsL).toArray h Q)
    {W : Nat} (hf : rm.frames + 1 ≤ R.frames) (hl : W + (maxL + 11) + rm.locals ≤ R.locals) (hc : cells + rm.cells ≤ R.cells) (hs : slots + rm.slots ≤ R.slots)
    {g : JFrame} (hg : g.method = m) (hsize : g.locals.size = c.maxLocals) (hlen : ∀ sig, parseMethodDescriptor xi.desc = some sig → argsL.length = sig.parameters.length)
    (hstack : g.stack = argsL.reverse ++ .ref a :: rest) (hW : 2 * g.monitorRoom + (rest.map fun v => v.category).sum ≤ W) (hd : decode c.code g.pc = .ok (.invokeinterface index count, 5))
    (k : ∀ (v : Option Value) (T' : State) (L : List Loc), Stand p l e R s m args below meth c T' (locs ++ L) (cells + rm.cells) (slots + rm.slots) → Q v T'.heap L → own_Go p e below K T' { g with pc := g.pc + 5, stack := v.toList ++ rest }) : own_Go p e below K T g := by
  obtain ⟨cq, kq, qa, qb, qc⟩ := isOf hZ eT E
  obtain ⟨v, vm₁, ⟨T', L', k', n'⟩, -, X', ⟨L, hQ, hl', hk', hn'⟩, st⟩ := X.interfaceBack hx (xi := xi) (y := z) hown (mvT hZ wl) (mvT hZ wd) wf (mvT hZ wsel) (mvT hZ wt) (mvT hZ wp) (mvT hZ wu) (mvT hZ wk) hy (backOf (W := W) hM hZ wc wz hf hl) qa qb qc (g := g) hg hsize (Steps.refl _) (argsL := argsL) (rest := rest) hlen hstack hW hd (fun _ _ => ⟨rfl, eT, hc, hs⟩)
  dsimp only [Pt.U, Pt.locs, Pt.cells, Pt.slots] at X' hl' hk' hn' st hQ
  subst hl' hk' hn'
  exact own_go (fun _ q => st.trans q) (k v T' L X' hQ)
theorem own_callP (X : Stand p l e R s m args below meth c T locs cells slots) (hx : p.tables.exec = Jvm.exec) (hZ : Z.Warmed39 s.vm) {own : String} {index : Nat} {y : MethodName} {bytes : ByteArray} {maxL : Nat} {ret : Option FieldType}
    (hown : s.vm.findClass own = some m.cls) (wl : (Jvm.Cond.methodLink own index y).before a0 Z = true) (wt : (Jvm.Cond.instanceMethod y).before a0 Z = true) (wsel : (Jvm.Cond.selects y.cls y y).before a0 Z = true) (wp : (Jvm.Cond.privateMethod y).before a0 Z = true) (wz : (Jvm.Cond.initialized y.cls).before a0 Z = true) (wc : (Jvm.Cond.code y bytes maxL ret).before a0 Z = true)
    (hy : y.cls ≠ "java/lang/invoke/MethodHandle" ∧ y.cls ≠ "java/lang/invoke/VarHandle") (eT : T.heap = h) {rm : Room} {Q : Option Value → Heap → List Loc → Prop} {a : Addr} {C : String} (E : Exa Z h a C) {argsL rest : List Value} (hM : own_Met l Z y bytes maxL ret [] rm (.ref a :: argsL).toArray h Q)
    {W : Nat} (hf : rm.frames + 1 ≤ R.frames) (hl : W + (maxL + 11) + rm.locals ≤ R.locals) (hc : cells + rm.cells ≤ R.cells) (hs : slots + rm.slots ≤ R.slots)
    {g : JFrame} (hg : g.method = m) (hsize : g.locals.size = c.maxLocals) (hlen : ∀ sig, parseMethodDescriptor y.desc = some sig → argsL.length = sig.parameters.length)
    (hstack : g.stack = argsL.reverse ++ .ref a :: rest) (hW : 2 * g.monitorRoom + (rest.map fun v => v.category).sum ≤ W) (hd : decode c.code g.pc = .ok (.invokevirtual index, 3))
    (k : ∀ (v : Option Value) (T' : State) (L : List Loc), Stand p l e R s m args below meth c T' (locs ++ L) (cells + rm.cells) (slots + rm.slots) → Q v T'.heap L → own_Go p e below K T' { g with pc := g.pc + 3, stack := v.toList ++ rest }) : own_Go p e below K T g := by
  obtain ⟨cq, q1, q2⟩ := E.cell
  obtain ⟨v, vm₁, ⟨T', L', k', n'⟩, -, X', ⟨L, hQ, hl', hk', hn'⟩, st⟩ := X.privateBack hx (y := y) hown (mvT hZ wl) (mvT hZ wt) (mvT hZ wsel) (Cond.privateMethod_at (mvP hZ wp (args := #[]))) (mvT hZ wc) hy (backOf (W := W) hM hZ wc wz hf hl) (g := g) hg hsize (Steps.refl _) (a := a) (by rw [eT]; exact q1) q2 (argsL := argsL) (rest := rest) hlen hstack hW hd (fun _ _ => ⟨rfl, eT, hc, hs⟩)
  dsimp only [Pt.U, Pt.locs, Pt.cells, Pt.slots] at X' hl' hk' hn' st hQ
  subst hl' hk' hn'
  exact own_go (fun _ q => st.trans q) (k v T' L X' hQ)
theorem own_ins_keep {h h' : Heap} {a : Addr} {C : String} {b : Bool} {ws : List Addr} (F : Ins Z h a C b) (K : Keep h h' ws) : Ins Z h' a C b := by
  obtain ⟨cell, cT, h1, h2, h3⟩ := F
  obtain ⟨c', q1, q2, q3, -⟩ := K.2.2 _ _ h1
  exact ⟨c', cT, q1, h2, by rw [q2, q3]; exact h3⟩
theorem own_ne_arv {h : Heap} {a b : Addr} {C : String} {n : Nat} {k : ClassId} {ty : FieldType} {z : Int32} {vs : List Value} {d : Value} (F : Exa Z h a C) (wi : (Jvm.Cond.instantiable C n).before a0 Z = true) (G : Arv Z h b k ty z vs d) : a ≠ b := by
  obtain ⟨c, A, -⟩ := G
  exact ne_arr F wi A
end OwnLayer
theorem own_d1_0 : decode jdk_38_method_2_code 0 = .ok (.aload_n 0, 1) := by decide +kernel
theorem own_d1_1 : decode jdk_38_method_2_code 1 = .ok (.invokespecial 1, 3) := by decide +kernel
theorem own_d1_4 : decode jdk_38_method_2_code 4 = .ok (.aload_n 0, 1) := by decide +kernel
theorem own_d1_5 : decode jdk_38_method_2_code 5 = .ok (.getstatic 39, 3) := by decide +kernel
theorem own_d1_8 : decode jdk_38_method_2_code 8 = .ok (.putfield 9, 3) := by decide +kernel
theorem own_d1_11 : decode jdk_38_method_2_code 11 = .ok (.return_, 1) := by decide +kernel
theorem own_d2_0 : decode jdk_39_method_1_code 0 = .ok (.aload_n 0, 1) := by decide +kernel
theorem own_d2_1 : decode jdk_39_method_1_code 1 = .ok (.invokespecial 1, 3) := by decide +kernel
theorem own_d2_4 : decode jdk_39_method_1_code 4 = .ok (.aload_n 0, 1) := by decide +kernel
theorem own_d2_5 : decode jdk_39_method_1_code 5 = .ok (.iconst 0, 1) := by decide +kernel
theorem own_d2_6 : decode jdk_39_method_1_code 6 = .ok (.putfield 7, 3) := by decide +kernel
theorem own_d2_9 : decode jdk_39_method_1_code 9 = .ok (.return_, 1) := by decide +kernel
theorem own_d3_0 : decode jdk_22_method_1_code 0 = .ok (.aload_n 0, 1) := by decide +kernel
theorem own_d3_1 : decode jdk_22_method_1_code 1 = .ok (.invokespecial 1, 3) := by decide +kernel
theorem own_d3_4 : decode jdk_22_method_1_code 4 = .ok (.return_, 1) := by decide +kernel
theorem own_d5_0 : decode prog_9_method_2_code 0 = .ok (.aload_n 0, 1) := by decide +kernel
theorem own_d5_1 : decode prog_9_method_2_code 1 = .ok (.ifnonnull 9, 3) := by decide +kernel
theorem own_d5_4 : decode prog_9_method_2_code 4 = .ok (.invokestatic 7, 3) := by decide +kernel
theorem own_d5_7 : decode prog_9_method_2_code 7 = .ok (.goto 4, 3) := by decide +kernel
theorem own_d5_10 : decode prog_9_method_2_code 10 = .ok (.aload_n 0, 1) := by decide +kernel
theorem own_d5_11 : decode prog_9_method_2_code 11 = .ok (.areturn, 1) := by decide +kernel
theorem own_d6_0 : decode jdk_38_method_8_code 0 = .ok (.aload_n 0, 1) := by decide +kernel
theorem own_d6_1 : decode jdk_38_method_8_code 1 = .ok (.getfield 48, 3) := by decide +kernel
theorem own_d6_4 : decode jdk_38_method_8_code 4 = .ok (.ireturn, 1) := by decide +kernel
theorem own_d7_0 : decode jdk_40_method_36_code 0 = .ok (.getstatic 90, 3) := by decide +kernel
theorem own_d7_3 : decode jdk_40_method_36_code 3 = .ok (.areturn, 1) := by decide +kernel
theorem own_d8_0 : decode jdk_45_method_3_code 0 = .ok (.aload_n 0, 1) := by decide +kernel
theorem own_d8_1 : decode jdk_45_method_3_code 1 = .ok (.getfield 7, 3) := by decide +kernel
theorem own_d8_4 : decode jdk_45_method_3_code 4 = .ok (.arraylength, 1) := by decide +kernel
theorem own_d8_5 : decode jdk_45_method_3_code 5 = .ok (.ireturn, 1) := by decide +kernel
theorem own_d9_0 : decode jdk_33_method_22_code 0 = .ok (.iload_n 0, 1) := by decide +kernel
theorem own_d9_1 : decode jdk_33_method_22_code 1 = .ok (.bipush (-128), 2) := by decide +kernel
theorem own_d9_3 : decode jdk_33_method_22_code 3 = .ok (.if_icmp .lt 20, 3) := by decide +kernel
theorem own_d9_6 : decode jdk_33_method_22_code 6 = .ok (.iload_n 0, 1) := by decide +kernel
theorem own_d9_7 : decode jdk_33_method_22_code 7 = .ok (.getstatic 191, 3) := by decide +kernel
theorem own_d9_10 : decode jdk_33_method_22_code 10 = .ok (.if_icmp .gt 13, 3) := by decide +kernel
theorem own_d9_13 : decode jdk_33_method_22_code 13 = .ok (.getstatic 195, 3) := by decide +kernel
theorem own_d9_16 : decode jdk_33_method_22_code 16 = .ok (.iload_n 0, 1) := by decide +kernel
theorem own_d9_17 : decode jdk_33_method_22_code 17 = .ok (.sipush 128, 3) := by decide +kernel
theorem own_d9_20 : decode jdk_33_method_22_code 20 = .ok (.iadd, 1) := by decide +kernel
theorem own_d9_21 : decode jdk_33_method_22_code 21 = .ok (.aaload, 1) := by decide +kernel
theorem own_d9_22 : decode jdk_33_method_22_code 22 = .ok (.areturn, 1) := by decide +kernel
theorem own_d9_23 : decode jdk_33_method_22_code 23 = .ok (.new 1, 3) := by decide +kernel
theorem own_d9_26 : decode jdk_33_method_22_code 26 = .ok (.dup, 1) := by decide +kernel
theorem own_d9_27 : decode jdk_33_method_22_code 27 = .ok (.iload_n 0, 1) := by decide +kernel
theorem own_d9_28 : decode jdk_33_method_22_code 28 = .ok (.invokespecial 199, 3) := by decide +kernel
theorem own_d9_31 : decode jdk_33_method_22_code 31 = .ok (.areturn, 1) := by decide +kernel
theorem own_d10_0 : decode jdk_38_method_25_code 0 = .ok (.aload_n 0, 1) := by decide +kernel
theorem own_d10_1 : decode jdk_38_method_25_code 1 = .ok (.dup, 1) := by decide +kernel
theorem own_d10_2 : decode jdk_38_method_25_code 2 = .ok (.getfield 63, 3) := by decide +kernel
theorem own_d10_5 : decode jdk_38_method_25_code 5 = .ok (.iconst 1, 1) := by decide +kernel
theorem own_d10_6 : decode jdk_38_method_25_code 6 = .ok (.iadd, 1) := by decide +kernel
theorem own_d10_7 : decode jdk_38_method_25_code 7 = .ok (.putfield 63, 3) := by decide +kernel
theorem own_d10_10 : decode jdk_38_method_25_code 10 = .ok (.aload_n 0, 1) := by decide +kernel
theorem own_d10_11 : decode jdk_38_method_25_code 11 = .ok (.aload_n 1, 1) := by decide +kernel
theorem own_d10_12 : decode jdk_38_method_25_code 12 = .ok (.aload_n 0, 1) := by decide +kernel
theorem own_d10_13 : decode jdk_38_method_25_code 13 = .ok (.getfield 9, 3) := by decide +kernel
theorem own_d10_16 : decode jdk_38_method_25_code 16 = .ok (.aload_n 0, 1) := by decide +kernel
theorem own_d10_17 : decode jdk_38_method_25_code 17 = .ok (.getfield 48, 3) := by decide +kernel
theorem own_d10_20 : decode jdk_38_method_25_code 20 = .ok (.invokevirtual 131, 3) := by decide +kernel
theorem own_d10_23 : decode jdk_38_method_25_code 23 = .ok (.iconst 1, 1) := by decide +kernel
theorem own_d10_24 : decode jdk_38_method_25_code 24 = .ok (.ireturn, 1) := by decide +kernel
theorem own_d11_0 : decode jdk_38_method_24_code 0 = .ok (.iload_n 3, 1) := by decide +kernel
theorem own_d11_1 : decode jdk_38_method_24_code 1 = .ok (.aload_n 2, 1) := by decide +kernel
theorem own_d11_2 : decode jdk_38_method_24_code 2 = .ok (.arraylength, 1) := by decide +kernel
theorem own_d11_3 : decode jdk_38_method_24_code 3 = .ok (.if_icmp .ne 8, 3) := by decide +kernel
theorem own_d11_6 : decode jdk_38_method_24_code 6 = .ok (.aload_n 0, 1) := by decide +kernel
theorem own_d11_7 : decode jdk_38_method_24_code 7 = .ok (.invokevirtual 129, 3) := by decide +kernel
theorem own_d11_10 : decode jdk_38_method_24_code 10 = .ok (.astore_n 2, 1) := by decide +kernel
theorem own_d11_11 : decode jdk_38_method_24_code 11 = .ok (.aload_n 2, 1) := by decide +kernel
theorem own_d11_12 : decode jdk_38_method_24_code 12 = .ok (.iload_n 3, 1) := by decide +kernel
theorem own_d11_13 : decode jdk_38_method_24_code 13 = .ok (.aload_n 1, 1) := by decide +kernel
theorem own_d11_14 : decode jdk_38_method_24_code 14 = .ok (.aastore, 1) := by decide +kernel
theorem own_d11_15 : decode jdk_38_method_24_code 15 = .ok (.aload_n 0, 1) := by decide +kernel
theorem own_d11_16 : decode jdk_38_method_24_code 16 = .ok (.iload_n 3, 1) := by decide +kernel
theorem own_d11_17 : decode jdk_38_method_24_code 17 = .ok (.iconst 1, 1) := by decide +kernel
theorem own_d11_18 : decode jdk_38_method_24_code 18 = .ok (.iadd, 1) := by decide +kernel
theorem own_d11_19 : decode jdk_38_method_24_code 19 = .ok (.putfield 48, 3) := by decide +kernel
theorem own_d11_22 : decode jdk_38_method_24_code 22 = .ok (.return_, 1) := by decide +kernel
theorem own_d12_0 : decode jdk_38_method_7_code 0 = .ok (.aload_n 0, 1) := by decide +kernel
theorem own_d12_1 : decode jdk_38_method_7_code 1 = .ok (.aload_n 0, 1) := by decide +kernel
theorem own_d12_2 : decode jdk_38_method_7_code 2 = .ok (.getfield 48, 3) := by decide +kernel
theorem own_d12_5 : decode jdk_38_method_7_code 5 = .ok (.iconst 1, 1) := by decide +kernel
theorem own_d12_6 : decode jdk_38_method_7_code 6 = .ok (.iadd, 1) := by decide +kernel
theorem own_d12_7 : decode jdk_38_method_7_code 7 = .ok (.invokevirtual 69, 3) := by decide +kernel
theorem own_d12_10 : decode jdk_38_method_7_code 10 = .ok (.areturn, 1) := by decide +kernel
theorem own_d13_0 : decode jdk_38_method_6_code 0 = .ok (.aload_n 0, 1) := by decide +kernel
theorem own_d13_1 : decode jdk_38_method_6_code 1 = .ok (.getfield 9, 3) := by decide +kernel
theorem own_d13_4 : decode jdk_38_method_6_code 4 = .ok (.arraylength, 1) := by decide +kernel
theorem own_d13_5 : decode jdk_38_method_6_code 5 = .ok (.istore_n 2, 1) := by decide +kernel
theorem own_d13_6 : decode jdk_38_method_6_code 6 = .ok (.iload_n 2, 1) := by decide +kernel
theorem own_d13_7 : decode jdk_38_method_6_code 7 = .ok (.ifCond .gt 13, 3) := by decide +kernel
theorem own_d13_10 : decode jdk_38_method_6_code 10 = .ok (.aload_n 0, 1) := by decide +kernel
theorem own_d13_11 : decode jdk_38_method_6_code 11 = .ok (.getfield 9, 3) := by decide +kernel
theorem own_d13_14 : decode jdk_38_method_6_code 14 = .ok (.getstatic 39, 3) := by decide +kernel
theorem own_d13_17 : decode jdk_38_method_6_code 17 = .ok (.if_acmp .eq 28, 3) := by decide +kernel
theorem own_d13_20 : decode jdk_38_method_6_code 20 = .ok (.iload_n 2, 1) := by decide +kernel
theorem own_d13_21 : decode jdk_38_method_6_code 21 = .ok (.iload_n 1, 1) := by decide +kernel
theorem own_d13_22 : decode jdk_38_method_6_code 22 = .ok (.iload_n 2, 1) := by decide +kernel
theorem own_d13_23 : decode jdk_38_method_6_code 23 = .ok (.isub, 1) := by decide +kernel
theorem own_d13_24 : decode jdk_38_method_6_code 24 = .ok (.iload_n 2, 1) := by decide +kernel
theorem own_d13_25 : decode jdk_38_method_6_code 25 = .ok (.iconst 1, 1) := by decide +kernel
theorem own_d13_26 : decode jdk_38_method_6_code 26 = .ok (.ishr, 1) := by decide +kernel
theorem own_d13_27 : decode jdk_38_method_6_code 27 = .ok (.invokestatic 73, 3) := by decide +kernel
theorem own_d13_30 : decode jdk_38_method_6_code 30 = .ok (.istore_n 3, 1) := by decide +kernel
theorem own_d13_31 : decode jdk_38_method_6_code 31 = .ok (.aload_n 0, 1) := by decide +kernel
theorem own_d13_32 : decode jdk_38_method_6_code 32 = .ok (.aload_n 0, 1) := by decide +kernel
theorem own_d13_33 : decode jdk_38_method_6_code 33 = .ok (.getfield 9, 3) := by decide +kernel
theorem own_d13_36 : decode jdk_38_method_6_code 36 = .ok (.iload_n 3, 1) := by decide +kernel
theorem own_d13_37 : decode jdk_38_method_6_code 37 = .ok (.invokestatic 66, 3) := by decide +kernel
theorem own_d13_40 : decode jdk_38_method_6_code 40 = .ok (.dup_x1, 1) := by decide +kernel
theorem own_d13_41 : decode jdk_38_method_6_code 41 = .ok (.putfield 9, 3) := by decide +kernel
theorem own_d13_44 : decode jdk_38_method_6_code 44 = .ok (.areturn, 1) := by decide +kernel
theorem own_d13_45 : decode jdk_38_method_6_code 45 = .ok (.aload_n 0, 1) := by decide +kernel
theorem own_d13_46 : decode jdk_38_method_6_code 46 = .ok (.bipush 10, 2) := by decide +kernel
theorem own_d13_48 : decode jdk_38_method_6_code 48 = .ok (.iload_n 1, 1) := by decide +kernel
theorem own_d13_49 : decode jdk_38_method_6_code 49 = .ok (.invokestatic 79, 3) := by decide +kernel
theorem own_d13_52 : decode jdk_38_method_6_code 52 = .ok (.anewarray 7, 3) := by decide +kernel
theorem own_d13_55 : decode jdk_38_method_6_code 55 = .ok (.dup_x1, 1) := by decide +kernel
theorem own_d13_56 : decode jdk_38_method_6_code 56 = .ok (.putfield 9, 3) := by decide +kernel
theorem own_d13_59 : decode jdk_38_method_6_code 59 = .ok (.areturn, 1) := by decide +kernel
theorem own_d14_0 : decode jdk_29_method_65_code 0 = .ok (.iload_n 0, 1) := by decide +kernel
theorem own_d14_1 : decode jdk_29_method_65_code 1 = .ok (.iload_n 1, 1) := by decide +kernel
theorem own_d14_2 : decode jdk_29_method_65_code 2 = .ok (.if_icmp .lt 7, 3) := by decide +kernel
theorem own_d14_5 : decode jdk_29_method_65_code 5 = .ok (.iload_n 0, 1) := by decide +kernel
theorem own_d14_6 : decode jdk_29_method_65_code 6 = .ok (.goto 4, 3) := by decide +kernel
theorem own_d14_9 : decode jdk_29_method_65_code 9 = .ok (.iload_n 1, 1) := by decide +kernel
theorem own_d14_10 : decode jdk_29_method_65_code 10 = .ok (.ireturn, 1) := by decide +kernel
theorem own_d15_0 : decode jdk_38_method_20_code 0 = .ok (.iload_n 1, 1) := by decide +kernel
theorem own_d15_1 : decode jdk_38_method_20_code 1 = .ok (.aload_n 0, 1) := by decide +kernel
theorem own_d15_2 : decode jdk_38_method_20_code 2 = .ok (.getfield 48, 3) := by decide +kernel
theorem own_d15_5 : decode jdk_38_method_20_code 5 = .ok (.invokestatic 118, 3) := by decide +kernel
theorem own_d15_8 : decode jdk_38_method_20_code 8 = .ok (.pop, 1) := by decide +kernel
theorem own_d15_9 : decode jdk_38_method_20_code 9 = .ok (.aload_n 0, 1) := by decide +kernel
theorem own_d15_10 : decode jdk_38_method_20_code 10 = .ok (.iload_n 1, 1) := by decide +kernel
theorem own_d15_11 : decode jdk_38_method_20_code 11 = .ok (.invokevirtual 123, 3) := by decide +kernel
theorem own_d15_14 : decode jdk_38_method_20_code 14 = .ok (.areturn, 1) := by decide +kernel
theorem own_d16_0 : decode jdk_31_method_17_code 0 = .ok (.iload_n 0, 1) := by decide +kernel
theorem own_d16_1 : decode jdk_31_method_17_code 1 = .ok (.iload_n 1, 1) := by decide +kernel
theorem own_d16_2 : decode jdk_31_method_17_code 2 = .ok (.aconst_null, 1) := by decide +kernel
theorem own_d16_3 : decode jdk_31_method_17_code 3 = .ok (.invokestatic 105, 3) := by decide +kernel
theorem own_d16_6 : decode jdk_31_method_17_code 6 = .ok (.ireturn, 1) := by decide +kernel
theorem own_d17_0 : decode jdk_41_method_11_code 0 = .ok (.iload_n 0, 1) := by decide +kernel
theorem own_d17_1 : decode jdk_41_method_11_code 1 = .ok (.ifCond .lt 8, 3) := by decide +kernel
theorem own_d17_4 : decode jdk_41_method_11_code 4 = .ok (.iload_n 0, 1) := by decide +kernel
theorem own_d17_5 : decode jdk_41_method_11_code 5 = .ok (.iload_n 1, 1) := by decide +kernel
theorem own_d17_6 : decode jdk_41_method_11_code 6 = .ok (.if_icmp .lt 10, 3) := by decide +kernel
theorem own_d17_9 : decode jdk_41_method_11_code 9 = .ok (.aload_n 2, 1) := by decide +kernel
theorem own_d17_10 : decode jdk_41_method_11_code 10 = .ok (.iload_n 0, 1) := by decide +kernel
theorem own_d17_11 : decode jdk_41_method_11_code 11 = .ok (.iload_n 1, 1) := by decide +kernel
theorem own_d17_12 : decode jdk_41_method_11_code 12 = .ok (.invokestatic 95, 3) := by decide +kernel
theorem own_d17_15 : decode jdk_41_method_11_code 15 = .ok (.athrow, 1) := by decide +kernel
theorem own_d17_16 : decode jdk_41_method_11_code 16 = .ok (.iload_n 0, 1) := by decide +kernel
theorem own_d17_17 : decode jdk_41_method_11_code 17 = .ok (.ireturn, 1) := by decide +kernel
theorem own_d18_0 : decode jdk_38_method_18_code 0 = .ok (.aload_n 0, 1) := by decide +kernel
theorem own_d18_1 : decode jdk_38_method_18_code 1 = .ok (.getfield 9, 3) := by decide +kernel
theorem own_d18_4 : decode jdk_38_method_18_code 4 = .ok (.iload_n 1, 1) := by decide +kernel
theorem own_d18_5 : decode jdk_38_method_18_code 5 = .ok (.aaload, 1) := by decide +kernel
theorem own_d18_6 : decode jdk_38_method_18_code 6 = .ok (.areturn, 1) := by decide +kernel
theorem own_d19_0 : decode jdk_33_method_27_code 0 = .ok (.aload_n 0, 1) := by decide +kernel
theorem own_d19_1 : decode jdk_33_method_27_code 1 = .ok (.getfield 205, 3) := by decide +kernel
theorem own_d19_4 : decode jdk_33_method_27_code 4 = .ok (.ireturn, 1) := by decide +kernel
theorem own_d20_0 : decode jdk_33_method_23_code 0 = .ok (.aload_n 0, 1) := by decide +kernel
theorem own_d20_1 : decode jdk_33_method_23_code 1 = .ok (.invokespecial 202, 3) := by decide +kernel
theorem own_d20_4 : decode jdk_33_method_23_code 4 = .ok (.aload_n 0, 1) := by decide +kernel
theorem own_d20_5 : decode jdk_33_method_23_code 5 = .ok (.iload_n 1, 1) := by decide +kernel
theorem own_d20_6 : decode jdk_33_method_23_code 6 = .ok (.putfield 205, 3) := by decide +kernel
theorem own_d20_9 : decode jdk_33_method_23_code 9 = .ok (.return_, 1) := by decide +kernel
theorem own_d21_0 : decode jdk_18_method_1_code 0 = .ok (.aload_n 0, 1) := by decide +kernel
theorem own_d21_1 : decode jdk_18_method_1_code 1 = .ok (.invokespecial 1, 3) := by decide +kernel
theorem own_d21_4 : decode jdk_18_method_1_code 4 = .ok (.return_, 1) := by decide +kernel
theorem own_pd0 : parseMethodDescriptor "()V" = some ⟨[], none⟩ := by decide +kernel
theorem own_pd1 : parseMethodDescriptor "(I)V" = some ⟨[.int], none⟩ := by decide +kernel
theorem own_pd2 : parseMethodDescriptor "(II)I" = some ⟨[.int, .int], some .int⟩ := by decide +kernel
theorem own_pd3 : parseMethodDescriptor "(I)[Ljava/lang/Object;" = some ⟨[.int], some (.array (.object "java/lang/Object"))⟩ := by decide +kernel
theorem own_pd4 : parseMethodDescriptor "()[Ljava/lang/Object;" = some ⟨[], some (.array (.object "java/lang/Object"))⟩ := by decide +kernel
theorem own_pd5 : parseMethodDescriptor "(Ljava/lang/Object;[Ljava/lang/Object;I)V" = some ⟨[(.object "java/lang/Object"), (.array (.object "java/lang/Object")), .int], none⟩ := by decide +kernel
theorem own_pd6 : parseMethodDescriptor "(IILjava/util/function/BiFunction;)I" = some ⟨[.int, .int, (.object "java/util/function/BiFunction")], some .int⟩ := by decide +kernel
theorem own_pd7 : parseMethodDescriptor "(I)Ljava/lang/Object;" = some ⟨[.int], some (.object "java/lang/Object")⟩ := by decide +kernel
theorem own_pd8 : parseMethodDescriptor "()Ljava/util/List;" = some ⟨[], some (.object "java/util/List")⟩ := by decide +kernel
theorem own_pd9 : parseMethodDescriptor "(Ljava/util/List;)Ljava/util/List;" = some ⟨[(.object "java/util/List")], some (.object "java/util/List")⟩ := by decide +kernel
theorem own_pd10 : parseMethodDescriptor "()I" = some ⟨[], some .int⟩ := by decide +kernel
theorem own_pd11 : parseMethodDescriptor "(I)Ljava/lang/Integer;" = some ⟨[.int], some (.object "java/lang/Integer")⟩ := by decide +kernel
theorem own_pd12 : parseMethodDescriptor "(Ljava/lang/Object;)Z" = some ⟨[(.object "java/lang/Object")], some .boolean⟩ := by decide +kernel
def own_Qp (h0 : Heap) (n0 : Nat) (v : Option Value) (h : Heap) (L : List Loc) : Prop := v = none ∧ Fr n0 L ∧ h = h0
abbrev own_rmNu : Room := { frames := 1, cells := 0, slots := 0, locals := 12 }
set_option maxRecDepth 65536 in
set_option maxHeartbeats 40000000 in
theorem own_mNu (l : Launch) (Z : State) (a0 : Array Value) (hw : ∀ d ∈ tables_1, d.before a0 Z = true) (a : Addr) (h0 : Heap) (n0 : Nat) (Z0 : n0 ≤ h0.size) :
    own_Met l Z (⟨"java/lang/Number", "<init>", "()V"⟩ : MethodName) jdk_18_method_1_code 1 none [] own_rmNu #[(.ref a)] h0 (own_Qp h0 n0) := by
  refine own_body (plainFor_of_name (by first | (simp [plainName, overriddenIn]; done) | decide +kernel)) (g := fun m => mkF m 0 #[.val (.ref a)] []) (fun m => by first | (simp [entryFrame, mkF, argsToLocals, Value.category]; done) | rfl) ?_
  intro p e s m A below meth c T0 K X0 hx hby hml hown hnm hret hlk hZ e0 hK
  have N0 := Fr.nil n0
  show own_Go p e below K T0 (mkF m 0 #[.val (.ref a)] [])
  refine own_go (fun _ kk' => XS.aloadN X0.here hx rfl (hb hby own_d21_0) rfl rfl  kk') ?_
  show own_Go p e below K T0 (mkF m 1 #[.val (.ref a)] [(.ref a)])
  obtain ⟨T1, X1, e1, st1⟩ := initO X0 hx hZ hown (hw _ (List.mem_of_getElem? (i := 133) rfl)) (hw _ (List.mem_of_getElem? (i := 19) rfl)) (hw _ (List.mem_of_getElem? (i := 20) rfl)) e0 (g := (mkF m 1 #[.val (.ref a)] [(.ref a)])) rfl (by rw [hml]; rfl) rfl (hb hby own_d21_1) (by decide) (W := 0) (by show 2 * 0 + _ ≤ _; exact Nat.le_of_eq rfl) (by decide)
  refine own_go st1 ?_
  show own_Go p e below K T1 (mkF m 4 #[.val (.ref a)] [])
  exact own_retV X1 hx hlk hK hret (hb hby own_d21_4) (by decide) (by decide) (by rw [e1]; exact ⟨rfl, N0, rfl⟩)
def own_Qii (Z : State) (a : Addr) (i : Int32) (h0 : Heap) (n0 : Nat) (v : Option Value) (h : Heap) (L : List Loc) : Prop := v = none ∧ Fr n0 L ∧ Keep h0 h [a] ∧ Exa Z h a "java/lang/Integer" ∧ Fld Z h a "java/lang/Integer" "value" "I" (.int i)
abbrev own_rmII : Room := { frames := 2, cells := 0, slots := 0, locals := 24 }
set_option maxRecDepth 65536 in
set_option maxHeartbeats 40000000 in
theorem own_mII (l : Launch) (Z : State) (a0 : Array Value) (hw : ∀ d ∈ tables_1, d.before a0 Z = true) (a : Addr) (i : Int32) (u_value : Value) (h0 : Heap) (n0 : Nat) (Z0 : n0 ≤ h0.size) (Ea : Exa Z h0 a "java/lang/Integer") (F_value : Fld Z h0 a "java/lang/Integer" "value" "I" u_value) (ga : n0 ≤ a) :
    own_Met l Z (⟨"java/lang/Integer", "<init>", "(I)V"⟩ : MethodName) jdk_33_method_23_code 2 none [] own_rmII #[(.ref a), (.int i)] h0 (own_Qii Z a i h0 n0) := by
  refine own_body (plainFor_of_name (by first | (simp [plainName, overriddenIn]; done) | decide +kernel)) (g := fun m => mkF m 0 #[.val (.ref a), .val (.int i)] []) (fun m => by first | (simp [entryFrame, mkF, argsToLocals, Value.category]; done) | rfl) ?_
  intro p e s m A below meth c T0 K X0 hx hby hml hown hnm hret hlk hZ e0 hK
  have N0 := Fr.nil n0
  show own_Go p e below K T0 (mkF m 0 #[.val (.ref a), .val (.int i)] [])
  refine own_go (fun _ kk' => XS.aloadN X0.here hx rfl (hb hby own_d20_0) rfl rfl  kk') ?_
  show own_Go p e below K T0 (mkF m 1 #[.val (.ref a), .val (.int i)] [(.ref a)])
  refine own_callI X0 hx hZ (y := (⟨"java/lang/Number", "<init>", "()V"⟩ : MethodName)) rfl hown (hw _ (List.mem_of_getElem? (i := 127) rfl)) (hw _ (List.mem_of_getElem? (i := 128) rfl)) (hw _ (List.mem_of_getElem? (i := 131) rfl)) (hw _ (List.mem_of_getElem? (i := 132) rfl)) (by decide) e0 (rm := own_rmNu) (a := a) (argsL := []) (rest := []) (own_mNu l Z a0 hw a h0 n0 Z0) (W := 0) (by decide) (by decide) (by decide) (by decide) (g := (mkF m 1 #[.val (.ref a), .val (.int i)] [(.ref a)])) rfl (by rw [hml]; rfl) (lenOf own_pd0 rfl) rfl (by show 2 * 0 + _ ≤ _; exact Nat.le_of_eq rfl) (hb hby own_d20_1) ?_
  intro v2 T2 L2 X2 hQ2
  obtain ⟨rfl, Nq2, e2⟩ := hQ2
  have N2 := Fr.app N0 Nq2
  show own_Go p e below K T2 (mkF m 4 #[.val (.ref a), .val (.int i)] [])
  refine own_go (fun _ kk' => XS.aloadN X2.here hx rfl (hb hby own_d20_4) rfl rfl  kk') ?_
  show own_Go p e below K T2 (mkF m 5 #[.val (.ref a), .val (.int i)] [(.ref a)])
  refine own_go (fun _ kk' => XS.iloadN X2.here hx rfl (hb hby own_d20_5) rfl  kk') ?_
  show own_Go p e below K T2 (mkF m 6 #[.val (.ref a), .val (.int i)] [(.int i), (.ref a)])
  obtain ⟨T3, h3, X3, e3, W3, st3⟩ := putF X2 hx hZ hown (host := "") (Or.inl (hw _ (List.mem_of_getElem? (i := 120) rfl))) Via.refl e2 F_value Ea (Or.inr ⟨(hw _ (List.mem_of_getElem? (i := 121) rfl)), rfl, hnm⟩) (hw _ (List.mem_of_getElem? (i := 123) rfl)) (ty := .int) (by decide) rfl rfl (g := (mkF m 6 #[.val (.ref a), .val (.int i)] [(.int i), (.ref a)])) rfl rfl (hb hby own_d20_6)
  have F3 := F_value.same W3
  have N3 := Fr.snoc X3 N2 ga
  refine own_go st3 ?_
  show own_Go p e below K T3 (mkF m 9 #[.val (.ref a), .val (.int i)] [])
  exact own_retV X3 hx hlk hK hret (hb hby own_d20_9) (by decide) (by decide) (by rw [e3]; exact ⟨rfl, N3, ((Keep.refl h0 [a]).wr W3 (Or.inl (List.mem_of_getElem? (i := 0) rfl))), (Ea.wr W3), F3⟩)
def own_Qiv (Z : State) (i : Int32) (h0 : Heap) (n0 : Nat) (v : Option Value) (h : Heap) (L : List Loc) : Prop := ∃ b : Addr, v = some (.ref b) ∧ Fr n0 L ∧ Keep h0 h [] ∧ Exa Z h b "java/lang/Integer" ∧ Fld Z h b "java/lang/Integer" "value" "I" (.int i)
def own_Cache (Z : State) (ca : Addr) (cl : Cell) : Prop := Arr Z Z.heap ca cl (.object "java/lang/Integer") ∧ ∀ i : Int32, ¬ i < (-128 : Int32) → ¬ (127 : Int32) < i → ∃ b : Addr, ¬ ((i + (128 : Int32)) < 0 ∨ cl.slots.size ≤ (i + (128 : Int32)).toNatClampNeg) ∧ cl.slots[(i + (128 : Int32)).toNatClampNeg]? = some (.ref b) ∧ Exa Z Z.heap b "java/lang/Integer" ∧ Fld Z Z.heap b "java/lang/Integer" "value" "I" (.int i)
abbrev own_rmIV : Room := { frames := 3, cells := 1, slots := 1, locals := 38 }
set_option maxRecDepth 65536 in
set_option maxHeartbeats 40000000 in
theorem own_mIV (l : Launch) (Z : State) (a0 : Array Value) (hw : ∀ d ∈ tables_1, d.before a0 Z = true) (i : Int32) (ca : Addr) (cl : Cell) (h0 : Heap) (n0 : Nat) (Z0 : n0 ≤ h0.size) (O0 : Old Z n0 h0) (SH : Sta Z Z.heap "java/lang/Integer$IntegerCache" "high" "I" (.int (127 : Int32))) (SC : Sta Z Z.heap "java/lang/Integer$IntegerCache" "cache" "[Ljava/lang/Integer;" (.ref ca)) (HC : own_Cache Z ca cl) :
    own_Met l Z (⟨"java/lang/Integer", "valueOf", "(I)Ljava/lang/Integer;"⟩ : MethodName) jdk_33_method_22_code 1 (some (.object "java/lang/Integer")) [] own_rmIV #[(.int i)] h0 (own_Qiv Z i h0 n0) := by
  refine own_body (plainFor_of_name (by first | (simp [plainName, overriddenIn]; done) | decide +kernel)) (g := fun m => mkF m 0 #[.val (.int i)] []) (fun m => by first | (simp [entryFrame, mkF, argsToLocals, Value.category]; done) | rfl) ?_
  intro p e s m A below meth c T0 K X0 hx hby hml hown hnm hret hlk hZ e0 hK
  have N0 := Fr.nil n0
  show own_Go p e below K T0 (mkF m 0 #[.val (.int i)] [])
  refine own_go (fun _ kk' => XS.iloadN X0.here hx rfl (hb hby own_d9_0) rfl  kk') ?_
  show own_Go p e below K T0 (mkF m 1 #[.val (.int i)] [(.int i)])
  refine own_go (fun _ kk' => XS.bipush X0.here hx rfl (hb hby own_d9_1) kk') ?_
  show own_Go p e below K T0 (mkF m 3 #[.val (.int i)] [(.int (-128 : Int32)), (.int i)])
  by_cases hc3_4 : i < (-128 : Int32)
  · refine own_go (fun _ kk' => XS.icmpYes X0.here hx rfl (pc0 := 3) (pc' := 23) rfl (hb hby own_d9_3) rfl (tlt (hc3_4 : i < (-128 : Int32))).1 (by decide) (by decide) kk') ?_
    show own_Go p e below K T0 (mkF m 23 #[.val (.int i)] [])
    obtain ⟨T5, h5, X5, e5, E5, A5, D5, -, st5⟩ := newO X0 hx hZ hown (hw _ (List.mem_of_getElem? (i := 122) rfl)) (hw _ (List.mem_of_getElem? (i := 123) rfl)) (hw _ (List.mem_of_getElem? (i := 58) rfl)) e0 (g := (mkF m 23 #[.val (.int i)] [])) rfl (hb hby own_d9_23) (by decide) (by decide)
    obtain ⟨b5, g5⟩ : ∃ z, z = h0.size := ⟨_, rfl⟩
    rw [← g5] at A5 D5 st5
    have gp5 : n0 ≤ b5 := Nat.le_trans Z0 (Nat.le_of_eq g5.symm)
    have sz5 : h0.size ≤ b5 := Nat.le_trans (Nat.le_refl _) (Nat.le_of_eq g5.symm)
    have F5_value : Fld Z h5 b5 "java/lang/Integer" "value" "I" (.int (0 : Int32)) := D5 (Or.inr (hw _ (List.mem_of_getElem? (i := 121) rfl))) (ty := .int) (by decide)
    refine own_go st5 ?_
    show own_Go p e below K T5 (mkF m 26 #[.val (.int i)] [(.ref b5)])
    refine own_go (fun _ kk' => XS.dup X5.here hx rfl (hb hby own_d9_26) rfl rfl kk') ?_
    show own_Go p e below K T5 (mkF m 27 #[.val (.int i)] [(.ref b5), (.ref b5)])
    refine own_go (fun _ kk' => XS.iloadN X5.here hx rfl (hb hby own_d9_27) rfl  kk') ?_
    show own_Go p e below K T5 (mkF m 28 #[.val (.int i)] [(.int i), (.ref b5), (.ref b5)])
    refine own_callI X5 hx hZ (y := (⟨"java/lang/Integer", "<init>", "(I)V"⟩ : MethodName)) rfl hown (hw _ (List.mem_of_getElem? (i := 124) rfl)) (hw _ (List.mem_of_getElem? (i := 125) rfl)) (hw _ (List.mem_of_getElem? (i := 58) rfl)) (hw _ (List.mem_of_getElem? (i := 126) rfl)) (by decide) e5 (rm := own_rmII) (a := b5) (argsL := [(.int i)]) (rest := [(.ref b5)]) (own_mII l Z a0 hw b5 i (.int (0 : Int32)) h5 n0 (Nat.le_trans Z0 E5.1) A5 F5_value gp5) (W := 1) (by decide) (by decide) (by decide) (by decide) (g := (mkF m 28 #[.val (.int i)] [(.int i), (.ref b5), (.ref b5)])) rfl (by rw [hml]; rfl) (lenOf own_pd1 rfl) rfl (by show 2 * 0 + _ ≤ _; exact Nat.le_of_eq rfl) (hb hby own_d9_28) ?_
    intro v6 T6 L6 X6 hQ6
    obtain ⟨rfl, Nq6, Kq6, Eq6, Fq6⟩ := hQ6
    have N6 := Fr.app N0 Nq6
    show own_Go p e below K T6 (mkF m 31 #[.val (.int i)] [(.ref b5)])
    exact own_retR X6 hx hlk hK hret rfl rfl (hb hby own_d9_31) (by decide) (by decide) ⟨b5, rfl, N6, (((Keep.refl h0 []).ext E5).trans Kq6 (allS (Or.inr sz5) all0)), Eq6, Fq6⟩
  · refine own_go (fun _ kk' => XS.icmpNo X0.here hx rfl (hb hby own_d9_3) rfl (flt (hc3_4 : ¬ (i < (-128 : Int32)))).1 kk') ?_
    show own_Go p e below K T0 (mkF m 6 #[.val (.int i)] [])
    refine own_go (fun _ kk' => XS.iloadN X0.here hx rfl (hb hby own_d9_6) rfl  kk') ?_
    show own_Go p e below K T0 (mkF m 7 #[.val (.int i)] [(.int i)])
    obtain ⟨T7, X7, e7, st7⟩ := getS2 X0 hx hZ hown (host := "") (Or.inl (hw _ (List.mem_of_getElem? (i := 60) rfl))) Via.refl e0 (SH.ext O0.2) (g := (mkF m 7 #[.val (.int i)] [(.int i)])) rfl (hb hby own_d9_7)
    refine own_go st7 ?_
    show own_Go p e below K T7 (mkF m 10 #[.val (.int i)] [(.int (127 : Int32)), (.int i)])
    by_cases hc10_8 : (127 : Int32) < i
    · refine own_go (fun _ kk' => XS.icmpYes X7.here hx rfl (pc0 := 10) (pc' := 23) rfl (hb hby own_d9_10) rfl (tlt (hc10_8 : (127 : Int32) < i)).2.2.1 (by decide) (by decide) kk') ?_
      show own_Go p e below K T7 (mkF m 23 #[.val (.int i)] [])
      obtain ⟨T9, h9, X9, e9, E9, A9, D9, -, st9⟩ := newO X7 hx hZ hown (hw _ (List.mem_of_getElem? (i := 122) rfl)) (hw _ (List.mem_of_getElem? (i := 123) rfl)) (hw _ (List.mem_of_getElem? (i := 58) rfl)) e7 (g := (mkF m 23 #[.val (.int i)] [])) rfl (hb hby own_d9_23) (by decide) (by decide)
      obtain ⟨b9, g9⟩ : ∃ z, z = h0.size := ⟨_, rfl⟩
      rw [← g9] at A9 D9 st9
      have gp9 : n0 ≤ b9 := Nat.le_trans Z0 (Nat.le_of_eq g9.symm)
      have sz9 : h0.size ≤ b9 := Nat.le_trans (Nat.le_refl _) (Nat.le_of_eq g9.symm)
      have F9_value : Fld Z h9 b9 "java/lang/Integer" "value" "I" (.int (0 : Int32)) := D9 (Or.inr (hw _ (List.mem_of_getElem? (i := 121) rfl))) (ty := .int) (by decide)
      refine own_go st9 ?_
      show own_Go p e below K T9 (mkF m 26 #[.val (.int i)] [(.ref b9)])
      refine own_go (fun _ kk' => XS.dup X9.here hx rfl (hb hby own_d9_26) rfl rfl kk') ?_
      show own_Go p e below K T9 (mkF m 27 #[.val (.int i)] [(.ref b9), (.ref b9)])
      refine own_go (fun _ kk' => XS.iloadN X9.here hx rfl (hb hby own_d9_27) rfl  kk') ?_
      show own_Go p e below K T9 (mkF m 28 #[.val (.int i)] [(.int i), (.ref b9), (.ref b9)])
      refine own_callI X9 hx hZ (y := (⟨"java/lang/Integer", "<init>", "(I)V"⟩ : MethodName)) rfl hown (hw _ (List.mem_of_getElem? (i := 124) rfl)) (hw _ (List.mem_of_getElem? (i := 125) rfl)) (hw _ (List.mem_of_getElem? (i := 58) rfl)) (hw _ (List.mem_of_getElem? (i := 126) rfl)) (by decide) e9 (rm := own_rmII) (a := b9) (argsL := [(.int i)]) (rest := [(.ref b9)]) (own_mII l Z a0 hw b9 i (.int (0 : Int32)) h9 n0 (Nat.le_trans Z0 E9.1) A9 F9_value gp9) (W := 1) (by decide) (by decide) (by decide) (by decide) (g := (mkF m 28 #[.val (.int i)] [(.int i), (.ref b9), (.ref b9)])) rfl (by rw [hml]; rfl) (lenOf own_pd1 rfl) rfl (by show 2 * 0 + _ ≤ _; exact Nat.le_of_eq rfl) (hb hby own_d9_28) ?_
      intro v10 T10 L10 X10 hQ10
      obtain ⟨rfl, Nq10, Kq10, Eq10, Fq10⟩ := hQ10
      have N10 := Fr.app N0 Nq10
      show own_Go p e below K T10 (mkF m 31 #[.val (.int i)] [(.ref b9)])
      exact own_retR X10 hx hlk hK hret rfl rfl (hb hby own_d9_31) (by decide) (by decide) ⟨b9, rfl, N10, (((Keep.refl h0 []).ext E9).trans Kq10 (allS (Or.inr sz9) all0)), Eq10, Fq10⟩
    · refine own_go (fun _ kk' => XS.icmpNo X7.here hx rfl (hb hby own_d9_10) rfl (flt (hc10_8 : ¬ ((127 : Int32) < i))).2.2.1 kk') ?_
      show own_Go p e below K T7 (mkF m 13 #[.val (.int i)] [])
      obtain ⟨T11, X11, e11, st11⟩ := getS2 X7 hx hZ hown (host := "") (Or.inl (hw _ (List.mem_of_getElem? (i := 62) rfl))) Via.refl e7 (SC.ext O0.2) (g := (mkF m 13 #[.val (.int i)] [])) rfl (hb hby own_d9_13)
      refine own_go st11 ?_
      show own_Go p e below K T11 (mkF m 16 #[.val (.int i)] [(.ref ca)])
      refine own_go (fun _ kk' => XS.iloadN X11.here hx rfl (hb hby own_d9_16) rfl  kk') ?_
      show own_Go p e below K T11 (mkF m 17 #[.val (.int i)] [(.int i), (.ref ca)])
      refine own_go (fun _ kk' => XS.sipush X11.here hx rfl (hb hby own_d9_17) kk') ?_
      show own_Go p e below K T11 (mkF m 20 #[.val (.int i)] [(.int (128 : Int32)), (.int i), (.ref ca)])
      refine own_go (fun _ kk' => XS.iadd X11.here hx rfl (hb hby own_d9_20) rfl kk') ?_
      show own_Go p e below K T11 (mkF m 21 #[.val (.int i)] [(.int (i + (128 : Int32))), (.ref ca)])
      obtain ⟨b, hin, hat, Eb, Fb⟩ := HC.2 i hc3_4 hc10_8
      refine own_go (fun tt' kk' => X11.aaload hx (j := (i + (128 : Int32))) (v := .ref b) (by rw [e11]; exact (HC.1.ext O0.2).1) (State.isArrayOf_alike hZ.alike HC.1.2.1) rfl HC.1.2.2 hin hat (g := (mkF m 21 #[.val (.int i)] [(.int (i + (128 : Int32))), (.ref ca)])) rfl rfl (hb hby own_d9_21) tt' kk') ?_
      show own_Go p e below K T11 (mkF m 22 #[.val (.int i)] [(.ref b)])
      exact own_retR X11 hx hlk hK hret rfl rfl (hb hby own_d9_22) (by decide) (by decide) (by rw [e11]; exact ⟨b, rfl, N0, (Keep.refl h0 []), (Eb.ext O0.2), (Fb.ext O0.2)⟩)
def own_L (Z : State) (h : Heap) (a : Addr) (ed : Value) (mc sz : Int32) : Prop := Exa Z h a "java/util/ArrayList" ∧ Fld Z h a "java/util/AbstractList" "modCount" "I" (.int mc) ∧ Fld Z h a "java/util/ArrayList" "elementData" "[Ljava/lang/Object;" ed ∧ Fld Z h a "java/util/ArrayList" "size" "I" (.int sz)
abbrev own_rmAC : Room := { frames := 1, cells := 0, slots := 0, locals := 12 }
set_option maxRecDepth 65536 in
set_option maxHeartbeats 40000000 in
theorem own_mAC (l : Launch) (Z : State) (a0 : Array Value) (hw : ∀ d ∈ tables_1, d.before a0 Z = true) (a : Addr) (h0 : Heap) (n0 : Nat) (Z0 : n0 ≤ h0.size) :
    own_Met l Z (⟨"java/util/AbstractCollection", "<init>", "()V"⟩ : MethodName) jdk_22_method_1_code 1 none [] own_rmAC #[(.ref a)] h0 (own_Qp h0 n0) := by
  refine own_body (plainFor_of_name (by first | (simp [plainName, overriddenIn]; done) | decide +kernel)) (g := fun m => mkF m 0 #[.val (.ref a)] []) (fun m => by first | (simp [entryFrame, mkF, argsToLocals, Value.category]; done) | rfl) ?_
  intro p e s m A below meth c T0 K X0 hx hby hml hown hnm hret hlk hZ e0 hK
  have N0 := Fr.nil n0
  show own_Go p e below K T0 (mkF m 0 #[.val (.ref a)] [])
  refine own_go (fun _ kk' => XS.aloadN X0.here hx rfl (hb hby own_d3_0) rfl rfl  kk') ?_
  show own_Go p e below K T0 (mkF m 1 #[.val (.ref a)] [(.ref a)])
  obtain ⟨T12, X12, e12, st12⟩ := initO X0 hx hZ hown (hw _ (List.mem_of_getElem? (i := 18) rfl)) (hw _ (List.mem_of_getElem? (i := 19) rfl)) (hw _ (List.mem_of_getElem? (i := 20) rfl)) e0 (g := (mkF m 1 #[.val (.ref a)] [(.ref a)])) rfl (by rw [hml]; rfl) rfl (hb hby own_d3_1) (by decide) (W := 0) (by show 2 * 0 + _ ≤ _; exact Nat.le_of_eq rfl) (by decide)
  refine own_go st12 ?_
  show own_Go p e below K T12 (mkF m 4 #[.val (.ref a)] [])
  exact own_retV X12 hx hlk hK hret (hb hby own_d3_4) (by decide) (by decide) (by rw [e12]; exact ⟨rfl, N0, rfl⟩)
def own_Ql (Z : State) (a : Addr) (ed : Value) (mc sz : Int32) (h0 : Heap) (n0 : Nat) (v : Option Value) (h : Heap) (L : List Loc) : Prop := v = none ∧ Fr n0 L ∧ Keep h0 h [a] ∧ own_L Z h a ed mc sz
abbrev own_rmAB : Room := { frames := 2, cells := 0, slots := 0, locals := 24 }
set_option maxRecDepth 65536 in
set_option maxHeartbeats 40000000 in
theorem own_mAB (l : Launch) (Z : State) (a0 : Array Value) (hw : ∀ d ∈ tables_1, d.before a0 Z = true) (a : Addr) (ed : Value) (mc sz : Int32) (h0 : Heap) (n0 : Nat) (Z0 : n0 ≤ h0.size) (LS : own_L Z h0 a ed mc sz) (ga : n0 ≤ a) :
    own_Met l Z (⟨"java/util/AbstractList", "<init>", "()V"⟩ : MethodName) jdk_39_method_1_code 1 none [] own_rmAB #[(.ref a)] h0 (own_Ql Z a ed (0 : Int32) sz h0 n0) := by
  refine own_body (plainFor_of_name (by first | (simp [plainName, overriddenIn]; done) | decide +kernel)) (g := fun m => mkF m 0 #[.val (.ref a)] []) (fun m => by first | (simp [entryFrame, mkF, argsToLocals, Value.category]; done) | rfl) ?_
  intro p e s m A below meth c T0 K X0 hx hby hml hown hnm hret hlk hZ e0 hK
  have N0 := Fr.nil n0
  show own_Go p e below K T0 (mkF m 0 #[.val (.ref a)] [])
  refine own_go (fun _ kk' => XS.aloadN X0.here hx rfl (hb hby own_d2_0) rfl rfl  kk') ?_
  show own_Go p e below K T0 (mkF m 1 #[.val (.ref a)] [(.ref a)])
  refine own_callI X0 hx hZ (y := (⟨"java/util/AbstractCollection", "<init>", "()V"⟩ : MethodName)) rfl hown (hw _ (List.mem_of_getElem? (i := 12) rfl)) (hw _ (List.mem_of_getElem? (i := 13) rfl)) (hw _ (List.mem_of_getElem? (i := 16) rfl)) (hw _ (List.mem_of_getElem? (i := 17) rfl)) (by decide) e0 (rm := own_rmAC) (a := a) (argsL := []) (rest := []) (own_mAC l Z a0 hw a h0 n0 Z0) (W := 0) (by decide) (by decide) (by decide) (by decide) (g := (mkF m 1 #[.val (.ref a)] [(.ref a)])) rfl (by rw [hml]; rfl) (lenOf own_pd0 rfl) rfl (by show 2 * 0 + _ ≤ _; exact Nat.le_of_eq rfl) (hb hby own_d2_1) ?_
  intro v13 T13 L13 X13 hQ13
  obtain ⟨rfl, Nq13, e13⟩ := hQ13
  have N13 := Fr.app N0 Nq13
  show own_Go p e below K T13 (mkF m 4 #[.val (.ref a)] [])
  refine own_go (fun _ kk' => XS.aloadN X13.here hx rfl (hb hby own_d2_4) rfl rfl  kk') ?_
  show own_Go p e below K T13 (mkF m 5 #[.val (.ref a)] [(.ref a)])
  refine own_go (fun _ kk' => XS.iconst X13.here hx rfl (hb hby own_d2_5) kk') ?_
  show own_Go p e below K T13 (mkF m 6 #[.val (.ref a)] [(.int (0 : Int32)), (.ref a)])
  obtain ⟨T14, h14, X14, e14, W14, st14⟩ := putF X13 hx hZ hown (host := "") (Or.inl (hw _ (List.mem_of_getElem? (i := 21) rfl))) Via.refl e13 LS.2.1 LS.1 (Or.inl (hw _ (List.mem_of_getElem? (i := 22) rfl))) (hw _ (List.mem_of_getElem? (i := 1) rfl)) (ty := .int) (by decide) rfl rfl (g := (mkF m 6 #[.val (.ref a)] [(.int (0 : Int32)), (.ref a)])) rfl rfl (hb hby own_d2_6)
  have F14 := LS.2.1.same W14
  have N14 := Fr.snoc X14 N13 ga
  refine own_go st14 ?_
  show own_Go p e below K T14 (mkF m 9 #[.val (.ref a)] [])
  exact own_retV X14 hx hlk hK hret (hb hby own_d2_9) (by decide) (by decide) (by rw [e14]; exact ⟨rfl, N14, ((Keep.refl h0 [a]).wr W14 (Or.inl (List.mem_of_getElem? (i := 0) rfl))), ⟨(LS.1.wr W14), F14, (LS.2.2.1.other W14 (Or.inr (slot_ne (Or.inl (hw _ (List.mem_of_getElem? (i := 25) rfl))) (Or.inl (hw _ (List.mem_of_getElem? (i := 22) rfl))) (by decide) (t := (.array (.object "java/lang/Object"))) (t' := .int) (by decide) (by decide)))), (LS.2.2.2.other W14 (Or.inr (slot_ne (Or.inl (hw _ (List.mem_of_getElem? (i := 40) rfl))) (Or.inl (hw _ (List.mem_of_getElem? (i := 22) rfl))) (by decide) (t := .int) (t' := .int) (by decide) (by decide))))⟩⟩)
abbrev own_rmNW : Room := { frames := 3, cells := 0, slots := 0, locals := 36 }
set_option maxRecDepth 65536 in
set_option maxHeartbeats 40000000 in
theorem own_mNW (l : Launch) (Z : State) (a0 : Array Value) (hw : ∀ d ∈ tables_1, d.before a0 Z = true) (a de : Addr) (ed : Value) (mc sz : Int32) (h0 : Heap) (n0 : Nat) (Z0 : n0 ≤ h0.size) (LS : own_L Z h0 a ed mc sz) (ga : n0 ≤ a) (O0 : Old Z n0 h0) (SD : Sta Z Z.heap "java/util/ArrayList" "DEFAULTCAPACITY_EMPTY_ELEMENTDATA" "[Ljava/lang/Object;" (.ref de)) :
    own_Met l Z (⟨"java/util/ArrayList", "<init>", "()V"⟩ : MethodName) jdk_38_method_2_code 1 none [] own_rmNW #[(.ref a)] h0 (own_Ql Z a (.ref de) (0 : Int32) sz h0 n0) := by
  refine own_body (plainFor_of_name (by first | (simp [plainName, overriddenIn]; done) | decide +kernel)) (g := fun m => mkF m 0 #[.val (.ref a)] []) (fun m => by first | (simp [entryFrame, mkF, argsToLocals, Value.category]; done) | rfl) ?_
  intro p e s m A below meth c T0 K X0 hx hby hml hown hnm hret hlk hZ e0 hK
  have N0 := Fr.nil n0
  show own_Go p e below K T0 (mkF m 0 #[.val (.ref a)] [])
  refine own_go (fun _ kk' => XS.aloadN X0.here hx rfl (hb hby own_d1_0) rfl rfl  kk') ?_
  show own_Go p e below K T0 (mkF m 1 #[.val (.ref a)] [(.ref a)])
  refine own_callI X0 hx hZ (y := (⟨"java/util/AbstractList", "<init>", "()V"⟩ : MethodName)) rfl hown (hw _ (List.mem_of_getElem? (i := 6) rfl)) (hw _ (List.mem_of_getElem? (i := 7) rfl)) (hw _ (List.mem_of_getElem? (i := 10) rfl)) (hw _ (List.mem_of_getElem? (i := 11) rfl)) (by decide) e0 (rm := own_rmAB) (a := a) (argsL := []) (rest := []) (own_mAB l Z a0 hw a ed mc sz h0 n0 Z0 LS ga) (W := 0) (by decide) (by decide) (by decide) (by decide) (g := (mkF m 1 #[.val (.ref a)] [(.ref a)])) rfl (by rw [hml]; rfl) (lenOf own_pd0 rfl) rfl (by show 2 * 0 + _ ≤ _; exact Nat.le_of_eq rfl) (hb hby own_d1_1) ?_
  intro v15 T15 L15 X15 hQ15
  obtain ⟨rfl, Nq15, Kq15, Lq15⟩ := hQ15
  have N15 := Fr.app N0 Nq15
  show own_Go p e below K T15 (mkF m 4 #[.val (.ref a)] [])
  refine own_go (fun _ kk' => XS.aloadN X15.here hx rfl (hb hby own_d1_4) rfl rfl  kk') ?_
  show own_Go p e below K T15 (mkF m 5 #[.val (.ref a)] [(.ref a)])
  obtain ⟨T16, X16, e16, st16⟩ := getS2 X15 hx hZ hown (host := "") (Or.inl (hw _ (List.mem_of_getElem? (i := 23) rfl))) Via.refl rfl (SD.ext (O0.keep Kq15 (allS ga all0)).2) (g := (mkF m 5 #[.val (.ref a)] [(.ref a)])) rfl (hb hby own_d1_5)
  refine own_go st16 ?_
  show own_Go p e below K T16 (mkF m 8 #[.val (.ref a)] [(.ref de), (.ref a)])
  obtain ⟨T17, h17, X17, e17, W17, st17⟩ := putF X16 hx hZ hown (host := "") (Or.inl (hw _ (List.mem_of_getElem? (i := 24) rfl))) Via.refl e16 Lq15.2.2.1 Lq15.1 (Or.inl (hw _ (List.mem_of_getElem? (i := 25) rfl))) (hw _ (List.mem_of_getElem? (i := 1) rfl)) (ty := (.array (.object "java/lang/Object"))) (by decide) rfl rfl (g := (mkF m 8 #[.val (.ref a)] [(.ref de), (.ref a)])) rfl rfl (hb hby own_d1_8)
  have F17 := Lq15.2.2.1.same W17
  have N17 := Fr.snoc X17 N15 ga
  refine own_go st17 ?_
  show own_Go p e below K T17 (mkF m 11 #[.val (.ref a)] [])
  exact own_retV X17 hx hlk hK hret (hb hby own_d1_11) (by decide) (by decide) (by rw [e17]; exact ⟨rfl, N17, (((Keep.refl h0 [a]).trans Kq15 (allS (Or.inl (List.mem_of_getElem? (i := 0) rfl)) all0)).wr W17 (Or.inl (List.mem_of_getElem? (i := 0) rfl))), ⟨(Lq15.1.wr W17), (Lq15.2.1.other W17 (Or.inr (slot_ne (Or.inl (hw _ (List.mem_of_getElem? (i := 22) rfl))) (Or.inl (hw _ (List.mem_of_getElem? (i := 25) rfl))) (by decide) (t := .int) (t' := (.array (.object "java/lang/Object"))) (by decide) (by decide)))), F17, (Lq15.2.2.2.other W17 (Or.inr (slot_ne (Or.inl (hw _ (List.mem_of_getElem? (i := 40) rfl))) (Or.inl (hw _ (List.mem_of_getElem? (i := 25) rfl))) (by decide) (t := .int) (t' := (.array (.object "java/lang/Object"))) (by decide) (by decide))))⟩⟩)
def own_Qm (h0 : Heap) (n0 : Nat) (v : Option Value) (h : Heap) (L : List Loc) : Prop := v = some (.int (10 : Int32)) ∧ Fr n0 L ∧ h = h0
abbrev own_rmMx : Room := { frames := 0, cells := 0, slots := 0, locals := 0 }
set_option maxRecDepth 65536 in
set_option maxHeartbeats 40000000 in
theorem own_mMx (l : Launch) (Z : State) (a0 : Array Value) (hw : ∀ d ∈ tables_1, d.before a0 Z = true) (h0 : Heap) (n0 : Nat) (Z0 : n0 ≤ h0.size) :
    own_Met l Z (⟨"java/lang/Math", "max", "(II)I"⟩ : MethodName) jdk_29_method_65_code 2 (some .int) [] own_rmMx #[(.int (10 : Int32)), (.int (1 : Int32))] h0 (own_Qm h0 n0) := by
  refine own_body (by decide +kernel) (g := fun m => mkF m 0 #[.val (.int (10 : Int32)), .val (.int (1 : Int32))] []) (fun m => by first | (simp [entryFrame, mkF, argsToLocals, Value.category]; done) | rfl) ?_
  intro p e s m A below meth c T0 K X0 hx hby hml hown hnm hret hlk hZ e0 hK
  have N0 := Fr.nil n0
  show own_Go p e below K T0 (mkF m 0 #[.val (.int (10 : Int32)), .val (.int (1 : Int32))] [])
  refine own_go (fun _ kk' => XS.iloadN X0.here hx rfl (hb hby own_d14_0) rfl  kk') ?_
  show own_Go p e below K T0 (mkF m 1 #[.val (.int (10 : Int32)), .val (.int (1 : Int32))] [(.int (10 : Int32))])
  refine own_go (fun _ kk' => XS.iloadN X0.here hx rfl (hb hby own_d14_1) rfl  kk') ?_
  show own_Go p e below K T0 (mkF m 2 #[.val (.int (10 : Int32)), .val (.int (1 : Int32))] [(.int (1 : Int32)), (.int (10 : Int32))])
  refine own_go (fun _ kk' => XS.icmpNo X0.here hx rfl (hb hby own_d14_2) rfl (flt ((by decide) : ¬ ((10 : Int32) < (1 : Int32)))).1 kk') ?_
  show own_Go p e below K T0 (mkF m 5 #[.val (.int (10 : Int32)), .val (.int (1 : Int32))] [])
  refine own_go (fun _ kk' => XS.iloadN X0.here hx rfl (hb hby own_d14_5) rfl  kk') ?_
  show own_Go p e below K T0 (mkF m 6 #[.val (.int (10 : Int32)), .val (.int (1 : Int32))] [(.int (10 : Int32))])
  refine own_go (fun _ kk' => XS.goto X0.here hx rfl (pc0 := 6) (pc' := 10) rfl (hb hby own_d14_6) (by decide) (by decide) kk') ?_
  show own_Go p e below K T0 (mkF m 10 #[.val (.int (10 : Int32)), .val (.int (1 : Int32))] [(.int (10 : Int32))])
  exact own_retI X0 hx hlk hK hret (hb hby own_d14_10) (by decide) (by decide) (by rw [e0]; exact ⟨rfl, N0, rfl⟩)
def own_Qg (Z : State) (a : Addr) (mc sz : Int32) (h0 : Heap) (n0 : Nat) (v : Option Value) (h : Heap) (L : List Loc) : Prop := ∃ (ar : Addr) (k : ClassId), v = some (.ref ar) ∧ Fr n0 L ∧ Keep h0 h [a] ∧ own_L Z h a (.ref ar) mc sz ∧ Arv Z h ar k (.object "java/lang/Object") (10 : Int32) [.null, .null, .null, .null, .null, .null, .null, .null, .null, .null] .null ∧ Ovr Z k "java/lang/Object" ∧ h0.size ≤ ar ∧ n0 ≤ ar
abbrev own_rmG1 : Room := { frames := 1, cells := 1, slots := 10, locals := 14 }
set_option maxRecDepth 65536 in
set_option maxHeartbeats 40000000 in
theorem own_mG1 (l : Launch) (Z : State) (a0 : Array Value) (hw : ∀ d ∈ tables_1, d.before a0 Z = true) (a de : Addr) (mc sz : Int32) (kd : ClassId) (h0 : Heap) (n0 : Nat) (Z0 : n0 ≤ h0.size) (LS : own_L Z h0 a (.ref de) mc sz) (ga : n0 ≤ a) (O0 : Old Z n0 h0) (SD : Sta Z Z.heap "java/util/ArrayList" "DEFAULTCAPACITY_EMPTY_ELEMENTDATA" "[Ljava/lang/Object;" (.ref de)) (VD : Arv Z Z.heap de kd (.object "java/lang/Object") (0 : Int32) [] .null) :
    own_Met l Z (⟨"java/util/ArrayList", "grow", "(I)[Ljava/lang/Object;"⟩ : MethodName) jdk_38_method_6_code 4 (some (.array (.object "java/lang/Object"))) [] own_rmG1 #[(.ref a), (.int (1 : Int32))] h0 (own_Qg Z a mc sz h0 n0) := by
  refine own_body (plainFor_of_name (by first | (simp [plainName, overriddenIn]; done) | decide +kernel)) (g := fun m => mkF m 0 #[.val (.ref a), .val (.int (1 : Int32)), .unset, .unset] []) (fun m => by first | (simp [entryFrame, mkF, argsToLocals, Value.category]; done) | rfl) ?_
  intro p e s m A below meth c T0 K X0 hx hby hml hown hnm hret hlk hZ e0 hK
  have N0 := Fr.nil n0
  show own_Go p e below K T0 (mkF m 0 #[.val (.ref a), .val (.int (1 : Int32)), .unset, .unset] [])
  refine own_go (fun _ kk' => XS.aloadN X0.here hx rfl (hb hby own_d13_0) rfl rfl  kk') ?_
  show own_Go p e below K T0 (mkF m 1 #[.val (.ref a), .val (.int (1 : Int32)), .unset, .unset] [(.ref a)])
  obtain ⟨T18, X18, e18, st18⟩ := getF X0 hx hZ hown (host := "") (Or.inl (hw _ (List.mem_of_getElem? (i := 24) rfl))) Via.refl e0 LS.2.2.1 (g := (mkF m 1 #[.val (.ref a), .val (.int (1 : Int32)), .unset, .unset] [(.ref a)])) rfl rfl (hb hby own_d13_1)
  refine own_go st18 ?_
  show own_Go p e below K T18 (mkF m 4 #[.val (.ref a), .val (.int (1 : Int32)), .unset, .unset] [(.ref de)])
  obtain ⟨cl19, Ar19, -, S19, Nn19, -, -⟩ := (id (VD.ext O0.2))
  refine own_go (fun tt' kk' => X18.arraylength hx (by rw [e18]; exact Ar19.1) (State.isArrayOf_alike hZ.alike Ar19.2.1) (g := (mkF m 4 #[.val (.ref a), .val (.int (1 : Int32)), .unset, .unset] [(.ref de)])) rfl rfl (hb hby own_d13_4) tt' kk') ?_
  rw [len_of S19 Nn19]
  show own_Go p e below K T18 (mkF m 5 #[.val (.ref a), .val (.int (1 : Int32)), .unset, .unset] [(.int (0 : Int32))])
  refine own_go (fun _ kk' => XS.istoreN X18.here hx rfl (hb hby own_d13_5) rfl (l' := #[.val (.ref a), .val (.int (1 : Int32)), .val (.int (0 : Int32)), .unset]) rfl kk') ?_
  show own_Go p e below K T18 (mkF m 6 #[.val (.ref a), .val (.int (1 : Int32)), .val (.int (0 : Int32)), .unset] [])
  refine own_go (fun _ kk' => XS.iloadN X18.here hx rfl (hb hby own_d13_6) rfl  kk') ?_
  show own_Go p e below K T18 (mkF m 7 #[.val (.ref a), .val (.int (1 : Int32)), .val (.int (0 : Int32)), .unset] [(.int (0 : Int32))])
  refine own_go (fun _ kk' => XS.ifNo X18.here hx rfl (hb hby own_d13_7) rfl ((if0 _ _).trans (flt ((by decide) : ¬ ((0 : Int32) < (0 : Int32)))).2.2.1) kk') ?_
  show own_Go p e below K T18 (mkF m 10 #[.val (.ref a), .val (.int (1 : Int32)), .val (.int (0 : Int32)), .unset] [])
  refine own_go (fun _ kk' => XS.aloadN X18.here hx rfl (hb hby own_d13_10) rfl rfl  kk') ?_
  show own_Go p e below K T18 (mkF m 11 #[.val (.ref a), .val (.int (1 : Int32)), .val (.int (0 : Int32)), .unset] [(.ref a)])
  obtain ⟨T20, X20, e20, st20⟩ := getF X18 hx hZ hown (host := "") (Or.inl (hw _ (List.mem_of_getElem? (i := 24) rfl))) Via.refl e18 LS.2.2.1 (g := (mkF m 11 #[.val (.ref a), .val (.int (1 : Int32)), .val (.int (0 : Int32)), .unset] [(.ref a)])) rfl rfl (hb hby own_d13_11)
  refine own_go st20 ?_
  show own_Go p e below K T20 (mkF m 14 #[.val (.ref a), .val (.int (1 : Int32)), .val (.int (0 : Int32)), .unset] [(.ref de)])
  obtain ⟨T21, X21, e21, st21⟩ := getS2 X20 hx hZ hown (host := "") (Or.inl (hw _ (List.mem_of_getElem? (i := 23) rfl))) Via.refl e20 (SD.ext O0.2) (g := (mkF m 14 #[.val (.ref a), .val (.int (1 : Int32)), .val (.int (0 : Int32)), .unset] [(.ref de)])) rfl (hb hby own_d13_14)
  refine own_go st21 ?_
  show own_Go p e below K T21 (mkF m 17 #[.val (.ref a), .val (.int (1 : Int32)), .val (.int (0 : Int32)), .unset] [(.ref de), (.ref de)])
  refine own_go (fun _ kk' => Jvm.RoadKit.acmp (g := (mkF m 17 #[.val (.ref a), .val (.int (1 : Int32)), .val (.int (0 : Int32)), .unset] [(.ref de), (.ref de)])) X21 hx rfl rfl rfl (pc0 := 17) (pc' := 45) (same := true) rfl (hb hby own_d13_17) rfl (decide_eq_true (rfl : (Value.ref de) = (Value.ref de))) (by decide) (by decide) kk') ?_
  show own_Go p e below K T21 (mkF m 45 #[.val (.ref a), .val (.int (1 : Int32)), .val (.int (0 : Int32)), .unset] [])
  refine own_go (fun _ kk' => XS.aloadN X21.here hx rfl (hb hby own_d13_45) rfl rfl  kk') ?_
  show own_Go p e below K T21 (mkF m 46 #[.val (.ref a), .val (.int (1 : Int32)), .val (.int (0 : Int32)), .unset] [(.ref a)])
  refine own_go (fun _ kk' => XS.bipush X21.here hx rfl (hb hby own_d13_46) kk') ?_
  show own_Go p e below K T21 (mkF m 48 #[.val (.ref a), .val (.int (1 : Int32)), .val (.int (0 : Int32)), .unset] [(.int (10 : Int32)), (.ref a)])
  refine own_go (fun _ kk' => XS.iloadN X21.here hx rfl (hb hby own_d13_48) rfl  kk') ?_
  show own_Go p e below K T21 (mkF m 49 #[.val (.ref a), .val (.int (1 : Int32)), .val (.int (0 : Int32)), .unset] [(.int (1 : Int32)), (.int (10 : Int32)), (.ref a)])
  refine own_callS X21 hx hZ (y := (⟨"java/lang/Math", "max", "(II)I"⟩ : MethodName)) hown (hw _ (List.mem_of_getElem? (i := 85) rfl)) (hw _ (List.mem_of_getElem? (i := 86) rfl)) (hw _ (List.mem_of_getElem? (i := 87) rfl)) (hw _ (List.mem_of_getElem? (i := 88) rfl)) (by decide) e21 (rm := own_rmMx) (argsL := [(.int (10 : Int32)), (.int (1 : Int32))]) (rest := [(.ref a)]) (own_mMx l Z a0 hw h0 n0 Z0) (W := 1) (by decide) (by decide) (by decide) (by decide) (g := (mkF m 49 #[.val (.ref a), .val (.int (1 : Int32)), .val (.int (0 : Int32)), .unset] [(.int (1 : Int32)), (.int (10 : Int32)), (.ref a)])) rfl (by rw [hml]; rfl) (lenOf own_pd2 rfl) rfl (by show 2 * 0 + _ ≤ _; exact Nat.le_of_eq rfl) (hb hby own_d13_49) ?_
  intro v22 T22 L22 X22 hQ22
  obtain ⟨rfl, Nq22, e22⟩ := hQ22
  have N22 := Fr.app N0 Nq22
  show own_Go p e below K T22 (mkF m 52 #[.val (.ref a), .val (.int (1 : Int32)), .val (.int (0 : Int32)), .unset] [(.int (10 : Int32)), (.ref a)])
  obtain ⟨T23, h23, k23, X23, e23, E23, A23, O23, st23⟩ := newR X22 hx hZ hown (hw _ (List.mem_of_getElem? (i := 89) rfl)) (hw _ (List.mem_of_getElem? (i := 90) rfl)) e22 (g := (mkF m 52 #[.val (.ref a), .val (.int (1 : Int32)), .val (.int (0 : Int32)), .unset] [(.int (10 : Int32)), (.ref a)])) rfl (hb hby own_d13_52) rfl (by decide) (cap := 10) (by decide) (by decide) (by decide) (by decide)
  obtain ⟨b23, g23⟩ : ∃ z, z = h0.size := ⟨_, rfl⟩
  rw [← g23] at A23 st23
  have gp23 : n0 ≤ b23 := Nat.le_trans Z0 (Nat.le_of_eq g23.symm)
  have sz23 : h0.size ≤ b23 := Nat.le_trans (Nat.le_refl _) (Nat.le_of_eq g23.symm)
  have V23 : Arv Z h23 b23 k23 (.object "java/lang/Object") (10 : Int32) [.null, .null, .null, .null, .null, .null, .null, .null, .null, .null] .null := (Arv.new A23 (by decide)).pad (pad_rep [] .null 10)
  refine own_go st23 ?_
  show own_Go p e below K T23 (mkF m 55 #[.val (.ref a), .val (.int (1 : Int32)), .val (.int (0 : Int32)), .unset] [(.ref b23), (.ref a)])
  refine own_go (fun _ kk' => XS.dupX1 X23.here hx rfl (hb hby own_d13_55) rfl rfl rfl kk') ?_
  show own_Go p e below K T23 (mkF m 56 #[.val (.ref a), .val (.int (1 : Int32)), .val (.int (0 : Int32)), .unset] [(.ref b23), (.ref a), (.ref b23)])
  obtain ⟨T24, h24, X24, e24, W24, st24⟩ := putF X23 hx hZ hown (host := "") (Or.inl (hw _ (List.mem_of_getElem? (i := 24) rfl))) Via.refl e23 (LS.2.2.1.ext E23) (LS.1.ext E23) (Or.inl (hw _ (List.mem_of_getElem? (i := 25) rfl))) (hw _ (List.mem_of_getElem? (i := 1) rfl)) (ty := (.array (.object "java/lang/Object"))) (by decide) rfl rfl (g := (mkF m 56 #[.val (.ref a), .val (.int (1 : Int32)), .val (.int (0 : Int32)), .unset] [(.ref b23), (.ref a), (.ref b23)])) rfl rfl (hb hby own_d13_56)
  have F24 := (LS.2.2.1.ext E23).same W24
  have N24 := Fr.snoc X24 N22 ga
  refine own_go st24 ?_
  show own_Go p e below K T24 (mkF m 59 #[.val (.ref a), .val (.int (1 : Int32)), .val (.int (0 : Int32)), .unset] [(.ref b23)])
  exact own_retR X24 hx hlk hK hret rfl rfl (hb hby own_d13_59) (by decide) (by decide) (by rw [e24]; exact ⟨b23, k23, rfl, N24, (((Keep.refl h0 [a]).ext E23).wr W24 (Or.inl (List.mem_of_getElem? (i := 0) rfl))), ⟨((LS.1.ext E23).wr W24), ((LS.2.1.ext E23).other W24 (Or.inr (slot_ne (Or.inl (hw _ (List.mem_of_getElem? (i := 22) rfl))) (Or.inl (hw _ (List.mem_of_getElem? (i := 25) rfl))) (by decide) (t := .int) (t' := (.array (.object "java/lang/Object"))) (by decide) (by decide)))), F24, ((LS.2.2.2.ext E23).other W24 (Or.inr (slot_ne (Or.inl (hw _ (List.mem_of_getElem? (i := 40) rfl))) (Or.inl (hw _ (List.mem_of_getElem? (i := 25) rfl))) (by decide) (t := .int) (t' := (.array (.object "java/lang/Object"))) (by decide) (by decide))))⟩, (V23.other W24 (Ne.symm (own_ne_arv (LS.1.ext E23) (hw _ (List.mem_of_getElem? (i := 1) rfl)) V23))), O23, sz23, gp23⟩)
abbrev own_rmG0 : Room := { frames := 2, cells := 1, slots := 10, locals := 29 }
set_option maxRecDepth 65536 in
set_option maxHeartbeats 40000000 in
theorem own_mG0 (l : Launch) (Z : State) (a0 : Array Value) (hw : ∀ d ∈ tables_1, d.before a0 Z = true) (a de : Addr) (mc : Int32) (kd : ClassId) (h0 : Heap) (n0 : Nat) (Z0 : n0 ≤ h0.size) (LS : own_L Z h0 a (.ref de) mc (0 : Int32)) (ga : n0 ≤ a) (O0 : Old Z n0 h0) (SD : Sta Z Z.heap "java/util/ArrayList" "DEFAULTCAPACITY_EMPTY_ELEMENTDATA" "[Ljava/lang/Object;" (.ref de)) (VD : Arv Z Z.heap de kd (.object "java/lang/Object") (0 : Int32) [] .null) :
    own_Met l Z (⟨"java/util/ArrayList", "grow", "()[Ljava/lang/Object;"⟩ : MethodName) jdk_38_method_7_code 1 (some (.array (.object "java/lang/Object"))) [] own_rmG0 #[(.ref a)] h0 (own_Qg Z a mc (0 : Int32) h0 n0) := by
  refine own_body (plainFor_of_name (by first | (simp [plainName, overriddenIn]; done) | decide +kernel)) (g := fun m => mkF m 0 #[.val (.ref a)] []) (fun m => by first | (simp [entryFrame, mkF, argsToLocals, Value.category]; done) | rfl) ?_
  intro p e s m A below meth c T0 K X0 hx hby hml hown hnm hret hlk hZ e0 hK
  have N0 := Fr.nil n0
  show own_Go p e below K T0 (mkF m 0 #[.val (.ref a)] [])
  refine own_go (fun _ kk' => XS.aloadN X0.here hx rfl (hb hby own_d12_0) rfl rfl  kk') ?_
  show own_Go p e below K T0 (mkF m 1 #[.val (.ref a)] [(.ref a)])
  refine own_go (fun _ kk' => XS.aloadN X0.here hx rfl (hb hby own_d12_1) rfl rfl  kk') ?_
  show own_Go p e below K T0 (mkF m 2 #[.val (.ref a)] [(.ref a), (.ref a)])
  obtain ⟨T25, X25, e25, st25⟩ := getF X0 hx hZ hown (host := "") (Or.inl (hw _ (List.mem_of_getElem? (i := 39) rfl))) Via.refl e0 LS.2.2.2 (g := (mkF m 2 #[.val (.ref a)] [(.ref a), (.ref a)])) rfl rfl (hb hby own_d12_2)
  refine own_go st25 ?_
  show own_Go p e below K T25 (mkF m 5 #[.val (.ref a)] [(.int (0 : Int32)), (.ref a)])
  refine own_go (fun _ kk' => XS.iconst X25.here hx rfl (hb hby own_d12_5) kk') ?_
  show own_Go p e below K T25 (mkF m 6 #[.val (.ref a)] [(.int (1 : Int32)), (.int (0 : Int32)), (.ref a)])
  refine own_go (fun _ kk' => XS.iadd X25.here hx rfl (hb hby own_d12_6) rfl kk') ?_
  show own_Go p e below K T25 (mkF m 7 #[.val (.ref a)] [(.int (1 : Int32)), (.ref a)])
  refine own_callP X25 hx hZ (y := (⟨"java/util/ArrayList", "grow", "(I)[Ljava/lang/Object;"⟩ : MethodName)) hown (hw _ (List.mem_of_getElem? (i := 80) rfl)) (hw _ (List.mem_of_getElem? (i := 81) rfl)) (hw _ (List.mem_of_getElem? (i := 83) rfl)) (hw _ (List.mem_of_getElem? (i := 82) rfl)) (hw _ (List.mem_of_getElem? (i := 2) rfl)) (hw _ (List.mem_of_getElem? (i := 84) rfl)) (by decide) e25 (rm := own_rmG1) (a := a) LS.1 (argsL := [(.int (1 : Int32))]) (rest := []) (own_mG1 l Z a0 hw a de mc (0 : Int32) kd h0 n0 Z0 ⟨LS.1, LS.2.1, LS.2.2.1, LS.2.2.2⟩ ga O0 SD VD) (W := 0) (by decide) (by decide) (by decide) (by decide) (g := (mkF m 7 #[.val (.ref a)] [(.int (1 : Int32)), (.ref a)])) rfl (by rw [hml]; rfl) (lenOf own_pd3 rfl) rfl (by show 2 * 0 + _ ≤ _; exact Nat.le_of_eq rfl) (hb hby own_d12_7) ?_
  intro v26 T26 L26 X26 hQ26
  obtain ⟨ar26, kr26, rfl, Nq26, Kq26, Lq26, Vq26, Oq26, Zq26, Gq26⟩ := hQ26
  have N26 := Fr.app N0 Nq26
  show own_Go p e below K T26 (mkF m 10 #[.val (.ref a)] [(.ref ar26)])
  exact own_retR X26 hx hlk hK hret rfl rfl (hb hby own_d12_10) (by decide) (by decide) ⟨ar26, kr26, rfl, N26, ((Keep.refl h0 [a]).trans Kq26 (allS (Or.inl (List.mem_of_getElem? (i := 0) rfl)) all0)), ⟨Lq26.1, Lq26.2.1, Lq26.2.2.1, Lq26.2.2.2⟩, Vq26, Oq26, (Nat.le_trans (Nat.le_refl _) Zq26), Gq26⟩
def own_Qa1 (Z : State) (a : Addr) (mc sz : Int32) (x : Addr) (h0 : Heap) (n0 : Nat) (v : Option Value) (h : Heap) (L : List Loc) : Prop := ∃ (ar : Addr) (k : ClassId), v = none ∧ Fr n0 L ∧ Keep h0 h [a] ∧ own_L Z h a (.ref ar) mc sz ∧ Arv Z h ar k (.object "java/lang/Object") (10 : Int32) [(.ref x), .null, .null, .null, .null, .null, .null, .null, .null, .null] .null ∧ Ovr Z k "java/lang/Object" ∧ h0.size ≤ ar ∧ n0 ≤ ar
def own_Qa1b (Z : State) (a : Addr) (mc sz : Int32) (x : Addr) (h0 : Heap) (n0 : Nat) (v : Option Value) (h : Heap) (L : List Loc) : Prop := ∃ (ar : Addr) (k : ClassId), v = some (.int (1 : Int32)) ∧ Fr n0 L ∧ Keep h0 h [a] ∧ own_L Z h a (.ref ar) mc sz ∧ Arv Z h ar k (.object "java/lang/Object") (10 : Int32) [(.ref x), .null, .null, .null, .null, .null, .null, .null, .null, .null] .null ∧ Ovr Z k "java/lang/Object" ∧ h0.size ≤ ar ∧ n0 ≤ ar
abbrev own_rmP1 : Room := { frames := 3, cells := 1, slots := 10, locals := 41 }
set_option maxRecDepth 65536 in
set_option maxHeartbeats 40000000 in
theorem own_mP1 (l : Launch) (Z : State) (a0 : Array Value) (hw : ∀ d ∈ tables_1, d.before a0 Z = true) (a de x : Addr) (mc : Int32) (kd : ClassId) (h0 : Heap) (n0 : Nat) (Z0 : n0 ≤ h0.size) (LS : own_L Z h0 a (.ref de) mc (0 : Int32)) (ga : n0 ≤ a) (O0 : Old Z n0 h0) (SD : Sta Z Z.heap "java/util/ArrayList" "DEFAULTCAPACITY_EMPTY_ELEMENTDATA" "[Ljava/lang/Object;" (.ref de)) (VD : Arv Z Z.heap de kd (.object "java/lang/Object") (0 : Int32) [] .null) (Ix : Ins Z h0 x "java/lang/Object" true) :
    own_Met l Z (⟨"java/util/ArrayList", "add", "(Ljava/lang/Object;[Ljava/lang/Object;I)V"⟩ : MethodName) jdk_38_method_24_code 4 none [] own_rmP1 #[(.ref a), (.ref x), (.ref de), (.int (0 : Int32))] h0 (own_Qa1 Z a mc (1 : Int32) x h0 n0) := by
  refine own_body (plainFor_of_name (by first | (simp [plainName, overriddenIn]; done) | decide +kernel)) (g := fun m => mkF m 0 #[.val (.ref a), .val (.ref x), .val (.ref de), .val (.int (0 : Int32))] []) (fun m => by first | (simp [entryFrame, mkF, argsToLocals, Value.category]; done) | rfl) ?_
  intro p e s m A below meth c T0 K X0 hx hby hml hown hnm hret hlk hZ e0 hK
  have N0 := Fr.nil n0
  show own_Go p e below K T0 (mkF m 0 #[.val (.ref a), .val (.ref x), .val (.ref de), .val (.int (0 : Int32))] [])
  refine own_go (fun _ kk' => XS.iloadN X0.here hx rfl (hb hby own_d11_0) rfl  kk') ?_
  show own_Go p e below K T0 (mkF m 1 #[.val (.ref a), .val (.ref x), .val (.ref de), .val (.int (0 : Int32))] [(.int (0 : Int32))])
  refine own_go (fun _ kk' => XS.aloadN X0.here hx rfl (hb hby own_d11_1) rfl rfl  kk') ?_
  show own_Go p e below K T0 (mkF m 2 #[.val (.ref a), .val (.ref x), .val (.ref de), .val (.int (0 : Int32))] [(.ref de), (.int (0 : Int32))])
  obtain ⟨cl27, Ar27, -, S27, Nn27, -, -⟩ := (id (VD.ext O0.2))
  refine own_go (fun tt' kk' => X0.arraylength hx (by rw [e0]; exact Ar27.1) (State.isArrayOf_alike hZ.alike Ar27.2.1) (g := (mkF m 2 #[.val (.ref a), .val (.ref x), .val (.ref de), .val (.int (0 : Int32))] [(.ref de), (.int (0 : Int32))])) rfl rfl (hb hby own_d11_2) tt' kk') ?_
  rw [len_of S27 Nn27]
  show own_Go p e below K T0 (mkF m 3 #[.val (.ref a), .val (.ref x), .val (.ref de), .val (.int (0 : Int32))] [(.int (0 : Int32)), (.int (0 : Int32))])
  refine own_go (fun _ kk' => XS.icmpNo X0.here hx rfl (hb hby own_d11_3) rfl (teq ((by decide) : (0 : Int32) = (0 : Int32))).2 kk') ?_
  show own_Go p e below K T0 (mkF m 6 #[.val (.ref a), .val (.ref x), .val (.ref de), .val (.int (0 : Int32))] [])
  refine own_go (fun _ kk' => XS.aloadN X0.here hx rfl (hb hby own_d11_6) rfl rfl  kk') ?_
  show own_Go p e below K T0 (mkF m 7 #[.val (.ref a), .val (.ref x), .val (.ref de), .val (.int (0 : Int32))] [(.ref a)])
  refine own_callP X0 hx hZ (y := (⟨"java/util/ArrayList", "grow", "()[Ljava/lang/Object;"⟩ : MethodName)) hown (hw _ (List.mem_of_getElem? (i := 75) rfl)) (hw _ (List.mem_of_getElem? (i := 76) rfl)) (hw _ (List.mem_of_getElem? (i := 78) rfl)) (hw _ (List.mem_of_getElem? (i := 77) rfl)) (hw _ (List.mem_of_getElem? (i := 2) rfl)) (hw _ (List.mem_of_getElem? (i := 79) rfl)) (by decide) e0 (rm := own_rmG0) (a := a) LS.1 (argsL := []) (rest := []) (own_mG0 l Z a0 hw a de mc kd h0 n0 Z0 ⟨LS.1, LS.2.1, LS.2.2.1, LS.2.2.2⟩ ga O0 SD VD) (W := 0) (by decide) (by decide) (by decide) (by decide) (g := (mkF m 7 #[.val (.ref a), .val (.ref x), .val (.ref de), .val (.int (0 : Int32))] [(.ref a)])) rfl (by rw [hml]; rfl) (lenOf own_pd4 rfl) rfl (by show 2 * 0 + _ ≤ _; exact Nat.le_of_eq rfl) (hb hby own_d11_7) ?_
  intro v28 T28 L28 X28 hQ28
  obtain ⟨ar28, kr28, rfl, Nq28, Kq28, Lq28, Vq28, Oq28, Zq28, Gq28⟩ := hQ28
  have N28 := Fr.app N0 Nq28
  show own_Go p e below K T28 (mkF m 10 #[.val (.ref a), .val (.ref x), .val (.ref de), .val (.int (0 : Int32))] [(.ref ar28)])
  refine own_go (fun _ kk' => XS.astoreN X28.here hx rfl (hb hby own_d11_10) rfl rfl (l' := #[.val (.ref a), .val (.ref x), .val (.ref ar28), .val (.int (0 : Int32))]) rfl kk') ?_
  show own_Go p e below K T28 (mkF m 11 #[.val (.ref a), .val (.ref x), .val (.ref ar28), .val (.int (0 : Int32))] [])
  refine own_go (fun _ kk' => XS.aloadN X28.here hx rfl (hb hby own_d11_11) rfl rfl  kk') ?_
  show own_Go p e below K T28 (mkF m 12 #[.val (.ref a), .val (.ref x), .val (.ref ar28), .val (.int (0 : Int32))] [(.ref ar28)])
  refine own_go (fun _ kk' => XS.iloadN X28.here hx rfl (hb hby own_d11_12) rfl  kk') ?_
  show own_Go p e below K T28 (mkF m 13 #[.val (.ref a), .val (.ref x), .val (.ref ar28), .val (.int (0 : Int32))] [(.int (0 : Int32)), (.ref ar28)])
  refine own_go (fun _ kk' => XS.aloadN X28.here hx rfl (hb hby own_d11_13) rfl rfl  kk') ?_
  show own_Go p e below K T28 (mkF m 14 #[.val (.ref a), .val (.ref x), .val (.ref ar28), .val (.int (0 : Int32))] [(.ref x), (.int (0 : Int32)), (.ref ar28)])
  obtain ⟨cl29, Ar29, q29, S29, Nn29, H29, G29⟩ := (id Vq28)
  have hin29 : ¬ ((0 : Int32) < 0 ∨ cl29.slots.size ≤ ((0 : Int32)).toNatClampNeg) := inb_of S29 ⟨by decide, by decide⟩
  obtain ⟨T29, h29, X29, e29, W29, st29⟩ := stR X28 hx hZ rfl Ar29 (j := (0 : Int32)) hin29 rfl (Sto.ofV Ar29 q29 Oq28 (own_ins_keep Ix Kq28)) (g := (mkF m 14 #[.val (.ref a), .val (.ref x), .val (.ref ar28), .val (.int (0 : Int32))] [(.ref x), (.int (0 : Int32)), (.ref ar28)])) rfl rfl (hb hby own_d11_14)
  have V29 : Arv Z h29 ar28 kr28 (.object "java/lang/Object") (10 : Int32) [(.ref x), .null, .null, .null, .null, .null, .null, .null, .null, .null] .null := Arv.set Ar29 q29 S29 Nn29 H29 G29 rfl W29 0 rfl (Nat.le_of_ble_eq_true rfl)
  have N29 := Fr.snoc X29 N28 Gq28
  refine own_go st29 ?_
  show own_Go p e below K T29 (mkF m 15 #[.val (.ref a), .val (.ref x), .val (.ref ar28), .val (.int (0 : Int32))] [])
  refine own_go (fun _ kk' => XS.aloadN X29.here hx rfl (hb hby own_d11_15) rfl rfl  kk') ?_
  show own_Go p e below K T29 (mkF m 16 #[.val (.ref a), .val (.ref x), .val (.ref ar28), .val (.int (0 : Int32))] [(.ref a)])
  refine own_go (fun _ kk' => XS.iloadN X29.here hx rfl (hb hby own_d11_16) rfl  kk') ?_
  show own_Go p e below K T29 (mkF m 17 #[.val (.ref a), .val (.ref x), .val (.ref ar28), .val (.int (0 : Int32))] [(.int (0 : Int32)), (.ref a)])
  refine own_go (fun _ kk' => XS.iconst X29.here hx rfl (hb hby own_d11_17) kk') ?_
  show own_Go p e below K T29 (mkF m 18 #[.val (.ref a), .val (.ref x), .val (.ref ar28), .val (.int (0 : Int32))] [(.int (1 : Int32)), (.int (0 : Int32)), (.ref a)])
  refine own_go (fun _ kk' => XS.iadd X29.here hx rfl (hb hby own_d11_18) rfl kk') ?_
  show own_Go p e below K T29 (mkF m 19 #[.val (.ref a), .val (.ref x), .val (.ref ar28), .val (.int (0 : Int32))] [(.int (1 : Int32)), (.ref a)])
  obtain ⟨T30, h30, X30, e30, W30, st30⟩ := putF X29 hx hZ hown (host := "") (Or.inl (hw _ (List.mem_of_getElem? (i := 39) rfl))) Via.refl e29 (Lq28.2.2.2.other W29 (Or.inl (own_ne_arv (Lq28.1.wr W29) (hw _ (List.mem_of_getElem? (i := 1) rfl)) V29))) (Lq28.1.wr W29) (Or.inl (hw _ (List.mem_of_getElem? (i := 40) rfl))) (hw _ (List.mem_of_getElem? (i := 1) rfl)) (ty := .int) (by decide) rfl rfl (g := (mkF m 19 #[.val (.ref a), .val (.ref x), .val (.ref ar28), .val (.int (0 : Int32))] [(.int (1 : Int32)), (.ref a)])) rfl rfl (hb hby own_d11_19)
  have F30 := (Lq28.2.2.2.other W29 (Or.inl (own_ne_arv (Lq28.1.wr W29) (hw _ (List.mem_of_getElem? (i := 1) rfl)) V29))).same W30
  have N30 := Fr.snoc X30 N29 ga
  refine own_go st30 ?_
  show own_Go p e below K T30 (mkF m 22 #[.val (.ref a), .val (.ref x), .val (.ref ar28), .val (.int (0 : Int32))] [])
  exact own_retV X30 hx hlk hK hret (hb hby own_d11_22) (by decide) (by decide) (by rw [e30]; exact ⟨ar28, kr28, rfl, N30, ((((Keep.refl h0 [a]).trans Kq28 (allS (Or.inl (List.mem_of_getElem? (i := 0) rfl)) all0)).wr W29 (Or.inr (Nat.le_trans (Nat.le_refl _) Zq28))).wr W30 (Or.inl (List.mem_of_getElem? (i := 0) rfl))), ⟨((Lq28.1.wr W29).wr W30), ((Lq28.2.1.other W29 (Or.inl (own_ne_arv (Lq28.1.wr W29) (hw _ (List.mem_of_getElem? (i := 1) rfl)) V29))).other W30 (Or.inr (slot_ne (Or.inl (hw _ (List.mem_of_getElem? (i := 22) rfl))) (Or.inl (hw _ (List.mem_of_getElem? (i := 40) rfl))) (by decide) (t := .int) (t' := .int) (by decide) (by decide)))), ((Lq28.2.2.1.other W29 (Or.inl (own_ne_arv (Lq28.1.wr W29) (hw _ (List.mem_of_getElem? (i := 1) rfl)) V29))).other W30 (Or.inr (slot_ne (Or.inl (hw _ (List.mem_of_getElem? (i := 25) rfl))) (Or.inl (hw _ (List.mem_of_getElem? (i := 40) rfl))) (by decide) (t := (.array (.object "java/lang/Object"))) (t' := .int) (by decide) (by decide)))), F30⟩, (V29.other W30 (Ne.symm (own_ne_arv (Lq28.1.wr W29) (hw _ (List.mem_of_getElem? (i := 1) rfl)) V29))), Oq28, (Nat.le_trans (Nat.le_refl _) Zq28), Gq28⟩)
abbrev own_rmA1 : Room := { frames := 4, cells := 1, slots := 10, locals := 56 }
set_option maxRecDepth 65536 in
set_option maxHeartbeats 40000000 in
theorem own_mA1 (l : Launch) (Z : State) (a0 : Array Value) (hw : ∀ d ∈ tables_1, d.before a0 Z = true) (a de x : Addr) (mc : Int32) (kd : ClassId) (h0 : Heap) (n0 : Nat) (Z0 : n0 ≤ h0.size) (LS : own_L Z h0 a (.ref de) mc (0 : Int32)) (ga : n0 ≤ a) (O0 : Old Z n0 h0) (SD : Sta Z Z.heap "java/util/ArrayList" "DEFAULTCAPACITY_EMPTY_ELEMENTDATA" "[Ljava/lang/Object;" (.ref de)) (VD : Arv Z Z.heap de kd (.object "java/lang/Object") (0 : Int32) [] .null) (Ix : Ins Z h0 x "java/lang/Object" true) :
    own_Met l Z (⟨"java/util/ArrayList", "add", "(Ljava/lang/Object;)Z"⟩ : MethodName) jdk_38_method_25_code 2 (some .boolean) [] own_rmA1 #[(.ref a), (.ref x)] h0 (own_Qa1b Z a (mc + (1 : Int32)) (1 : Int32) x h0 n0) := by
  refine own_body (plainFor_of_name (by first | (simp [plainName, overriddenIn]; done) | decide +kernel)) (g := fun m => mkF m 0 #[.val (.ref a), .val (.ref x)] []) (fun m => by first | (simp [entryFrame, mkF, argsToLocals, Value.category]; done) | rfl) ?_
  intro p e s m A below meth c T0 K X0 hx hby hml hown hnm hret hlk hZ e0 hK
  have N0 := Fr.nil n0
  show own_Go p e below K T0 (mkF m 0 #[.val (.ref a), .val (.ref x)] [])
  refine own_go (fun _ kk' => XS.aloadN X0.here hx rfl (hb hby own_d10_0) rfl rfl  kk') ?_
  show own_Go p e below K T0 (mkF m 1 #[.val (.ref a), .val (.ref x)] [(.ref a)])
  refine own_go (fun _ kk' => XS.dup X0.here hx rfl (hb hby own_d10_1) rfl rfl kk') ?_
  show own_Go p e below K T0 (mkF m 2 #[.val (.ref a), .val (.ref x)] [(.ref a), (.ref a)])
  obtain ⟨T31, X31, e31, st31⟩ := getF X0 hx hZ hown (host := "") (Or.inl (hw _ (List.mem_of_getElem? (i := 68) rfl))) (Via.of (hw _ (List.mem_of_getElem? (i := 69) rfl))) e0 LS.2.1 (g := (mkF m 2 #[.val (.ref a), .val (.ref x)] [(.ref a), (.ref a)])) rfl rfl (hb hby own_d10_2)
  refine own_go st31 ?_
  show own_Go p e below K T31 (mkF m 5 #[.val (.ref a), .val (.ref x)] [(.int mc), (.ref a)])
  refine own_go (fun _ kk' => XS.iconst X31.here hx rfl (hb hby own_d10_5) kk') ?_
  show own_Go p e below K T31 (mkF m 6 #[.val (.ref a), .val (.ref x)] [(.int (1 : Int32)), (.int mc), (.ref a)])
  refine own_go (fun _ kk' => XS.iadd X31.here hx rfl (hb hby own_d10_6) rfl kk') ?_
  show own_Go p e below K T31 (mkF m 7 #[.val (.ref a), .val (.ref x)] [(.int (mc + (1 : Int32))), (.ref a)])
  obtain ⟨T32, h32, X32, e32, W32, st32⟩ := putF X31 hx hZ hown (host := "") (Or.inl (hw _ (List.mem_of_getElem? (i := 68) rfl))) (Via.of (hw _ (List.mem_of_getElem? (i := 69) rfl))) e31 LS.2.1 LS.1 (Or.inl (hw _ (List.mem_of_getElem? (i := 22) rfl))) (hw _ (List.mem_of_getElem? (i := 1) rfl)) (ty := .int) (by decide) rfl rfl (g := (mkF m 7 #[.val (.ref a), .val (.ref x)] [(.int (mc + (1 : Int32))), (.ref a)])) rfl rfl (hb hby own_d10_7)
  have F32 := LS.2.1.same W32
  have N32 := Fr.snoc X32 N0 ga
  refine own_go st32 ?_
  show own_Go p e below K T32 (mkF m 10 #[.val (.ref a), .val (.ref x)] [])
  refine own_go (fun _ kk' => XS.aloadN X32.here hx rfl (hb hby own_d10_10) rfl rfl  kk') ?_
  show own_Go p e below K T32 (mkF m 11 #[.val (.ref a), .val (.ref x)] [(.ref a)])
  refine own_go (fun _ kk' => XS.aloadN X32.here hx rfl (hb hby own_d10_11) rfl rfl  kk') ?_
  show own_Go p e below K T32 (mkF m 12 #[.val (.ref a), .val (.ref x)] [(.ref x), (.ref a)])
  refine own_go (fun _ kk' => XS.aloadN X32.here hx rfl (hb hby own_d10_12) rfl rfl  kk') ?_
  show own_Go p e below K T32 (mkF m 13 #[.val (.ref a), .val (.ref x)] [(.ref a), (.ref x), (.ref a)])
  obtain ⟨T33, X33, e33, st33⟩ := getF X32 hx hZ hown (host := "") (Or.inl (hw _ (List.mem_of_getElem? (i := 24) rfl))) Via.refl e32 (LS.2.2.1.other W32 (Or.inr (slot_ne (Or.inl (hw _ (List.mem_of_getElem? (i := 25) rfl))) (Or.inl (hw _ (List.mem_of_getElem? (i := 22) rfl))) (by decide) (t := (.array (.object "java/lang/Object"))) (t' := .int) (by decide) (by decide)))) (g := (mkF m 13 #[.val (.ref a), .val (.ref x)] [(.ref a), (.ref x), (.ref a)])) rfl rfl (hb hby own_d10_13)
  refine own_go st33 ?_
  show own_Go p e below K T33 (mkF m 16 #[.val (.ref a), .val (.ref x)] [(.ref de), (.ref x), (.ref a)])
  refine own_go (fun _ kk' => XS.aloadN X33.here hx rfl (hb hby own_d10_16) rfl rfl  kk') ?_
  show own_Go p e below K T33 (mkF m 17 #[.val (.ref a), .val (.ref x)] [(.ref a), (.ref de), (.ref x), (.ref a)])
  obtain ⟨T34, X34, e34, st34⟩ := getF X33 hx hZ hown (host := "") (Or.inl (hw _ (List.mem_of_getElem? (i := 39) rfl))) Via.refl e33 (LS.2.2.2.other W32 (Or.inr (slot_ne (Or.inl (hw _ (List.mem_of_getElem? (i := 40) rfl))) (Or.inl (hw _ (List.mem_of_getElem? (i := 22) rfl))) (by decide) (t := .int) (t' := .int) (by decide) (by decide)))) (g := (mkF m 17 #[.val (.ref a), .val (.ref x)] [(.ref a), (.ref de), (.ref x), (.ref a)])) rfl rfl (hb hby own_d10_17)
  refine own_go st34 ?_
  show own_Go p e below K T34 (mkF m 20 #[.val (.ref a), .val (.ref x)] [(.int (0 : Int32)), (.ref de), (.ref x), (.ref a)])
  refine own_callP X34 hx hZ (y := (⟨"java/util/ArrayList", "add", "(Ljava/lang/Object;[Ljava/lang/Object;I)V"⟩ : MethodName)) hown (hw _ (List.mem_of_getElem? (i := 70) rfl)) (hw _ (List.mem_of_getElem? (i := 71) rfl)) (hw _ (List.mem_of_getElem? (i := 73) rfl)) (hw _ (List.mem_of_getElem? (i := 72) rfl)) (hw _ (List.mem_of_getElem? (i := 2) rfl)) (hw _ (List.mem_of_getElem? (i := 74) rfl)) (by decide) e34 (rm := own_rmP1) (a := a) (LS.1.wr W32) (argsL := [(.ref x), (.ref de), (.int (0 : Int32))]) (rest := []) (own_mP1 l Z a0 hw a de x (mc + (1 : Int32)) kd h32 n0 (Nat.le_trans Z0 (Keep.of_wr W32).1) ⟨(LS.1.wr W32), F32, (LS.2.2.1.other W32 (Or.inr (slot_ne (Or.inl (hw _ (List.mem_of_getElem? (i := 25) rfl))) (Or.inl (hw _ (List.mem_of_getElem? (i := 22) rfl))) (by decide) (t := (.array (.object "java/lang/Object"))) (t' := .int) (by decide) (by decide)))), (LS.2.2.2.other W32 (Or.inr (slot_ne (Or.inl (hw _ (List.mem_of_getElem? (i := 40) rfl))) (Or.inl (hw _ (List.mem_of_getElem? (i := 22) rfl))) (by decide) (t := .int) (t' := .int) (by decide) (by decide))))⟩ ga (O0.wr W32 ga) SD VD (Ix.wr W32)) (W := 0) (by decide) (by decide) (by decide) (by decide) (g := (mkF m 20 #[.val (.ref a), .val (.ref x)] [(.int (0 : Int32)), (.ref de), (.ref x), (.ref a)])) rfl (by rw [hml]; rfl) (lenOf own_pd5 rfl) rfl (by show 2 * 0 + _ ≤ _; exact Nat.le_of_eq rfl) (hb hby own_d10_20) ?_
  intro v35 T35 L35 X35 hQ35
  obtain ⟨ar35, kr35, rfl, Nq35, Kq35, Lq35, Vq35, Oq35, Zq35, Gq35⟩ := hQ35
  have N35 := Fr.app N32 Nq35
  show own_Go p e below K T35 (mkF m 23 #[.val (.ref a), .val (.ref x)] [])
  refine own_go (fun _ kk' => XS.iconst X35.here hx rfl (hb hby own_d10_23) kk') ?_
  show own_Go p e below K T35 (mkF m 24 #[.val (.ref a), .val (.ref x)] [(.int (1 : Int32))])
  exact own_retZ X35 hx hlk hK hret (by decide) (hb hby own_d10_24) (by decide) (by decide) ⟨ar35, kr35, rfl, N35, (((Keep.refl h0 [a]).wr W32 (Or.inl (List.mem_of_getElem? (i := 0) rfl))).trans Kq35 (allS (Or.inl (List.mem_of_getElem? (i := 0) rfl)) all0)), ⟨Lq35.1, Lq35.2.1, Lq35.2.2.1, Lq35.2.2.2⟩, Vq35, Oq35, (Nat.le_trans (Nat.le_trans (Nat.le_refl _) (Keep.of_wr W32).1) Zq35), Gq35⟩
def own_Qb1 (Z : State) (a ar o0 x : Addr) (kr : ClassId) (mc : Int32) (h0 : Heap) (n0 : Nat) (v : Option Value) (h : Heap) (L : List Loc) : Prop := v = none ∧ Fr n0 L ∧ Keep h0 h [a, ar] ∧ own_L Z h a (.ref ar) mc (2 : Int32) ∧ Arv Z h ar kr (.object "java/lang/Object") (10 : Int32) [(.ref o0), (.ref x), .null, .null, .null, .null, .null, .null, .null, .null] .null
def own_Qb1b (Z : State) (a ar o0 x : Addr) (kr : ClassId) (mc : Int32) (h0 : Heap) (n0 : Nat) (v : Option Value) (h : Heap) (L : List Loc) : Prop := v = some (.int (1 : Int32)) ∧ Fr n0 L ∧ Keep h0 h [a, ar] ∧ own_L Z h a (.ref ar) mc (2 : Int32) ∧ Arv Z h ar kr (.object "java/lang/Object") (10 : Int32) [(.ref o0), (.ref x), .null, .null, .null, .null, .null, .null, .null, .null] .null
abbrev own_rmP2 : Room := { frames := 0, cells := 0, slots := 0, locals := 0 }
set_option maxRecDepth 65536 in
set_option maxHeartbeats 40000000 in
theorem own_mP2 (l : Launch) (Z : State) (a0 : Array Value) (hw : ∀ d ∈ tables_1, d.before a0 Z = true) (a ar o0 x : Addr) (kr : ClassId) (mc : Int32) (h0 : Heap) (n0 : Nat) (Z0 : n0 ≤ h0.size) (LS : own_L Z h0 a (.ref ar) mc (1 : Int32)) (ga : n0 ≤ a) (gr : n0 ≤ ar) (VR : Arv Z h0 ar kr (.object "java/lang/Object") (10 : Int32) [(.ref o0), .null, .null, .null, .null, .null, .null, .null, .null, .null] .null) (OR : Ovr Z kr "java/lang/Object") (Ix : Ins Z h0 x "java/lang/Object" true) :
    own_Met l Z (⟨"java/util/ArrayList", "add", "(Ljava/lang/Object;[Ljava/lang/Object;I)V"⟩ : MethodName) jdk_38_method_24_code 4 none [] own_rmP2 #[(.ref a), (.ref x), (.ref ar), (.int (1 : Int32))] h0 (own_Qb1 Z a ar o0 x kr mc h0 n0) := by
  refine own_body (plainFor_of_name (by first | (simp [plainName, overriddenIn]; done) | decide +kernel)) (g := fun m => mkF m 0 #[.val (.ref a), .val (.ref x), .val (.ref ar), .val (.int (1 : Int32))] []) (fun m => by first | (simp [entryFrame, mkF, argsToLocals, Value.category]; done) | rfl) ?_
  intro p e s m A below meth c T0 K X0 hx hby hml hown hnm hret hlk hZ e0 hK
  have N0 := Fr.nil n0
  show own_Go p e below K T0 (mkF m 0 #[.val (.ref a), .val (.ref x), .val (.ref ar), .val (.int (1 : Int32))] [])
  refine own_go (fun _ kk' => XS.iloadN X0.here hx rfl (hb hby own_d11_0) rfl  kk') ?_
  show own_Go p e below K T0 (mkF m 1 #[.val (.ref a), .val (.ref x), .val (.ref ar), .val (.int (1 : Int32))] [(.int (1 : Int32))])
  refine own_go (fun _ kk' => XS.aloadN X0.here hx rfl (hb hby own_d11_1) rfl rfl  kk') ?_
  show own_Go p e below K T0 (mkF m 2 #[.val (.ref a), .val (.ref x), .val (.ref ar), .val (.int (1 : Int32))] [(.ref ar), (.int (1 : Int32))])
  obtain ⟨cl36, Ar36, -, S36, Nn36, -, -⟩ := (id VR)
  refine own_go (fun tt' kk' => X0.arraylength hx (by rw [e0]; exact Ar36.1) (State.isArrayOf_alike hZ.alike Ar36.2.1) (g := (mkF m 2 #[.val (.ref a), .val (.ref x), .val (.ref ar), .val (.int (1 : Int32))] [(.ref ar), (.int (1 : Int32))])) rfl rfl (hb hby own_d11_2) tt' kk') ?_
  rw [len_of S36 Nn36]
  show own_Go p e below K T0 (mkF m 3 #[.val (.ref a), .val (.ref x), .val (.ref ar), .val (.int (1 : Int32))] [(.int (10 : Int32)), (.int (1 : Int32))])
  refine own_go (fun _ kk' => XS.icmpYes X0.here hx rfl (pc0 := 3) (pc' := 11) rfl (hb hby own_d11_3) rfl (feq ((by decide) : ¬ ((1 : Int32) = (10 : Int32)))).2 (by decide) (by decide) kk') ?_
  show own_Go p e below K T0 (mkF m 11 #[.val (.ref a), .val (.ref x), .val (.ref ar), .val (.int (1 : Int32))] [])
  refine own_go (fun _ kk' => XS.aloadN X0.here hx rfl (hb hby own_d11_11) rfl rfl  kk') ?_
  show own_Go p e below K T0 (mkF m 12 #[.val (.ref a), .val (.ref x), .val (.ref ar), .val (.int (1 : Int32))] [(.ref ar)])
  refine own_go (fun _ kk' => XS.iloadN X0.here hx rfl (hb hby own_d11_12) rfl  kk') ?_
  show own_Go p e below K T0 (mkF m 13 #[.val (.ref a), .val (.ref x), .val (.ref ar), .val (.int (1 : Int32))] [(.int (1 : Int32)), (.ref ar)])
  refine own_go (fun _ kk' => XS.aloadN X0.here hx rfl (hb hby own_d11_13) rfl rfl  kk') ?_
  show own_Go p e below K T0 (mkF m 14 #[.val (.ref a), .val (.ref x), .val (.ref ar), .val (.int (1 : Int32))] [(.ref x), (.int (1 : Int32)), (.ref ar)])
  obtain ⟨cl37, Ar37, q37, S37, Nn37, H37, G37⟩ := (id VR)
  have hin37 : ¬ ((1 : Int32) < 0 ∨ cl37.slots.size ≤ ((1 : Int32)).toNatClampNeg) := inb_of S37 ⟨by decide, by decide⟩
  obtain ⟨T37, h37, X37, e37, W37, st37⟩ := stR X0 hx hZ e0 Ar37 (j := (1 : Int32)) hin37 rfl (Sto.ofV Ar37 q37 OR Ix) (g := (mkF m 14 #[.val (.ref a), .val (.ref x), .val (.ref ar), .val (.int (1 : Int32))] [(.ref x), (.int (1 : Int32)), (.ref ar)])) rfl rfl (hb hby own_d11_14)
  have V37 : Arv Z h37 ar kr (.object "java/lang/Object") (10 : Int32) [(.ref o0), (.ref x), .null, .null, .null, .null, .null, .null, .null, .null] .null := Arv.set Ar37 q37 S37 Nn37 H37 G37 rfl W37 1 rfl (Nat.le_of_ble_eq_true rfl)
  have N37 := Fr.snoc X37 N0 gr
  refine own_go st37 ?_
  show own_Go p e below K T37 (mkF m 15 #[.val (.ref a), .val (.ref x), .val (.ref ar), .val (.int (1 : Int32))] [])
  refine own_go (fun _ kk' => XS.aloadN X37.here hx rfl (hb hby own_d11_15) rfl rfl  kk') ?_
  show own_Go p e below K T37 (mkF m 16 #[.val (.ref a), .val (.ref x), .val (.ref ar), .val (.int (1 : Int32))] [(.ref a)])
  refine own_go (fun _ kk' => XS.iloadN X37.here hx rfl (hb hby own_d11_16) rfl  kk') ?_
  show own_Go p e below K T37 (mkF m 17 #[.val (.ref a), .val (.ref x), .val (.ref ar), .val (.int (1 : Int32))] [(.int (1 : Int32)), (.ref a)])
  refine own_go (fun _ kk' => XS.iconst X37.here hx rfl (hb hby own_d11_17) kk') ?_
  show own_Go p e below K T37 (mkF m 18 #[.val (.ref a), .val (.ref x), .val (.ref ar), .val (.int (1 : Int32))] [(.int (1 : Int32)), (.int (1 : Int32)), (.ref a)])
  refine own_go (fun _ kk' => XS.iadd X37.here hx rfl (hb hby own_d11_18) rfl kk') ?_
  show own_Go p e below K T37 (mkF m 19 #[.val (.ref a), .val (.ref x), .val (.ref ar), .val (.int (1 : Int32))] [(.int (2 : Int32)), (.ref a)])
  obtain ⟨T38, h38, X38, e38, W38, st38⟩ := putF X37 hx hZ hown (host := "") (Or.inl (hw _ (List.mem_of_getElem? (i := 39) rfl))) Via.refl e37 (LS.2.2.2.other W37 (Or.inl (own_ne_arv (LS.1.wr W37) (hw _ (List.mem_of_getElem? (i := 1) rfl)) V37))) (LS.1.wr W37) (Or.inl (hw _ (List.mem_of_getElem? (i := 40) rfl))) (hw _ (List.mem_of_getElem? (i := 1) rfl)) (ty := .int) (by decide) rfl rfl (g := (mkF m 19 #[.val (.ref a), .val (.ref x), .val (.ref ar), .val (.int (1 : Int32))] [(.int (2 : Int32)), (.ref a)])) rfl rfl (hb hby own_d11_19)
  have F38 := (LS.2.2.2.other W37 (Or.inl (own_ne_arv (LS.1.wr W37) (hw _ (List.mem_of_getElem? (i := 1) rfl)) V37))).same W38
  have N38 := Fr.snoc X38 N37 ga
  refine own_go st38 ?_
  show own_Go p e below K T38 (mkF m 22 #[.val (.ref a), .val (.ref x), .val (.ref ar), .val (.int (1 : Int32))] [])
  exact own_retV X38 hx hlk hK hret (hb hby own_d11_22) (by decide) (by decide) (by rw [e38]; exact ⟨rfl, N38, (((Keep.refl h0 [a, ar]).wr W37 (Or.inl (List.mem_of_getElem? (i := 1) rfl))).wr W38 (Or.inl (List.mem_of_getElem? (i := 0) rfl))), ⟨((LS.1.wr W37).wr W38), ((LS.2.1.other W37 (Or.inl (own_ne_arv (LS.1.wr W37) (hw _ (List.mem_of_getElem? (i := 1) rfl)) V37))).other W38 (Or.inr (slot_ne (Or.inl (hw _ (List.mem_of_getElem? (i := 22) rfl))) (Or.inl (hw _ (List.mem_of_getElem? (i := 40) rfl))) (by decide) (t := .int) (t' := .int) (by decide) (by decide)))), ((LS.2.2.1.other W37 (Or.inl (own_ne_arv (LS.1.wr W37) (hw _ (List.mem_of_getElem? (i := 1) rfl)) V37))).other W38 (Or.inr (slot_ne (Or.inl (hw _ (List.mem_of_getElem? (i := 25) rfl))) (Or.inl (hw _ (List.mem_of_getElem? (i := 40) rfl))) (by decide) (t := (.array (.object "java/lang/Object"))) (t' := .int) (by decide) (by decide)))), F38⟩, (V37.other W38 (Ne.symm (own_ne_arv (LS.1.wr W37) (hw _ (List.mem_of_getElem? (i := 1) rfl)) V37)))⟩)
abbrev own_rmA2 : Room := { frames := 1, cells := 0, slots := 0, locals := 15 }
set_option maxRecDepth 65536 in
set_option maxHeartbeats 40000000 in
theorem own_mA2 (l : Launch) (Z : State) (a0 : Array Value) (hw : ∀ d ∈ tables_1, d.before a0 Z = true) (a ar o0 x : Addr) (kr : ClassId) (mc : Int32) (h0 : Heap) (n0 : Nat) (Z0 : n0 ≤ h0.size) (LS : own_L Z h0 a (.ref ar) mc (1 : Int32)) (ga : n0 ≤ a) (gr : n0 ≤ ar) (VR : Arv Z h0 ar kr (.object "java/lang/Object") (10 : Int32) [(.ref o0), .null, .null, .null, .null, .null, .null, .null, .null, .null] .null) (OR : Ovr Z kr "java/lang/Object") (Ix : Ins Z h0 x "java/lang/Object" true) :
    own_Met l Z (⟨"java/util/ArrayList", "add", "(Ljava/lang/Object;)Z"⟩ : MethodName) jdk_38_method_25_code 2 (some .boolean) [] own_rmA2 #[(.ref a), (.ref x)] h0 (own_Qb1b Z a ar o0 x kr (mc + (1 : Int32)) h0 n0) := by
  refine own_body (plainFor_of_name (by first | (simp [plainName, overriddenIn]; done) | decide +kernel)) (g := fun m => mkF m 0 #[.val (.ref a), .val (.ref x)] []) (fun m => by first | (simp [entryFrame, mkF, argsToLocals, Value.category]; done) | rfl) ?_
  intro p e s m A below meth c T0 K X0 hx hby hml hown hnm hret hlk hZ e0 hK
  have N0 := Fr.nil n0
  show own_Go p e below K T0 (mkF m 0 #[.val (.ref a), .val (.ref x)] [])
  refine own_go (fun _ kk' => XS.aloadN X0.here hx rfl (hb hby own_d10_0) rfl rfl  kk') ?_
  show own_Go p e below K T0 (mkF m 1 #[.val (.ref a), .val (.ref x)] [(.ref a)])
  refine own_go (fun _ kk' => XS.dup X0.here hx rfl (hb hby own_d10_1) rfl rfl kk') ?_
  show own_Go p e below K T0 (mkF m 2 #[.val (.ref a), .val (.ref x)] [(.ref a), (.ref a)])
  obtain ⟨T39, X39, e39, st39⟩ := getF X0 hx hZ hown (host := "") (Or.inl (hw _ (List.mem_of_getElem? (i := 68) rfl))) (Via.of (hw _ (List.mem_of_getElem? (i := 69) rfl))) e0 LS.2.1 (g := (mkF m 2 #[.val (.ref a), .val (.ref x)] [(.ref a), (.ref a)])) rfl rfl (hb hby own_d10_2)
  refine own_go st39 ?_
  show own_Go p e below K T39 (mkF m 5 #[.val (.ref a), .val (.ref x)] [(.int mc), (.ref a)])
  refine own_go (fun _ kk' => XS.iconst X39.here hx rfl (hb hby own_d10_5) kk') ?_
  show own_Go p e below K T39 (mkF m 6 #[.val (.ref a), .val (.ref x)] [(.int (1 : Int32)), (.int mc), (.ref a)])
  refine own_go (fun _ kk' => XS.iadd X39.here hx rfl (hb hby own_d10_6) rfl kk') ?_
  show own_Go p e below K T39 (mkF m 7 #[.val (.ref a), .val (.ref x)] [(.int (mc + (1 : Int32))), (.ref a)])
  obtain ⟨T40, h40, X40, e40, W40, st40⟩ := putF X39 hx hZ hown (host := "") (Or.inl (hw _ (List.mem_of_getElem? (i := 68) rfl))) (Via.of (hw _ (List.mem_of_getElem? (i := 69) rfl))) e39 LS.2.1 LS.1 (Or.inl (hw _ (List.mem_of_getElem? (i := 22) rfl))) (hw _ (List.mem_of_getElem? (i := 1) rfl)) (ty := .int) (by decide) rfl rfl (g := (mkF m 7 #[.val (.ref a), .val (.ref x)] [(.int (mc + (1 : Int32))), (.ref a)])) rfl rfl (hb hby own_d10_7)
  have F40 := LS.2.1.same W40
  have N40 := Fr.snoc X40 N0 ga
  refine own_go st40 ?_
  show own_Go p e below K T40 (mkF m 10 #[.val (.ref a), .val (.ref x)] [])
  refine own_go (fun _ kk' => XS.aloadN X40.here hx rfl (hb hby own_d10_10) rfl rfl  kk') ?_
  show own_Go p e below K T40 (mkF m 11 #[.val (.ref a), .val (.ref x)] [(.ref a)])
  refine own_go (fun _ kk' => XS.aloadN X40.here hx rfl (hb hby own_d10_11) rfl rfl  kk') ?_
  show own_Go p e below K T40 (mkF m 12 #[.val (.ref a), .val (.ref x)] [(.ref x), (.ref a)])
  refine own_go (fun _ kk' => XS.aloadN X40.here hx rfl (hb hby own_d10_12) rfl rfl  kk') ?_
  show own_Go p e below K T40 (mkF m 13 #[.val (.ref a), .val (.ref x)] [(.ref a), (.ref x), (.ref a)])
  obtain ⟨T41, X41, e41, st41⟩ := getF X40 hx hZ hown (host := "") (Or.inl (hw _ (List.mem_of_getElem? (i := 24) rfl))) Via.refl e40 (LS.2.2.1.other W40 (Or.inr (slot_ne (Or.inl (hw _ (List.mem_of_getElem? (i := 25) rfl))) (Or.inl (hw _ (List.mem_of_getElem? (i := 22) rfl))) (by decide) (t := (.array (.object "java/lang/Object"))) (t' := .int) (by decide) (by decide)))) (g := (mkF m 13 #[.val (.ref a), .val (.ref x)] [(.ref a), (.ref x), (.ref a)])) rfl rfl (hb hby own_d10_13)
  refine own_go st41 ?_
  show own_Go p e below K T41 (mkF m 16 #[.val (.ref a), .val (.ref x)] [(.ref ar), (.ref x), (.ref a)])
  refine own_go (fun _ kk' => XS.aloadN X41.here hx rfl (hb hby own_d10_16) rfl rfl  kk') ?_
  show own_Go p e below K T41 (mkF m 17 #[.val (.ref a), .val (.ref x)] [(.ref a), (.ref ar), (.ref x), (.ref a)])
  obtain ⟨T42, X42, e42, st42⟩ := getF X41 hx hZ hown (host := "") (Or.inl (hw _ (List.mem_of_getElem? (i := 39) rfl))) Via.refl e41 (LS.2.2.2.other W40 (Or.inr (slot_ne (Or.inl (hw _ (List.mem_of_getElem? (i := 40) rfl))) (Or.inl (hw _ (List.mem_of_getElem? (i := 22) rfl))) (by decide) (t := .int) (t' := .int) (by decide) (by decide)))) (g := (mkF m 17 #[.val (.ref a), .val (.ref x)] [(.ref a), (.ref ar), (.ref x), (.ref a)])) rfl rfl (hb hby own_d10_17)
  refine own_go st42 ?_
  show own_Go p e below K T42 (mkF m 20 #[.val (.ref a), .val (.ref x)] [(.int (1 : Int32)), (.ref ar), (.ref x), (.ref a)])
  refine own_callP X42 hx hZ (y := (⟨"java/util/ArrayList", "add", "(Ljava/lang/Object;[Ljava/lang/Object;I)V"⟩ : MethodName)) hown (hw _ (List.mem_of_getElem? (i := 70) rfl)) (hw _ (List.mem_of_getElem? (i := 71) rfl)) (hw _ (List.mem_of_getElem? (i := 73) rfl)) (hw _ (List.mem_of_getElem? (i := 72) rfl)) (hw _ (List.mem_of_getElem? (i := 2) rfl)) (hw _ (List.mem_of_getElem? (i := 74) rfl)) (by decide) e42 (rm := own_rmP2) (a := a) (LS.1.wr W40) (argsL := [(.ref x), (.ref ar), (.int (1 : Int32))]) (rest := []) (own_mP2 l Z a0 hw a ar o0 x kr (mc + (1 : Int32)) h40 n0 (Nat.le_trans Z0 (Keep.of_wr W40).1) ⟨(LS.1.wr W40), F40, (LS.2.2.1.other W40 (Or.inr (slot_ne (Or.inl (hw _ (List.mem_of_getElem? (i := 25) rfl))) (Or.inl (hw _ (List.mem_of_getElem? (i := 22) rfl))) (by decide) (t := (.array (.object "java/lang/Object"))) (t' := .int) (by decide) (by decide)))), (LS.2.2.2.other W40 (Or.inr (slot_ne (Or.inl (hw _ (List.mem_of_getElem? (i := 40) rfl))) (Or.inl (hw _ (List.mem_of_getElem? (i := 22) rfl))) (by decide) (t := .int) (t' := .int) (by decide) (by decide))))⟩ ga gr (VR.other W40 (Ne.symm (own_ne_arv LS.1 (hw _ (List.mem_of_getElem? (i := 1) rfl)) VR))) OR (Ix.wr W40)) (W := 0) (by decide) (by decide) (by decide) (by decide) (g := (mkF m 20 #[.val (.ref a), .val (.ref x)] [(.int (1 : Int32)), (.ref ar), (.ref x), (.ref a)])) rfl (by rw [hml]; rfl) (lenOf own_pd5 rfl) rfl (by show 2 * 0 + _ ≤ _; exact Nat.le_of_eq rfl) (hb hby own_d10_20) ?_
  intro v43 T43 L43 X43 hQ43
  obtain ⟨rfl, Nq43, Kq43, Lq43, Vq43⟩ := hQ43
  have N43 := Fr.app N40 Nq43
  show own_Go p e below K T43 (mkF m 23 #[.val (.ref a), .val (.ref x)] [])
  refine own_go (fun _ kk' => XS.iconst X43.here hx rfl (hb hby own_d10_23) kk') ?_
  show own_Go p e below K T43 (mkF m 24 #[.val (.ref a), .val (.ref x)] [(.int (1 : Int32))])
  exact own_retZ X43 hx hlk hK hret (by decide) (hb hby own_d10_24) (by decide) (by decide) ⟨rfl, N43, (((Keep.refl h0 [a, ar]).wr W40 (Or.inl (List.mem_of_getElem? (i := 0) rfl))).trans Kq43 (allS (Or.inl (List.mem_of_getElem? (i := 0) rfl)) (allS (Or.inl (List.mem_of_getElem? (i := 1) rfl)) all0))), ⟨Lq43.1, Lq43.2.1, Lq43.2.2.1, Lq43.2.2.2⟩, Vq43⟩
def own_Qb2 (Z : State) (a ar o0 o1 x : Addr) (kr : ClassId) (mc : Int32) (h0 : Heap) (n0 : Nat) (v : Option Value) (h : Heap) (L : List Loc) : Prop := v = none ∧ Fr n0 L ∧ Keep h0 h [a, ar] ∧ own_L Z h a (.ref ar) mc (3 : Int32) ∧ Arv Z h ar kr (.object "java/lang/Object") (10 : Int32) [(.ref o0), (.ref o1), (.ref x), .null, .null, .null, .null, .null, .null, .null] .null
def own_Qb2b (Z : State) (a ar o0 o1 x : Addr) (kr : ClassId) (mc : Int32) (h0 : Heap) (n0 : Nat) (v : Option Value) (h : Heap) (L : List Loc) : Prop := v = some (.int (1 : Int32)) ∧ Fr n0 L ∧ Keep h0 h [a, ar] ∧ own_L Z h a (.ref ar) mc (3 : Int32) ∧ Arv Z h ar kr (.object "java/lang/Object") (10 : Int32) [(.ref o0), (.ref o1), (.ref x), .null, .null, .null, .null, .null, .null, .null] .null
abbrev own_rmP3 : Room := { frames := 0, cells := 0, slots := 0, locals := 0 }
set_option maxRecDepth 65536 in
set_option maxHeartbeats 40000000 in
theorem own_mP3 (l : Launch) (Z : State) (a0 : Array Value) (hw : ∀ d ∈ tables_1, d.before a0 Z = true) (a ar o0 o1 x : Addr) (kr : ClassId) (mc : Int32) (h0 : Heap) (n0 : Nat) (Z0 : n0 ≤ h0.size) (LS : own_L Z h0 a (.ref ar) mc (2 : Int32)) (ga : n0 ≤ a) (gr : n0 ≤ ar) (VR : Arv Z h0 ar kr (.object "java/lang/Object") (10 : Int32) [(.ref o0), (.ref o1), .null, .null, .null, .null, .null, .null, .null, .null] .null) (OR : Ovr Z kr "java/lang/Object") (Ix : Ins Z h0 x "java/lang/Object" true) :
    own_Met l Z (⟨"java/util/ArrayList", "add", "(Ljava/lang/Object;[Ljava/lang/Object;I)V"⟩ : MethodName) jdk_38_method_24_code 4 none [] own_rmP3 #[(.ref a), (.ref x), (.ref ar), (.int (2 : Int32))] h0 (own_Qb2 Z a ar o0 o1 x kr mc h0 n0) := by
  refine own_body (plainFor_of_name (by first | (simp [plainName, overriddenIn]; done) | decide +kernel)) (g := fun m => mkF m 0 #[.val (.ref a), .val (.ref x), .val (.ref ar), .val (.int (2 : Int32))] []) (fun m => by first | (simp [entryFrame, mkF, argsToLocals, Value.category]; done) | rfl) ?_
  intro p e s m A below meth c T0 K X0 hx hby hml hown hnm hret hlk hZ e0 hK
  have N0 := Fr.nil n0
  show own_Go p e below K T0 (mkF m 0 #[.val (.ref a), .val (.ref x), .val (.ref ar), .val (.int (2 : Int32))] [])
  refine own_go (fun _ kk' => XS.iloadN X0.here hx rfl (hb hby own_d11_0) rfl  kk') ?_
  show own_Go p e below K T0 (mkF m 1 #[.val (.ref a), .val (.ref x), .val (.ref ar), .val (.int (2 : Int32))] [(.int (2 : Int32))])
  refine own_go (fun _ kk' => XS.aloadN X0.here hx rfl (hb hby own_d11_1) rfl rfl  kk') ?_
  show own_Go p e below K T0 (mkF m 2 #[.val (.ref a), .val (.ref x), .val (.ref ar), .val (.int (2 : Int32))] [(.ref ar), (.int (2 : Int32))])
  obtain ⟨cl44, Ar44, -, S44, Nn44, -, -⟩ := (id VR)
  refine own_go (fun tt' kk' => X0.arraylength hx (by rw [e0]; exact Ar44.1) (State.isArrayOf_alike hZ.alike Ar44.2.1) (g := (mkF m 2 #[.val (.ref a), .val (.ref x), .val (.ref ar), .val (.int (2 : Int32))] [(.ref ar), (.int (2 : Int32))])) rfl rfl (hb hby own_d11_2) tt' kk') ?_
  rw [len_of S44 Nn44]
  show own_Go p e below K T0 (mkF m 3 #[.val (.ref a), .val (.ref x), .val (.ref ar), .val (.int (2 : Int32))] [(.int (10 : Int32)), (.int (2 : Int32))])
  refine own_go (fun _ kk' => XS.icmpYes X0.here hx rfl (pc0 := 3) (pc' := 11) rfl (hb hby own_d11_3) rfl (feq ((by decide) : ¬ ((2 : Int32) = (10 : Int32)))).2 (by decide) (by decide) kk') ?_
  show own_Go p e below K T0 (mkF m 11 #[.val (.ref a), .val (.ref x), .val (.ref ar), .val (.int (2 : Int32))] [])
  refine own_go (fun _ kk' => XS.aloadN X0.here hx rfl (hb hby own_d11_11) rfl rfl  kk') ?_
  show own_Go p e below K T0 (mkF m 12 #[.val (.ref a), .val (.ref x), .val (.ref ar), .val (.int (2 : Int32))] [(.ref ar)])
  refine own_go (fun _ kk' => XS.iloadN X0.here hx rfl (hb hby own_d11_12) rfl  kk') ?_
  show own_Go p e below K T0 (mkF m 13 #[.val (.ref a), .val (.ref x), .val (.ref ar), .val (.int (2 : Int32))] [(.int (2 : Int32)), (.ref ar)])
  refine own_go (fun _ kk' => XS.aloadN X0.here hx rfl (hb hby own_d11_13) rfl rfl  kk') ?_
  show own_Go p e below K T0 (mkF m 14 #[.val (.ref a), .val (.ref x), .val (.ref ar), .val (.int (2 : Int32))] [(.ref x), (.int (2 : Int32)), (.ref ar)])
  obtain ⟨cl45, Ar45, q45, S45, Nn45, H45, G45⟩ := (id VR)
  have hin45 : ¬ ((2 : Int32) < 0 ∨ cl45.slots.size ≤ ((2 : Int32)).toNatClampNeg) := inb_of S45 ⟨by decide, by decide⟩
  obtain ⟨T45, h45, X45, e45, W45, st45⟩ := stR X0 hx hZ e0 Ar45 (j := (2 : Int32)) hin45 rfl (Sto.ofV Ar45 q45 OR Ix) (g := (mkF m 14 #[.val (.ref a), .val (.ref x), .val (.ref ar), .val (.int (2 : Int32))] [(.ref x), (.int (2 : Int32)), (.ref ar)])) rfl rfl (hb hby own_d11_14)
  have V45 : Arv Z h45 ar kr (.object "java/lang/Object") (10 : Int32) [(.ref o0), (.ref o1), (.ref x), .null, .null, .null, .null, .null, .null, .null] .null := Arv.set Ar45 q45 S45 Nn45 H45 G45 rfl W45 2 rfl (Nat.le_of_ble_eq_true rfl)
  have N45 := Fr.snoc X45 N0 gr
  refine own_go st45 ?_
  show own_Go p e below K T45 (mkF m 15 #[.val (.ref a), .val (.ref x), .val (.ref ar), .val (.int (2 : Int32))] [])
  refine own_go (fun _ kk' => XS.aloadN X45.here hx rfl (hb hby own_d11_15) rfl rfl  kk') ?_
  show own_Go p e below K T45 (mkF m 16 #[.val (.ref a), .val (.ref x), .val (.ref ar), .val (.int (2 : Int32))] [(.ref a)])
  refine own_go (fun _ kk' => XS.iloadN X45.here hx rfl (hb hby own_d11_16) rfl  kk') ?_
  show own_Go p e below K T45 (mkF m 17 #[.val (.ref a), .val (.ref x), .val (.ref ar), .val (.int (2 : Int32))] [(.int (2 : Int32)), (.ref a)])
  refine own_go (fun _ kk' => XS.iconst X45.here hx rfl (hb hby own_d11_17) kk') ?_
  show own_Go p e below K T45 (mkF m 18 #[.val (.ref a), .val (.ref x), .val (.ref ar), .val (.int (2 : Int32))] [(.int (1 : Int32)), (.int (2 : Int32)), (.ref a)])
  refine own_go (fun _ kk' => XS.iadd X45.here hx rfl (hb hby own_d11_18) rfl kk') ?_
  show own_Go p e below K T45 (mkF m 19 #[.val (.ref a), .val (.ref x), .val (.ref ar), .val (.int (2 : Int32))] [(.int (3 : Int32)), (.ref a)])
  obtain ⟨T46, h46, X46, e46, W46, st46⟩ := putF X45 hx hZ hown (host := "") (Or.inl (hw _ (List.mem_of_getElem? (i := 39) rfl))) Via.refl e45 (LS.2.2.2.other W45 (Or.inl (own_ne_arv (LS.1.wr W45) (hw _ (List.mem_of_getElem? (i := 1) rfl)) V45))) (LS.1.wr W45) (Or.inl (hw _ (List.mem_of_getElem? (i := 40) rfl))) (hw _ (List.mem_of_getElem? (i := 1) rfl)) (ty := .int) (by decide) rfl rfl (g := (mkF m 19 #[.val (.ref a), .val (.ref x), .val (.ref ar), .val (.int (2 : Int32))] [(.int (3 : Int32)), (.ref a)])) rfl rfl (hb hby own_d11_19)
  have F46 := (LS.2.2.2.other W45 (Or.inl (own_ne_arv (LS.1.wr W45) (hw _ (List.mem_of_getElem? (i := 1) rfl)) V45))).same W46
  have N46 := Fr.snoc X46 N45 ga
  refine own_go st46 ?_
  show own_Go p e below K T46 (mkF m 22 #[.val (.ref a), .val (.ref x), .val (.ref ar), .val (.int (2 : Int32))] [])
  exact own_retV X46 hx hlk hK hret (hb hby own_d11_22) (by decide) (by decide) (by rw [e46]; exact ⟨rfl, N46, (((Keep.refl h0 [a, ar]).wr W45 (Or.inl (List.mem_of_getElem? (i := 1) rfl))).wr W46 (Or.inl (List.mem_of_getElem? (i := 0) rfl))), ⟨((LS.1.wr W45).wr W46), ((LS.2.1.other W45 (Or.inl (own_ne_arv (LS.1.wr W45) (hw _ (List.mem_of_getElem? (i := 1) rfl)) V45))).other W46 (Or.inr (slot_ne (Or.inl (hw _ (List.mem_of_getElem? (i := 22) rfl))) (Or.inl (hw _ (List.mem_of_getElem? (i := 40) rfl))) (by decide) (t := .int) (t' := .int) (by decide) (by decide)))), ((LS.2.2.1.other W45 (Or.inl (own_ne_arv (LS.1.wr W45) (hw _ (List.mem_of_getElem? (i := 1) rfl)) V45))).other W46 (Or.inr (slot_ne (Or.inl (hw _ (List.mem_of_getElem? (i := 25) rfl))) (Or.inl (hw _ (List.mem_of_getElem? (i := 40) rfl))) (by decide) (t := (.array (.object "java/lang/Object"))) (t' := .int) (by decide) (by decide)))), F46⟩, (V45.other W46 (Ne.symm (own_ne_arv (LS.1.wr W45) (hw _ (List.mem_of_getElem? (i := 1) rfl)) V45)))⟩)
abbrev own_rmA3 : Room := { frames := 1, cells := 0, slots := 0, locals := 15 }
set_option maxRecDepth 65536 in
set_option maxHeartbeats 40000000 in
theorem own_mA3 (l : Launch) (Z : State) (a0 : Array Value) (hw : ∀ d ∈ tables_1, d.before a0 Z = true) (a ar o0 o1 x : Addr) (kr : ClassId) (mc : Int32) (h0 : Heap) (n0 : Nat) (Z0 : n0 ≤ h0.size) (LS : own_L Z h0 a (.ref ar) mc (2 : Int32)) (ga : n0 ≤ a) (gr : n0 ≤ ar) (VR : Arv Z h0 ar kr (.object "java/lang/Object") (10 : Int32) [(.ref o0), (.ref o1), .null, .null, .null, .null, .null, .null, .null, .null] .null) (OR : Ovr Z kr "java/lang/Object") (Ix : Ins Z h0 x "java/lang/Object" true) :
    own_Met l Z (⟨"java/util/ArrayList", "add", "(Ljava/lang/Object;)Z"⟩ : MethodName) jdk_38_method_25_code 2 (some .boolean) [] own_rmA3 #[(.ref a), (.ref x)] h0 (own_Qb2b Z a ar o0 o1 x kr (mc + (1 : Int32)) h0 n0) := by
  refine own_body (plainFor_of_name (by first | (simp [plainName, overriddenIn]; done) | decide +kernel)) (g := fun m => mkF m 0 #[.val (.ref a), .val (.ref x)] []) (fun m => by first | (simp [entryFrame, mkF, argsToLocals, Value.category]; done) | rfl) ?_
  intro p e s m A below meth c T0 K X0 hx hby hml hown hnm hret hlk hZ e0 hK
  have N0 := Fr.nil n0
  show own_Go p e below K T0 (mkF m 0 #[.val (.ref a), .val (.ref x)] [])
  refine own_go (fun _ kk' => XS.aloadN X0.here hx rfl (hb hby own_d10_0) rfl rfl  kk') ?_
  show own_Go p e below K T0 (mkF m 1 #[.val (.ref a), .val (.ref x)] [(.ref a)])
  refine own_go (fun _ kk' => XS.dup X0.here hx rfl (hb hby own_d10_1) rfl rfl kk') ?_
  show own_Go p e below K T0 (mkF m 2 #[.val (.ref a), .val (.ref x)] [(.ref a), (.ref a)])
  obtain ⟨T47, X47, e47, st47⟩ := getF X0 hx hZ hown (host := "") (Or.inl (hw _ (List.mem_of_getElem? (i := 68) rfl))) (Via.of (hw _ (List.mem_of_getElem? (i := 69) rfl))) e0 LS.2.1 (g := (mkF m 2 #[.val (.ref a), .val (.ref x)] [(.ref a), (.ref a)])) rfl rfl (hb hby own_d10_2)
  refine own_go st47 ?_
  show own_Go p e below K T47 (mkF m 5 #[.val (.ref a), .val (.ref x)] [(.int mc), (.ref a)])
  refine own_go (fun _ kk' => XS.iconst X47.here hx rfl (hb hby own_d10_5) kk') ?_
  show own_Go p e below K T47 (mkF m 6 #[.val (.ref a), .val (.ref x)] [(.int (1 : Int32)), (.int mc), (.ref a)])
  refine own_go (fun _ kk' => XS.iadd X47.here hx rfl (hb hby own_d10_6) rfl kk') ?_
  show own_Go p e below K T47 (mkF m 7 #[.val (.ref a), .val (.ref x)] [(.int (mc + (1 : Int32))), (.ref a)])
  obtain ⟨T48, h48, X48, e48, W48, st48⟩ := putF X47 hx hZ hown (host := "") (Or.inl (hw _ (List.mem_of_getElem? (i := 68) rfl))) (Via.of (hw _ (List.mem_of_getElem? (i := 69) rfl))) e47 LS.2.1 LS.1 (Or.inl (hw _ (List.mem_of_getElem? (i := 22) rfl))) (hw _ (List.mem_of_getElem? (i := 1) rfl)) (ty := .int) (by decide) rfl rfl (g := (mkF m 7 #[.val (.ref a), .val (.ref x)] [(.int (mc + (1 : Int32))), (.ref a)])) rfl rfl (hb hby own_d10_7)
  have F48 := LS.2.1.same W48
  have N48 := Fr.snoc X48 N0 ga
  refine own_go st48 ?_
  show own_Go p e below K T48 (mkF m 10 #[.val (.ref a), .val (.ref x)] [])
  refine own_go (fun _ kk' => XS.aloadN X48.here hx rfl (hb hby own_d10_10) rfl rfl  kk') ?_
  show own_Go p e below K T48 (mkF m 11 #[.val (.ref a), .val (.ref x)] [(.ref a)])
  refine own_go (fun _ kk' => XS.aloadN X48.here hx rfl (hb hby own_d10_11) rfl rfl  kk') ?_
  show own_Go p e below K T48 (mkF m 12 #[.val (.ref a), .val (.ref x)] [(.ref x), (.ref a)])
  refine own_go (fun _ kk' => XS.aloadN X48.here hx rfl (hb hby own_d10_12) rfl rfl  kk') ?_
  show own_Go p e below K T48 (mkF m 13 #[.val (.ref a), .val (.ref x)] [(.ref a), (.ref x), (.ref a)])
  obtain ⟨T49, X49, e49, st49⟩ := getF X48 hx hZ hown (host := "") (Or.inl (hw _ (List.mem_of_getElem? (i := 24) rfl))) Via.refl e48 (LS.2.2.1.other W48 (Or.inr (slot_ne (Or.inl (hw _ (List.mem_of_getElem? (i := 25) rfl))) (Or.inl (hw _ (List.mem_of_getElem? (i := 22) rfl))) (by decide) (t := (.array (.object "java/lang/Object"))) (t' := .int) (by decide) (by decide)))) (g := (mkF m 13 #[.val (.ref a), .val (.ref x)] [(.ref a), (.ref x), (.ref a)])) rfl rfl (hb hby own_d10_13)
  refine own_go st49 ?_
  show own_Go p e below K T49 (mkF m 16 #[.val (.ref a), .val (.ref x)] [(.ref ar), (.ref x), (.ref a)])
  refine own_go (fun _ kk' => XS.aloadN X49.here hx rfl (hb hby own_d10_16) rfl rfl  kk') ?_
  show own_Go p e below K T49 (mkF m 17 #[.val (.ref a), .val (.ref x)] [(.ref a), (.ref ar), (.ref x), (.ref a)])
  obtain ⟨T50, X50, e50, st50⟩ := getF X49 hx hZ hown (host := "") (Or.inl (hw _ (List.mem_of_getElem? (i := 39) rfl))) Via.refl e49 (LS.2.2.2.other W48 (Or.inr (slot_ne (Or.inl (hw _ (List.mem_of_getElem? (i := 40) rfl))) (Or.inl (hw _ (List.mem_of_getElem? (i := 22) rfl))) (by decide) (t := .int) (t' := .int) (by decide) (by decide)))) (g := (mkF m 17 #[.val (.ref a), .val (.ref x)] [(.ref a), (.ref ar), (.ref x), (.ref a)])) rfl rfl (hb hby own_d10_17)
  refine own_go st50 ?_
  show own_Go p e below K T50 (mkF m 20 #[.val (.ref a), .val (.ref x)] [(.int (2 : Int32)), (.ref ar), (.ref x), (.ref a)])
  refine own_callP X50 hx hZ (y := (⟨"java/util/ArrayList", "add", "(Ljava/lang/Object;[Ljava/lang/Object;I)V"⟩ : MethodName)) hown (hw _ (List.mem_of_getElem? (i := 70) rfl)) (hw _ (List.mem_of_getElem? (i := 71) rfl)) (hw _ (List.mem_of_getElem? (i := 73) rfl)) (hw _ (List.mem_of_getElem? (i := 72) rfl)) (hw _ (List.mem_of_getElem? (i := 2) rfl)) (hw _ (List.mem_of_getElem? (i := 74) rfl)) (by decide) e50 (rm := own_rmP3) (a := a) (LS.1.wr W48) (argsL := [(.ref x), (.ref ar), (.int (2 : Int32))]) (rest := []) (own_mP3 l Z a0 hw a ar o0 o1 x kr (mc + (1 : Int32)) h48 n0 (Nat.le_trans Z0 (Keep.of_wr W48).1) ⟨(LS.1.wr W48), F48, (LS.2.2.1.other W48 (Or.inr (slot_ne (Or.inl (hw _ (List.mem_of_getElem? (i := 25) rfl))) (Or.inl (hw _ (List.mem_of_getElem? (i := 22) rfl))) (by decide) (t := (.array (.object "java/lang/Object"))) (t' := .int) (by decide) (by decide)))), (LS.2.2.2.other W48 (Or.inr (slot_ne (Or.inl (hw _ (List.mem_of_getElem? (i := 40) rfl))) (Or.inl (hw _ (List.mem_of_getElem? (i := 22) rfl))) (by decide) (t := .int) (t' := .int) (by decide) (by decide))))⟩ ga gr (VR.other W48 (Ne.symm (own_ne_arv LS.1 (hw _ (List.mem_of_getElem? (i := 1) rfl)) VR))) OR (Ix.wr W48)) (W := 0) (by decide) (by decide) (by decide) (by decide) (g := (mkF m 20 #[.val (.ref a), .val (.ref x)] [(.int (2 : Int32)), (.ref ar), (.ref x), (.ref a)])) rfl (by rw [hml]; rfl) (lenOf own_pd5 rfl) rfl (by show 2 * 0 + _ ≤ _; exact Nat.le_of_eq rfl) (hb hby own_d10_20) ?_
  intro v51 T51 L51 X51 hQ51
  obtain ⟨rfl, Nq51, Kq51, Lq51, Vq51⟩ := hQ51
  have N51 := Fr.app N48 Nq51
  show own_Go p e below K T51 (mkF m 23 #[.val (.ref a), .val (.ref x)] [])
  refine own_go (fun _ kk' => XS.iconst X51.here hx rfl (hb hby own_d10_23) kk') ?_
  show own_Go p e below K T51 (mkF m 24 #[.val (.ref a), .val (.ref x)] [(.int (1 : Int32))])
  exact own_retZ X51 hx hlk hK hret (by decide) (hb hby own_d10_24) (by decide) (by decide) ⟨rfl, N51, (((Keep.refl h0 [a, ar]).wr W48 (Or.inl (List.mem_of_getElem? (i := 0) rfl))).trans Kq51 (allS (Or.inl (List.mem_of_getElem? (i := 0) rfl)) (allS (Or.inl (List.mem_of_getElem? (i := 1) rfl)) all0))), ⟨Lq51.1, Lq51.2.1, Lq51.2.2.1, Lq51.2.2.2⟩, Vq51⟩
def own_Qv (r : Value) (h0 : Heap) (n0 : Nat) (v : Option Value) (h : Heap) (L : List Loc) : Prop := v = some r ∧ Fr n0 L ∧ h = h0
abbrev own_rmCK : Room := { frames := 0, cells := 0, slots := 0, locals := 0 }
set_option maxRecDepth 65536 in
set_option maxHeartbeats 40000000 in
theorem own_mCK (l : Launch) (Z : State) (a0 : Array Value) (hw : ∀ d ∈ tables_1, d.before a0 Z = true) (i sz : Int32) (h0 : Heap) (n0 : Nat) (Z0 : n0 ≤ h0.size) (hi0 : ¬ i < (0 : Int32)) (his : i < sz) :
    own_Met l Z (⟨"jdk/internal/util/Preconditions", "checkIndex", "(IILjava/util/function/BiFunction;)I"⟩ : MethodName) jdk_41_method_11_code 3 (some .int) [] own_rmCK #[(.int i), (.int sz), .null] h0 (own_Qv (.int i) h0 n0) := by
  refine own_body (plainFor_of_name (by first | (simp [plainName, overriddenIn]; done) | decide +kernel)) (g := fun m => mkF m 0 #[.val (.int i), .val (.int sz), .val .null] []) (fun m => by first | (simp [entryFrame, mkF, argsToLocals, Value.category]; done) | rfl) ?_
  intro p e s m A below meth c T0 K X0 hx hby hml hown hnm hret hlk hZ e0 hK
  have N0 := Fr.nil n0
  show own_Go p e below K T0 (mkF m 0 #[.val (.int i), .val (.int sz), .val .null] [])
  refine own_go (fun _ kk' => XS.iloadN X0.here hx rfl (hb hby own_d17_0) rfl  kk') ?_
  show own_Go p e below K T0 (mkF m 1 #[.val (.int i), .val (.int sz), .val .null] [(.int i)])
  refine own_go (fun _ kk' => XS.ifNo X0.here hx rfl (hb hby own_d17_1) rfl ((if0 _ _).trans (flt (hi0 : ¬ (i < (0 : Int32)))).1) kk') ?_
  show own_Go p e below K T0 (mkF m 4 #[.val (.int i), .val (.int sz), .val .null] [])
  refine own_go (fun _ kk' => XS.iloadN X0.here hx rfl (hb hby own_d17_4) rfl  kk') ?_
  show own_Go p e below K T0 (mkF m 5 #[.val (.int i), .val (.int sz), .val .null] [(.int i)])
  refine own_go (fun _ kk' => XS.iloadN X0.here hx rfl (hb hby own_d17_5) rfl  kk') ?_
  show own_Go p e below K T0 (mkF m 6 #[.val (.int i), .val (.int sz), .val .null] [(.int sz), (.int i)])
  refine own_go (fun _ kk' => XS.icmpYes X0.here hx rfl (pc0 := 6) (pc' := 16) rfl (hb hby own_d17_6) rfl (tlt (his : i < sz)).1 (by decide) (by decide) kk') ?_
  show own_Go p e below K T0 (mkF m 16 #[.val (.int i), .val (.int sz), .val .null] [])
  refine own_go (fun _ kk' => XS.iloadN X0.here hx rfl (hb hby own_d17_16) rfl  kk') ?_
  show own_Go p e below K T0 (mkF m 17 #[.val (.int i), .val (.int sz), .val .null] [(.int i)])
  exact own_retI X0 hx hlk hK hret (hb hby own_d17_17) (by decide) (by decide) (by rw [e0]; exact ⟨rfl, N0, rfl⟩)
abbrev own_rmOC : Room := { frames := 1, cells := 0, slots := 0, locals := 14 }
set_option maxRecDepth 65536 in
set_option maxHeartbeats 40000000 in
theorem own_mOC (l : Launch) (Z : State) (a0 : Array Value) (hw : ∀ d ∈ tables_1, d.before a0 Z = true) (i sz : Int32) (h0 : Heap) (n0 : Nat) (Z0 : n0 ≤ h0.size) (hi0 : ¬ i < (0 : Int32)) (his : i < sz) :
    own_Met l Z (⟨"java/util/Objects", "checkIndex", "(II)I"⟩ : MethodName) jdk_31_method_17_code 2 (some .int) [] own_rmOC #[(.int i), (.int sz)] h0 (own_Qv (.int i) h0 n0) := by
  refine own_body (plainFor_of_name (by first | (simp [plainName, overriddenIn]; done) | decide +kernel)) (g := fun m => mkF m 0 #[.val (.int i), .val (.int sz)] []) (fun m => by first | (simp [entryFrame, mkF, argsToLocals, Value.category]; done) | rfl) ?_
  intro p e s m A below meth c T0 K X0 hx hby hml hown hnm hret hlk hZ e0 hK
  have N0 := Fr.nil n0
  show own_Go p e below K T0 (mkF m 0 #[.val (.int i), .val (.int sz)] [])
  refine own_go (fun _ kk' => XS.iloadN X0.here hx rfl (hb hby own_d16_0) rfl  kk') ?_
  show own_Go p e below K T0 (mkF m 1 #[.val (.int i), .val (.int sz)] [(.int i)])
  refine own_go (fun _ kk' => XS.iloadN X0.here hx rfl (hb hby own_d16_1) rfl  kk') ?_
  show own_Go p e below K T0 (mkF m 2 #[.val (.int i), .val (.int sz)] [(.int sz), (.int i)])
  refine own_go (fun _ kk' => XS.aconstNull X0.here hx rfl (hb hby own_d16_2) kk') ?_
  show own_Go p e below K T0 (mkF m 3 #[.val (.int i), .val (.int sz)] [.null, (.int sz), (.int i)])
  refine own_callS X0 hx hZ (y := (⟨"jdk/internal/util/Preconditions", "checkIndex", "(IILjava/util/function/BiFunction;)I"⟩ : MethodName)) hown (hw _ (List.mem_of_getElem? (i := 104) rfl)) (hw _ (List.mem_of_getElem? (i := 105) rfl)) (hw _ (List.mem_of_getElem? (i := 106) rfl)) (hw _ (List.mem_of_getElem? (i := 107) rfl)) (by decide) e0 (rm := own_rmCK) (argsL := [(.int i), (.int sz), .null]) (rest := []) (own_mCK l Z a0 hw i sz h0 n0 Z0 hi0 his) (W := 0) (by decide) (by decide) (by decide) (by decide) (g := (mkF m 3 #[.val (.int i), .val (.int sz)] [.null, (.int sz), (.int i)])) rfl (by rw [hml]; rfl) (lenOf own_pd6 rfl) rfl (by show 2 * 0 + _ ≤ _; exact Nat.le_of_eq rfl) (hb hby own_d16_3) ?_
  intro v52 T52 L52 X52 hQ52
  obtain ⟨rfl, Nq52, e52⟩ := hQ52
  have N52 := Fr.app N0 Nq52
  show own_Go p e below K T52 (mkF m 6 #[.val (.int i), .val (.int sz)] [(.int i)])
  exact own_retI X52 hx hlk hK hret (hb hby own_d16_6) (by decide) (by decide) (by rw [e52]; exact ⟨rfl, N52, rfl⟩)
abbrev own_rmED : Room := { frames := 0, cells := 0, slots := 0, locals := 0 }
set_option maxRecDepth 65536 in
set_option maxHeartbeats 40000000 in
theorem own_mED (l : Launch) (Z : State) (a0 : Array Value) (hw : ∀ d ∈ tables_1, d.before a0 Z = true) (a ar x : Addr) (kr : ClassId) (vs : List Value) (i mc sz : Int32) (h0 : Heap) (n0 : Nat) (Z0 : n0 ≤ h0.size) (LS : own_L Z h0 a (.ref ar) mc sz) (VR : Arv Z h0 ar kr (.object "java/lang/Object") (10 : Int32) vs .null) (hi0 : ¬ i < (0 : Int32)) (hi9 : i < (10 : Int32)) (hv : vs.getD i.toNatClampNeg .null = .ref x) :
    own_Met l Z (⟨"java/util/ArrayList", "elementData", "(I)Ljava/lang/Object;"⟩ : MethodName) jdk_38_method_18_code 2 (some (.object "java/lang/Object")) [] own_rmED #[(.ref a), (.int i)] h0 (own_Qv (.ref x) h0 n0) := by
  refine own_body (plainFor_of_name (by first | (simp [plainName, overriddenIn]; done) | decide +kernel)) (g := fun m => mkF m 0 #[.val (.ref a), .val (.int i)] []) (fun m => by first | (simp [entryFrame, mkF, argsToLocals, Value.category]; done) | rfl) ?_
  intro p e s m A below meth c T0 K X0 hx hby hml hown hnm hret hlk hZ e0 hK
  have N0 := Fr.nil n0
  show own_Go p e below K T0 (mkF m 0 #[.val (.ref a), .val (.int i)] [])
  refine own_go (fun _ kk' => XS.aloadN X0.here hx rfl (hb hby own_d18_0) rfl rfl  kk') ?_
  show own_Go p e below K T0 (mkF m 1 #[.val (.ref a), .val (.int i)] [(.ref a)])
  obtain ⟨T53, X53, e53, st53⟩ := getF X0 hx hZ hown (host := "") (Or.inl (hw _ (List.mem_of_getElem? (i := 24) rfl))) Via.refl e0 LS.2.2.1 (g := (mkF m 1 #[.val (.ref a), .val (.int i)] [(.ref a)])) rfl rfl (hb hby own_d18_1)
  refine own_go st53 ?_
  show own_Go p e below K T53 (mkF m 4 #[.val (.ref a), .val (.int i)] [(.ref ar)])
  refine own_go (fun _ kk' => XS.iloadN X53.here hx rfl (hb hby own_d18_4) rfl  kk') ?_
  show own_Go p e below K T53 (mkF m 5 #[.val (.ref a), .val (.int i)] [(.int i), (.ref ar)])
  obtain ⟨cl, Ar, -, S, Nn, H, -⟩ := VR
  have hin : ¬ (i < 0 ∨ cl.slots.size ≤ i.toNatClampNeg) := inb_of S ⟨hi0, hi9⟩
  refine own_go (fun tt' kk' => X53.aaload hx (j := i) (v := .ref x) (by rw [e53]; exact Ar.1) (State.isArrayOf_alike hZ.alike Ar.2.1) rfl Ar.2.2 hin (Has.at H hin hv) (g := (mkF m 5 #[.val (.ref a), .val (.int i)] [(.int i), (.ref ar)])) rfl rfl (hb hby own_d18_5) tt' kk') ?_
  show own_Go p e below K T53 (mkF m 6 #[.val (.ref a), .val (.int i)] [(.ref x)])
  exact own_retR X53 hx hlk hK hret rfl rfl (hb hby own_d18_6) (by decide) (by decide) (by rw [e53]; exact ⟨rfl, N0, rfl⟩)
abbrev own_rmGT : Room := { frames := 2, cells := 0, slots := 0, locals := 27 }
set_option maxRecDepth 65536 in
set_option maxHeartbeats 40000000 in
theorem own_mGT (l : Launch) (Z : State) (a0 : Array Value) (hw : ∀ d ∈ tables_1, d.before a0 Z = true) (a ar x : Addr) (kr : ClassId) (vs : List Value) (i mc sz : Int32) (h0 : Heap) (n0 : Nat) (Z0 : n0 ≤ h0.size) (LS : own_L Z h0 a (.ref ar) mc sz) (VR : Arv Z h0 ar kr (.object "java/lang/Object") (10 : Int32) vs .null) (hi0 : ¬ i < (0 : Int32)) (hi9 : i < (10 : Int32)) (hv : vs.getD i.toNatClampNeg .null = .ref x) (his : i < sz) :
    own_Met l Z (⟨"java/util/ArrayList", "get", "(I)Ljava/lang/Object;"⟩ : MethodName) jdk_38_method_20_code 2 (some (.object "java/lang/Object")) [] own_rmGT #[(.ref a), (.int i)] h0 (own_Qv (.ref x) h0 n0) := by
  refine own_body (plainFor_of_name (by first | (simp [plainName, overriddenIn]; done) | decide +kernel)) (g := fun m => mkF m 0 #[.val (.ref a), .val (.int i)] []) (fun m => by first | (simp [entryFrame, mkF, argsToLocals, Value.category]; done) | rfl) ?_
  intro p e s m A below meth c T0 K X0 hx hby hml hown hnm hret hlk hZ e0 hK
  have N0 := Fr.nil n0
  show own_Go p e below K T0 (mkF m 0 #[.val (.ref a), .val (.int i)] [])
  refine own_go (fun _ kk' => XS.iloadN X0.here hx rfl (hb hby own_d15_0) rfl  kk') ?_
  show own_Go p e below K T0 (mkF m 1 #[.val (.ref a), .val (.int i)] [(.int i)])
  refine own_go (fun _ kk' => XS.aloadN X0.here hx rfl (hb hby own_d15_1) rfl rfl  kk') ?_
  show own_Go p e below K T0 (mkF m 2 #[.val (.ref a), .val (.int i)] [(.ref a), (.int i)])
  obtain ⟨T54, X54, e54, st54⟩ := getF X0 hx hZ hown (host := "") (Or.inl (hw _ (List.mem_of_getElem? (i := 39) rfl))) Via.refl e0 LS.2.2.2 (g := (mkF m 2 #[.val (.ref a), .val (.int i)] [(.ref a), (.int i)])) rfl rfl (hb hby own_d15_2)
  refine own_go st54 ?_
  show own_Go p e below K T54 (mkF m 5 #[.val (.ref a), .val (.int i)] [(.int sz), (.int i)])
  refine own_callS X54 hx hZ (y := (⟨"java/util/Objects", "checkIndex", "(II)I"⟩ : MethodName)) hown (hw _ (List.mem_of_getElem? (i := 100) rfl)) (hw _ (List.mem_of_getElem? (i := 101) rfl)) (hw _ (List.mem_of_getElem? (i := 102) rfl)) (hw _ (List.mem_of_getElem? (i := 103) rfl)) (by decide) e54 (rm := own_rmOC) (argsL := [(.int i), (.int sz)]) (rest := []) (own_mOC l Z a0 hw i sz h0 n0 Z0 hi0 his) (W := 0) (by decide) (by decide) (by decide) (by decide) (g := (mkF m 5 #[.val (.ref a), .val (.int i)] [(.int sz), (.int i)])) rfl (by rw [hml]; rfl) (lenOf own_pd2 rfl) rfl (by show 2 * 0 + _ ≤ _; exact Nat.le_of_eq rfl) (hb hby own_d15_5) ?_
  intro v55 T55 L55 X55 hQ55
  obtain ⟨rfl, Nq55, e55⟩ := hQ55
  have N55 := Fr.app N0 Nq55
  show own_Go p e below K T55 (mkF m 8 #[.val (.ref a), .val (.int i)] [(.int i)])
  refine own_go (fun _ kk' => XS.pop X55.here hx rfl (hb hby own_d15_8) rfl rfl kk') ?_
  show own_Go p e below K T55 (mkF m 9 #[.val (.ref a), .val (.int i)] [])
  refine own_go (fun _ kk' => XS.aloadN X55.here hx rfl (hb hby own_d15_9) rfl rfl  kk') ?_
  show own_Go p e below K T55 (mkF m 10 #[.val (.ref a), .val (.int i)] [(.ref a)])
  refine own_go (fun _ kk' => XS.iloadN X55.here hx rfl (hb hby own_d15_10) rfl  kk') ?_
  show own_Go p e below K T55 (mkF m 11 #[.val (.ref a), .val (.int i)] [(.int i), (.ref a)])
  refine own_callV X55 hx hZ (C := "java/util/ArrayList") (y := (⟨"java/util/ArrayList", "elementData", "(I)Ljava/lang/Object;"⟩ : MethodName)) (z := (⟨"java/util/ArrayList", "elementData", "(I)Ljava/lang/Object;"⟩ : MethodName)) hown (hw _ (List.mem_of_getElem? (i := 108) rfl)) (hw _ (List.mem_of_getElem? (i := 109) rfl)) (notFace_of_selects (args := #[]) (mvT hZ (hw _ (List.mem_of_getElem? (i := 111) rfl)))) (hw _ (List.mem_of_getElem? (i := 111) rfl)) (hw _ (List.mem_of_getElem? (i := 110) rfl)) (hw _ (List.mem_of_getElem? (i := 2) rfl)) (hw _ (List.mem_of_getElem? (i := 112) rfl)) (by decide) e55 (rm := own_rmED) (a := a) LS.1 (argsL := [(.int i)]) (rest := []) (own_mED l Z a0 hw a ar x kr vs i mc sz h0 n0 Z0 LS VR hi0 hi9 hv) (W := 0) (by decide) (by decide) (by decide) (by decide) (g := (mkF m 11 #[.val (.ref a), .val (.int i)] [(.int i), (.ref a)])) rfl (by rw [hml]; rfl) (lenOf own_pd7 rfl) rfl (by show 2 * 0 + _ ≤ _; exact Nat.le_of_eq rfl) (hb hby own_d15_11) ?_
  intro v56 T56 L56 X56 hQ56
  obtain ⟨rfl, Nq56, e56⟩ := hQ56
  have N56 := Fr.app N55 Nq56
  show own_Go p e below K T56 (mkF m 14 #[.val (.ref a), .val (.int i)] [(.ref x)])
  exact own_retR X56 hx hlk hK hret rfl rfl (hb hby own_d15_14) (by decide) (by decide) (by rw [e56]; exact ⟨rfl, N56, rfl⟩)
abbrev own_rmSZ : Room := { frames := 0, cells := 0, slots := 0, locals := 0 }
set_option maxRecDepth 65536 in
set_option maxHeartbeats 40000000 in
theorem own_mSZ (l : Launch) (Z : State) (a0 : Array Value) (hw : ∀ d ∈ tables_1, d.before a0 Z = true) (a : Addr) (ed : Value) (mc sz : Int32) (h0 : Heap) (n0 : Nat) (Z0 : n0 ≤ h0.size) (LS : own_L Z h0 a ed mc sz) :
    own_Met l Z (⟨"java/util/ArrayList", "size", "()I"⟩ : MethodName) jdk_38_method_8_code 1 (some .int) [] own_rmSZ #[(.ref a)] h0 (own_Qv (.int sz) h0 n0) := by
  refine own_body (plainFor_of_name (by first | (simp [plainName, overriddenIn]; done) | decide +kernel)) (g := fun m => mkF m 0 #[.val (.ref a)] []) (fun m => by first | (simp [entryFrame, mkF, argsToLocals, Value.category]; done) | rfl) ?_
  intro p e s m A below meth c T0 K X0 hx hby hml hown hnm hret hlk hZ e0 hK
  have N0 := Fr.nil n0
  show own_Go p e below K T0 (mkF m 0 #[.val (.ref a)] [])
  refine own_go (fun _ kk' => XS.aloadN X0.here hx rfl (hb hby own_d6_0) rfl rfl  kk') ?_
  show own_Go p e below K T0 (mkF m 1 #[.val (.ref a)] [(.ref a)])
  obtain ⟨T57, X57, e57, st57⟩ := getF X0 hx hZ hown (host := "") (Or.inl (hw _ (List.mem_of_getElem? (i := 39) rfl))) Via.refl e0 LS.2.2.2 (g := (mkF m 1 #[.val (.ref a)] [(.ref a)])) rfl rfl (hb hby own_d6_1)
  refine own_go st57 ?_
  show own_Go p e below K T57 (mkF m 4 #[.val (.ref a)] [(.int sz)])
  exact own_retI X57 hx hlk hK hret (hb hby own_d6_4) (by decide) (by decide) (by rw [e57]; exact ⟨rfl, N0, rfl⟩)
abbrev own_rmVI : Room := { frames := 0, cells := 0, slots := 0, locals := 0 }
set_option maxRecDepth 65536 in
set_option maxHeartbeats 40000000 in
theorem own_mVI (l : Launch) (Z : State) (a0 : Array Value) (hw : ∀ d ∈ tables_1, d.before a0 Z = true) (a : Addr) (i : Int32) (h0 : Heap) (n0 : Nat) (Z0 : n0 ≤ h0.size) (FI : Fld Z h0 a "java/lang/Integer" "value" "I" (.int i)) :
    own_Met l Z (⟨"java/lang/Integer", "intValue", "()I"⟩ : MethodName) jdk_33_method_27_code 1 (some .int) [] own_rmVI #[(.ref a)] h0 (own_Qv (.int i) h0 n0) := by
  refine own_body (plainFor_of_name (by first | (simp [plainName, overriddenIn]; done) | decide +kernel)) (g := fun m => mkF m 0 #[.val (.ref a)] []) (fun m => by first | (simp [entryFrame, mkF, argsToLocals, Value.category]; done) | rfl) ?_
  intro p e s m A below meth c T0 K X0 hx hby hml hown hnm hret hlk hZ e0 hK
  have N0 := Fr.nil n0
  show own_Go p e below K T0 (mkF m 0 #[.val (.ref a)] [])
  refine own_go (fun _ kk' => XS.aloadN X0.here hx rfl (hb hby own_d19_0) rfl rfl  kk') ?_
  show own_Go p e below K T0 (mkF m 1 #[.val (.ref a)] [(.ref a)])
  obtain ⟨T58, X58, e58, st58⟩ := getF X0 hx hZ hown (host := "") (Or.inl (hw _ (List.mem_of_getElem? (i := 120) rfl))) Via.refl e0 FI (g := (mkF m 1 #[.val (.ref a)] [(.ref a)])) rfl rfl (hb hby own_d19_1)
  refine own_go st58 ?_
  show own_Go p e below K T58 (mkF m 4 #[.val (.ref a)] [(.int i)])
  exact own_retI X58 hx hlk hK hret (hb hby own_d19_4) (by decide) (by decide) (by rw [e58]; exact ⟨rfl, N0, rfl⟩)
abbrev own_rmLO : Room := { frames := 0, cells := 0, slots := 0, locals := 0 }
set_option maxRecDepth 65536 in
set_option maxHeartbeats 40000000 in
theorem own_mLO (l : Launch) (Z : State) (a0 : Array Value) (hw : ∀ d ∈ tables_1, d.before a0 Z = true) (el : Addr) (h0 : Heap) (n0 : Nat) (Z0 : n0 ≤ h0.size) (O0 : Old Z n0 h0) (SL : Sta Z Z.heap "java/util/ImmutableCollections" "EMPTY_LIST" "Ljava/util/ImmutableCollections$ListN;" (.ref el)) :
    own_Met l Z (⟨"java/util/List", "of", "()Ljava/util/List;"⟩ : MethodName) jdk_40_method_36_code 0 (some (.object "java/util/List")) [] own_rmLO #[] h0 (own_Qv (.ref el) h0 n0) := by
  refine own_body (plainFor_of_name (by first | (simp [plainName, overriddenIn]; done) | decide +kernel)) (g := fun m => mkF m 0 #[] []) (fun m => by first | (simp [entryFrame, mkF, argsToLocals, Value.category]; done) | rfl) ?_
  intro p e s m A below meth c T0 K X0 hx hby hml hown hnm hret hlk hZ e0 hK
  have N0 := Fr.nil n0
  show own_Go p e below K T0 (mkF m 0 #[] [])
  obtain ⟨T59, X59, e59, st59⟩ := getS2 X0 hx hZ hown (host := "") (Or.inl (hw _ (List.mem_of_getElem? (i := 45) rfl))) Via.refl e0 (SL.ext O0.2) (g := (mkF m 0 #[] [])) rfl (hb hby own_d7_0)
  refine own_go st59 ?_
  show own_Go p e below K T59 (mkF m 3 #[] [(.ref el)])
  exact own_retR X59 hx hlk hK hret rfl rfl (hb hby own_d7_3) (by decide) (by decide) (by rw [e59]; exact ⟨rfl, N0, rfl⟩)
abbrev own_rmLS : Room := { frames := 0, cells := 0, slots := 0, locals := 0 }
set_option maxRecDepth 65536 in
set_option maxHeartbeats 40000000 in
theorem own_mLS (l : Launch) (Z : State) (a0 : Array Value) (hw : ∀ d ∈ tables_1, d.before a0 Z = true) (a ea : Addr) (ke : ClassId) (h0 : Heap) (n0 : Nat) (Z0 : n0 ≤ h0.size) (FE : Fld Z h0 a "java/util/ImmutableCollections$ListN" "elements" "[Ljava/lang/Object;" (.ref ea)) (VE : Arv Z h0 ea ke (.object "java/lang/Object") (0 : Int32) [] .null) :
    own_Met l Z (⟨"java/util/ImmutableCollections$ListN", "size", "()I"⟩ : MethodName) jdk_45_method_3_code 1 (some .int) [] own_rmLS #[(.ref a)] h0 (own_Qv (.int (0 : Int32)) h0 n0) := by
  refine own_body (plainFor_of_name (by first | (simp [plainName, overriddenIn]; done) | decide +kernel)) (g := fun m => mkF m 0 #[.val (.ref a)] []) (fun m => by first | (simp [entryFrame, mkF, argsToLocals, Value.category]; done) | rfl) ?_
  intro p e s m A below meth c T0 K X0 hx hby hml hown hnm hret hlk hZ e0 hK
  have N0 := Fr.nil n0
  show own_Go p e below K T0 (mkF m 0 #[.val (.ref a)] [])
  refine own_go (fun _ kk' => XS.aloadN X0.here hx rfl (hb hby own_d8_0) rfl rfl  kk') ?_
  show own_Go p e below K T0 (mkF m 1 #[.val (.ref a)] [(.ref a)])
  obtain ⟨T60, X60, e60, st60⟩ := getF X0 hx hZ hown (host := "") (Or.inl (hw _ (List.mem_of_getElem? (i := 54) rfl))) Via.refl e0 FE (g := (mkF m 1 #[.val (.ref a)] [(.ref a)])) rfl rfl (hb hby own_d8_1)
  refine own_go st60 ?_
  show own_Go p e below K T60 (mkF m 4 #[.val (.ref a)] [(.ref ea)])
  obtain ⟨cl61, Ar61, -, S61, Nn61, -, -⟩ := (id VE)
  refine own_go (fun tt' kk' => X60.arraylength hx (by rw [e60]; exact Ar61.1) (State.isArrayOf_alike hZ.alike Ar61.2.1) (g := (mkF m 4 #[.val (.ref a)] [(.ref ea)])) rfl rfl (hb hby own_d8_4) tt' kk') ?_
  rw [len_of S61 Nn61]
  show own_Go p e below K T60 (mkF m 5 #[.val (.ref a)] [(.int (0 : Int32))])
  exact own_retI X60 hx hlk hK hret (hb hby own_d8_5) (by decide) (by decide) (by rw [e60]; exact ⟨rfl, N0, rfl⟩)
abbrev own_rmD0 : Room := { frames := 1, cells := 0, slots := 0, locals := 11 }
set_option maxRecDepth 65536 in
set_option maxHeartbeats 40000000 in
theorem own_mD0 (l : Launch) (Z : State) (a0 : Array Value) (hw : ∀ d ∈ tables_1, d.before a0 Z = true) (el : Addr) (h0 : Heap) (n0 : Nat) (Z0 : n0 ≤ h0.size) (O0 : Old Z n0 h0) (SL : Sta Z Z.heap "java/util/ImmutableCollections" "EMPTY_LIST" "Ljava/util/ImmutableCollections$ListN;" (.ref el)) :
    own_Met l Z (⟨"com/example/raised_flags/raisedflags/document/Defaults", "list", "(Ljava/util/List;)Ljava/util/List;"⟩ : MethodName) prog_9_method_2_code 1 (some (.object "java/util/List")) [] own_rmD0 #[.null] h0 (own_Qv (.ref el) h0 n0) := by
  refine own_body (plainFor_of_name (by first | (simp [plainName, overriddenIn]; done) | decide +kernel)) (g := fun m => mkF m 0 #[.val .null] []) (fun m => by first | (simp [entryFrame, mkF, argsToLocals, Value.category]; done) | rfl) ?_
  intro p e s m A below meth c T0 K X0 hx hby hml hown hnm hret hlk hZ e0 hK
  have N0 := Fr.nil n0
  show own_Go p e below K T0 (mkF m 0 #[.val .null] [])
  refine own_go (fun _ kk' => XS.aloadN X0.here hx rfl (hb hby own_d5_0) rfl rfl  kk') ?_
  show own_Go p e below K T0 (mkF m 1 #[.val .null] [.null])
  refine own_go (fun _ kk' => XS.ifnonnullNo X0.here hx rfl (hb hby own_d5_1) rfl kk') ?_
  show own_Go p e below K T0 (mkF m 4 #[.val .null] [])
  refine own_callS X0 hx hZ (y := (⟨"java/util/List", "of", "()Ljava/util/List;"⟩ : MethodName)) hown (hw _ (List.mem_of_getElem? (i := 41) rfl)) (hw _ (List.mem_of_getElem? (i := 42) rfl)) (hw _ (List.mem_of_getElem? (i := 43) rfl)) (hw _ (List.mem_of_getElem? (i := 44) rfl)) (by decide) e0 (rm := own_rmLO) (argsL := []) (rest := []) (own_mLO l Z a0 hw el h0 n0 Z0 O0 SL) (W := 0) (by decide) (by decide) (by decide) (by decide) (g := (mkF m 4 #[.val .null] [])) rfl (by rw [hml]; rfl) (lenOf own_pd8 rfl) rfl (by show 2 * 0 + _ ≤ _; exact Nat.le_of_eq rfl) (hb hby own_d5_4) ?_
  intro v62 T62 L62 X62 hQ62
  obtain ⟨rfl, Nq62, e62⟩ := hQ62
  have N62 := Fr.app N0 Nq62
  show own_Go p e below K T62 (mkF m 7 #[.val .null] [(.ref el)])
  refine own_go (fun _ kk' => XS.goto X62.here hx rfl (pc0 := 7) (pc' := 11) rfl (hb hby own_d5_7) (by decide) (by decide) kk') ?_
  show own_Go p e below K T62 (mkF m 11 #[.val .null] [(.ref el)])
  exact own_retR X62 hx hlk hK hret rfl rfl (hb hby own_d5_11) (by decide) (by decide) (by rw [e62]; exact ⟨rfl, N62, rfl⟩)
abbrev own_rmD1 : Room := { frames := 0, cells := 0, slots := 0, locals := 0 }
set_option maxRecDepth 65536 in
set_option maxHeartbeats 40000000 in
theorem own_mD1 (l : Launch) (Z : State) (a0 : Array Value) (hw : ∀ d ∈ tables_1, d.before a0 Z = true) (a : Addr) (h0 : Heap) (n0 : Nat) (Z0 : n0 ≤ h0.size) :
    own_Met l Z (⟨"com/example/raised_flags/raisedflags/document/Defaults", "list", "(Ljava/util/List;)Ljava/util/List;"⟩ : MethodName) prog_9_method_2_code 1 (some (.object "java/util/List")) [] own_rmD1 #[(.ref a)] h0 (own_Qv (.ref a) h0 n0) := by
  refine own_body (plainFor_of_name (by first | (simp [plainName, overriddenIn]; done) | decide +kernel)) (g := fun m => mkF m 0 #[.val (.ref a)] []) (fun m => by first | (simp [entryFrame, mkF, argsToLocals, Value.category]; done) | rfl) ?_
  intro p e s m A below meth c T0 K X0 hx hby hml hown hnm hret hlk hZ e0 hK
  have N0 := Fr.nil n0
  show own_Go p e below K T0 (mkF m 0 #[.val (.ref a)] [])
  refine own_go (fun _ kk' => XS.aloadN X0.here hx rfl (hb hby own_d5_0) rfl rfl  kk') ?_
  show own_Go p e below K T0 (mkF m 1 #[.val (.ref a)] [(.ref a)])
  refine own_go (fun _ kk' => XS.ifnonnullYes X0.here hx rfl (pc0 := 1) (pc' := 10) rfl (hb hby own_d5_1) rfl (by decide) (by decide) kk') ?_
  show own_Go p e below K T0 (mkF m 10 #[.val (.ref a)] [])
  refine own_go (fun _ kk' => XS.aloadN X0.here hx rfl (hb hby own_d5_10) rfl rfl  kk') ?_
  show own_Go p e below K T0 (mkF m 11 #[.val (.ref a)] [(.ref a)])
  exact own_retR X0 hx hlk hK hret rfl rfl (hb hby own_d5_11) (by decide) (by decide) (by rw [e0]; exact ⟨rfl, N0, rfl⟩)
theorem own_n4 (x : Int32) : x &&& (3 : Int32) = 0 ∨ x &&& (3 : Int32) = 1 ∨ x &&& (3 : Int32) = 2 ∨ x &&& (3 : Int32) = 3 := by
  have h := c_and x 3 (by decide)
  have e3 : (3 : Int32).toInt = 3 := rfl
  rw [e3] at h
  have q : (x &&& (3 : Int32)).toInt = (0 : Int32).toInt ∨ (x &&& (3 : Int32)).toInt = (1 : Int32).toInt ∨ (x &&& (3 : Int32)).toInt = (2 : Int32).toInt ∨ (x &&& (3 : Int32)).toInt = (3 : Int32).toInt := by
    have e0 : (0 : Int32).toInt = 0 := rfl
    have e1 : (1 : Int32).toInt = 1 := rfl
    have e2 : (2 : Int32).toInt = 2 := rfl
    omega
  simpa only [Int32.toInt_inj] using q
def own_Q (n0 : Nat) (v : Option Value) (h : Heap) (L : List Loc) : Prop := v = some (.int 1) ∧ Fr n0 L
/- the law needs frames 5, cells 5, slots 16, locals 69 -/
set_option maxRecDepth 65536 in
set_option maxHeartbeats 40000000 in
theorem own_law (l : Launch) (Z : State) (a0 : Array Value) (hw : ∀ d ∈ tables_1, d.before a0 Z = true) (x0 y0 z0 : Int32) (de el ea ca : Addr) (kd ke : ClassId) (ccl : Cell) (h0 : Heap) (n0 : Nat) (Z0 : n0 ≤ h0.size) (O0 : Old Z n0 h0) (SD : Sta Z Z.heap "java/util/ArrayList" "DEFAULTCAPACITY_EMPTY_ELEMENTDATA" "[Ljava/lang/Object;" (.ref de)) (VD : Arv Z Z.heap de kd (.object "java/lang/Object") (0 : Int32) [] .null) (SL : Sta Z Z.heap "java/util/ImmutableCollections" "EMPTY_LIST" "Ljava/util/ImmutableCollections$ListN;" (.ref el)) (EL : Exa Z Z.heap el "java/util/ImmutableCollections$ListN") (FE : Fld Z Z.heap el "java/util/ImmutableCollections$ListN" "elements" "[Ljava/lang/Object;" (.ref ea)) (VE : Arv Z Z.heap ea ke (.object "java/lang/Object") (0 : Int32) [] .null) (SH : Sta Z Z.heap "java/lang/Integer$IntegerCache" "high" "I" (.int (127 : Int32))) (SC : Sta Z Z.heap "java/lang/Integer$IntegerCache" "cache" "[Ljava/lang/Integer;" (.ref ca)) (HC : own_Cache Z ca ccl) :
    own_Met l Z x code maxLocals ret tables_1 room_1 #[(.int x0), (.int y0), (.int z0)] h0 (own_Q n0) := by
  refine own_body (plainFor_of_name (by first | (simp [plainName, overriddenIn]; done) | decide +kernel)) (g := fun m => mkF m 0 #[.val (.int x0), .val (.int y0), .val (.int z0), .unset, .unset, .unset] []) (fun m => by first | (simp [entryFrame, mkF, argsToLocals, Value.category, maxLocals]; done) | rfl) ?_
  intro p e s m A below meth c T0 K X0 hx hby hml hown hnm hret hlk hZ e0 hK
  have N0 := Fr.nil n0
  show own_Go p e below K T0 (mkF m 0 #[.val (.int x0), .val (.int y0), .val (.int z0), .unset, .unset, .unset] [])
  refine own_go (fun _ kk' => XS.iloadN X0.here hx rfl (hb hby at_0) rfl  kk') ?_
  show own_Go p e below K T0 (mkF m 1 #[.val (.int x0), .val (.int y0), .val (.int z0), .unset, .unset, .unset] [(.int x0)])
  refine own_go (fun _ kk' => XS.iconst X0.here hx rfl (hb hby at_1) kk') ?_
  show own_Go p e below K T0 (mkF m 2 #[.val (.int x0), .val (.int y0), .val (.int z0), .unset, .unset, .unset] [(.int (1 : Int32)), (.int x0)])
  refine own_go (fun _ kk' => XS.iand X0.here hx rfl (hb hby at_2) rfl kk') ?_
  show own_Go p e below K T0 (mkF m 3 #[.val (.int x0), .val (.int y0), .val (.int z0), .unset, .unset, .unset] [(.int (x0 &&& (1 : Int32)))])
  by_cases hc3_63 : (x0 &&& (1 : Int32)) = (0 : Int32)
  · refine own_go (fun _ kk' => XS.ifYes X0.here hx rfl (pc0 := 3) (pc' := 30) rfl (hb hby at_3) rfl ((if0 _ _).trans (teq (hc3_63 : (x0 &&& (1 : Int32)) = (0 : Int32))).1) (by decide) (by decide) kk') ?_
    show own_Go p e below K T0 (mkF m 30 #[.val (.int x0), .val (.int y0), .val (.int z0), .unset, .unset, .unset] [])
    refine own_go (fun _ kk' => XS.iloadN X0.here hx rfl (hb hby at_30) rfl  kk') ?_
    show own_Go p e below K T0 (mkF m 31 #[.val (.int x0), .val (.int y0), .val (.int z0), .unset, .unset, .unset] [(.int x0)])
    refine own_go (fun _ kk' => XS.iconst X0.here hx rfl (hb hby at_31) kk') ?_
    show own_Go p e below K T0 (mkF m 32 #[.val (.int x0), .val (.int y0), .val (.int z0), .unset, .unset, .unset] [(.int (1 : Int32)), (.int x0)])
    refine own_go (fun _ kk' => XS.iushr X0.here hx rfl (hb hby at_32) rfl kk') ?_
    show own_Go p e below K T0 (mkF m 33 #[.val (.int x0), .val (.int y0), .val (.int z0), .unset, .unset, .unset] [(.int ((x0.toUInt32 >>> ((1 : Int32) &&& 31).toUInt32).toInt32))])
    refine own_go (fun _ kk' => XS.iconst X0.here hx rfl (hb hby at_33) kk') ?_
    show own_Go p e below K T0 (mkF m 34 #[.val (.int x0), .val (.int y0), .val (.int z0), .unset, .unset, .unset] [(.int (3 : Int32)), (.int ((x0.toUInt32 >>> ((1 : Int32) &&& 31).toUInt32).toInt32))])
    refine own_go (fun _ kk' => XS.iand X0.here hx rfl (hb hby at_34) rfl kk') ?_
    show own_Go p e below K T0 (mkF m 35 #[.val (.int x0), .val (.int y0), .val (.int z0), .unset, .unset, .unset] [(.int (((x0.toUInt32 >>> ((1 : Int32) &&& 31).toUInt32).toInt32) &&& (3 : Int32)))])
    rcases own_n4 ((x0.toUInt32 >>> ((1 : Int32) &&& 31).toUInt32).toInt32) with hn4 | hn4 | hn4 | hn4
    · rw [hn4]
      show own_Go p e below K T0 (mkF m 35 #[.val (.int x0), .val (.int y0), .val (.int z0), .unset, .unset, .unset] [(.int (0 : Int32))])
      refine own_go (fun _ kk' => XS.istoreN X0.here hx rfl (hb hby at_35) rfl (l' := #[.val (.int x0), .val (.int y0), .val (.int z0), .val (.int (0 : Int32)), .unset, .unset]) rfl kk') ?_
      show own_Go p e below K T0 (mkF m 36 #[.val (.int x0), .val (.int y0), .val (.int z0), .val (.int (0 : Int32)), .unset, .unset] [])
      obtain ⟨T64, h64, X64, e64, E64, A64, D64, -, st64⟩ := newO X0 hx hZ hown (hw _ (List.mem_of_getElem? (i := 0) rfl)) (hw _ (List.mem_of_getElem? (i := 1) rfl)) (hw _ (List.mem_of_getElem? (i := 2) rfl)) e0 (g := (mkF m 36 #[.val (.int x0), .val (.int y0), .val (.int z0), .val (.int (0 : Int32)), .unset, .unset] [])) rfl (hb hby at_36) (by decide) (by decide)
      obtain ⟨b64, g64⟩ : ∃ z, z = h0.size := ⟨_, rfl⟩
      rw [← g64] at A64 D64 st64
      have gp64 : n0 ≤ b64 := Nat.le_trans Z0 (Nat.le_of_eq g64.symm)
      have sz64 : h0.size ≤ b64 := Nat.le_trans (Nat.le_refl _) (Nat.le_of_eq g64.symm)
      have F64_modCount : Fld Z h64 b64 "java/util/AbstractList" "modCount" "I" (.int (0 : Int32)) := D64 (Or.inl (hw _ (List.mem_of_getElem? (i := 22) rfl))) (ty := .int) (by decide)
      have F64_elementData : Fld Z h64 b64 "java/util/ArrayList" "elementData" "[Ljava/lang/Object;" .null := D64 (Or.inl (hw _ (List.mem_of_getElem? (i := 25) rfl))) (ty := (.array (.object "java/lang/Object"))) (by decide)
      have F64_size : Fld Z h64 b64 "java/util/ArrayList" "size" "I" (.int (0 : Int32)) := D64 (Or.inl (hw _ (List.mem_of_getElem? (i := 40) rfl))) (ty := .int) (by decide)
      refine own_go st64 ?_
      show own_Go p e below K T64 (mkF m 39 #[.val (.int x0), .val (.int y0), .val (.int z0), .val (.int (0 : Int32)), .unset, .unset] [(.ref b64)])
      refine own_go (fun _ kk' => XS.dup X64.here hx rfl (hb hby at_39) rfl rfl kk') ?_
      show own_Go p e below K T64 (mkF m 40 #[.val (.int x0), .val (.int y0), .val (.int z0), .val (.int (0 : Int32)), .unset, .unset] [(.ref b64), (.ref b64)])
      refine own_callI X64 hx hZ (y := (⟨"java/util/ArrayList", "<init>", "()V"⟩ : MethodName)) rfl hown (hw _ (List.mem_of_getElem? (i := 3) rfl)) (hw _ (List.mem_of_getElem? (i := 4) rfl)) (hw _ (List.mem_of_getElem? (i := 2) rfl)) (hw _ (List.mem_of_getElem? (i := 5) rfl)) (by decide) e64 (rm := own_rmNW) (a := b64) (argsL := []) (rest := [(.ref b64)]) (own_mNW l Z a0 hw b64 de .null (0 : Int32) (0 : Int32) h64 n0 (Nat.le_trans Z0 E64.1) ⟨A64, F64_modCount, F64_elementData, F64_size⟩ gp64 (O0.ext E64) SD) (W := 1) (by decide) (by decide) (by decide) (by decide) (g := (mkF m 40 #[.val (.int x0), .val (.int y0), .val (.int z0), .val (.int (0 : Int32)), .unset, .unset] [(.ref b64), (.ref b64)])) rfl (by rw [hml]; rfl) (lenOf own_pd0 rfl) rfl (by show 2 * 0 + _ ≤ _; exact Nat.le_of_eq rfl) (hb hby at_40) ?_
      intro v65 T65 L65 X65 hQ65
      obtain ⟨rfl, Nq65, Kq65, Lq65⟩ := hQ65
      have N65 := Fr.app N0 Nq65
      show own_Go p e below K T65 (mkF m 43 #[.val (.int x0), .val (.int y0), .val (.int z0), .val (.int (0 : Int32)), .unset, .unset] [(.ref b64)])
      refine own_go (fun _ kk' => XS.astore X65.here hx rfl (hb hby at_43) rfl rfl (l' := #[.val (.int x0), .val (.int y0), .val (.int z0), .val (.int (0 : Int32)), .val (.ref b64), .unset]) rfl kk') ?_
      show own_Go p e below K T65 (mkF m 45 #[.val (.int x0), .val (.int y0), .val (.int z0), .val (.int (0 : Int32)), .val (.ref b64), .unset] [])
      refine own_go (fun _ kk' => XS.iloadN X65.here hx rfl (hb hby at_45) rfl  kk') ?_
      show own_Go p e below K T65 (mkF m 46 #[.val (.int x0), .val (.int y0), .val (.int z0), .val (.int (0 : Int32)), .val (.ref b64), .unset] [(.int (0 : Int32))])
      refine own_go (fun _ kk' => XS.iconst X65.here hx rfl (hb hby at_46) kk') ?_
      show own_Go p e below K T65 (mkF m 47 #[.val (.int x0), .val (.int y0), .val (.int z0), .val (.int (0 : Int32)), .val (.ref b64), .unset] [(.int (1 : Int32)), (.int (0 : Int32))])
      refine own_go (fun _ kk' => XS.icmpYes X65.here hx rfl (pc0 := 47) (pc' := 60) rfl (hb hby at_47) rfl (tlt ((by decide) : (0 : Int32) < (1 : Int32))).1 (by decide) (by decide) kk') ?_
      show own_Go p e below K T65 (mkF m 60 #[.val (.int x0), .val (.int y0), .val (.int z0), .val (.int (0 : Int32)), .val (.ref b64), .unset] [])
      refine own_go (fun _ kk' => XS.iloadN X65.here hx rfl (hb hby at_60) rfl  kk') ?_
      show own_Go p e below K T65 (mkF m 61 #[.val (.int x0), .val (.int y0), .val (.int z0), .val (.int (0 : Int32)), .val (.ref b64), .unset] [(.int (0 : Int32))])
      refine own_go (fun _ kk' => XS.iconst X65.here hx rfl (hb hby at_61) kk') ?_
      show own_Go p e below K T65 (mkF m 62 #[.val (.int x0), .val (.int y0), .val (.int z0), .val (.int (0 : Int32)), .val (.ref b64), .unset] [(.int (2 : Int32)), (.int (0 : Int32))])
      refine own_go (fun _ kk' => XS.icmpYes X65.here hx rfl (pc0 := 62) (pc' := 75) rfl (hb hby at_62) rfl (tlt ((by decide) : (0 : Int32) < (2 : Int32))).1 (by decide) (by decide) kk') ?_
      show own_Go p e below K T65 (mkF m 75 #[.val (.int x0), .val (.int y0), .val (.int z0), .val (.int (0 : Int32)), .val (.ref b64), .unset] [])
      refine own_go (fun _ kk' => XS.iloadN X65.here hx rfl (hb hby at_75) rfl  kk') ?_
      show own_Go p e below K T65 (mkF m 76 #[.val (.int x0), .val (.int y0), .val (.int z0), .val (.int (0 : Int32)), .val (.ref b64), .unset] [(.int (0 : Int32))])
      refine own_go (fun _ kk' => XS.iconst X65.here hx rfl (hb hby at_76) kk') ?_
      show own_Go p e below K T65 (mkF m 77 #[.val (.int x0), .val (.int y0), .val (.int z0), .val (.int (0 : Int32)), .val (.ref b64), .unset] [(.int (3 : Int32)), (.int (0 : Int32))])
      refine own_go (fun _ kk' => XS.icmpYes X65.here hx rfl (pc0 := 77) (pc' := 90) rfl (hb hby at_77) rfl (tlt ((by decide) : (0 : Int32) < (3 : Int32))).1 (by decide) (by decide) kk') ?_
      show own_Go p e below K T65 (mkF m 90 #[.val (.int x0), .val (.int y0), .val (.int z0), .val (.int (0 : Int32)), .val (.ref b64), .unset] [])
      refine own_go (fun _ kk' => XS.aload X65.here hx rfl (hb hby at_90) rfl rfl  kk') ?_
      show own_Go p e below K T65 (mkF m 92 #[.val (.int x0), .val (.int y0), .val (.int z0), .val (.int (0 : Int32)), .val (.ref b64), .unset] [(.ref b64)])
      refine own_callS X65 hx hZ (y := (⟨"com/example/raised_flags/raisedflags/document/Defaults", "list", "(Ljava/util/List;)Ljava/util/List;"⟩ : MethodName)) hown (hw _ (List.mem_of_getElem? (i := 26) rfl)) (hw _ (List.mem_of_getElem? (i := 27) rfl)) (hw _ (List.mem_of_getElem? (i := 28) rfl)) (hw _ (List.mem_of_getElem? (i := 29) rfl)) (by decide) rfl (rm := own_rmD1) (argsL := [(.ref b64)]) (rest := []) (own_mD1 l Z a0 hw b64 T65.heap n0 (Nat.le_trans (Nat.le_trans Z0 E64.1) Kq65.1)) (W := 0) (by decide) (by decide) (by decide) (by decide) (g := (mkF m 92 #[.val (.int x0), .val (.int y0), .val (.int z0), .val (.int (0 : Int32)), .val (.ref b64), .unset] [(.ref b64)])) rfl (by rw [hml]; rfl) (lenOf own_pd9 rfl) rfl (by show 2 * 0 + _ ≤ _; exact Nat.le_of_eq rfl) (hb hby at_92) ?_
      intro v66 T66 L66 X66 hQ66
      obtain ⟨rfl, Nq66, e66⟩ := hQ66
      have N66 := Fr.app N65 Nq66
      show own_Go p e below K T66 (mkF m 95 #[.val (.int x0), .val (.int y0), .val (.int z0), .val (.int (0 : Int32)), .val (.ref b64), .unset] [(.ref b64)])
      refine own_go (fun _ kk' => XS.astore X66.here hx rfl (hb hby at_95) rfl rfl (l' := #[.val (.int x0), .val (.int y0), .val (.int z0), .val (.int (0 : Int32)), .val (.ref b64), .val (.ref b64)]) rfl kk') ?_
      show own_Go p e below K T66 (mkF m 97 #[.val (.int x0), .val (.int y0), .val (.int z0), .val (.int (0 : Int32)), .val (.ref b64), .val (.ref b64)] [])
      refine own_go (fun _ kk' => XS.aload X66.here hx rfl (hb hby at_97) rfl rfl  kk') ?_
      show own_Go p e below K T66 (mkF m 99 #[.val (.int x0), .val (.int y0), .val (.int z0), .val (.int (0 : Int32)), .val (.ref b64), .val (.ref b64)] [(.ref b64)])
      refine own_go (fun _ kk' => XS.aload X66.here hx rfl (hb hby at_99) rfl rfl  kk') ?_
      show own_Go p e below K T66 (mkF m 101 #[.val (.int x0), .val (.int y0), .val (.int z0), .val (.int (0 : Int32)), .val (.ref b64), .val (.ref b64)] [(.ref b64), (.ref b64)])
      refine own_go (fun _ kk' => Jvm.RoadKit.acmp (g := (mkF m 101 #[.val (.int x0), .val (.int y0), .val (.int z0), .val (.int (0 : Int32)), .val (.ref b64), .val (.ref b64)] [(.ref b64), (.ref b64)])) X66 hx rfl rfl rfl (pc0 := 101) (pc' := 106) (same := true) rfl (hb hby at_101) rfl (decide_eq_true (rfl : (Value.ref b64) = (Value.ref b64))) (by decide) (by decide) kk') ?_
      show own_Go p e below K T66 (mkF m 106 #[.val (.int x0), .val (.int y0), .val (.int z0), .val (.int (0 : Int32)), .val (.ref b64), .val (.ref b64)] [])
      refine own_go (fun _ kk' => XS.aload X66.here hx rfl (hb hby at_106) rfl rfl  kk') ?_
      show own_Go p e below K T66 (mkF m 108 #[.val (.int x0), .val (.int y0), .val (.int z0), .val (.int (0 : Int32)), .val (.ref b64), .val (.ref b64)] [(.ref b64)])
      refine own_callF X66 hx hZ (C := "java/util/ArrayList") (xi := (⟨"java/util/List", "size", "()I"⟩ : MethodName)) (z := (⟨"java/util/ArrayList", "size", "()I"⟩ : MethodName)) hown (hw _ (List.mem_of_getElem? (i := 30) rfl)) (hw _ (List.mem_of_getElem? (i := 31) rfl)) (mvT hZ (hw _ (List.mem_of_getElem? (i := 32) rfl))) (hw _ (List.mem_of_getElem? (i := 33) rfl)) (hw _ (List.mem_of_getElem? (i := 34) rfl)) (hw _ (List.mem_of_getElem? (i := 35) rfl)) (hw _ (List.mem_of_getElem? (i := 36) rfl)) (hw _ (List.mem_of_getElem? (i := 37) rfl)) (hw _ (List.mem_of_getElem? (i := 2) rfl)) (hw _ (List.mem_of_getElem? (i := 38) rfl)) (by decide) e66 (rm := own_rmSZ) (a := b64) Lq65.1 (argsL := []) (rest := []) (own_mSZ l Z a0 hw b64 (.ref de) (0 : Int32) (0 : Int32) T65.heap n0 (Nat.le_trans (Nat.le_trans Z0 E64.1) Kq65.1) ⟨Lq65.1, Lq65.2.1, Lq65.2.2.1, Lq65.2.2.2⟩) (W := 0) (by decide) (by decide) (by decide) (by decide) (g := (mkF m 108 #[.val (.int x0), .val (.int y0), .val (.int z0), .val (.int (0 : Int32)), .val (.ref b64), .val (.ref b64)] [(.ref b64)])) rfl (by rw [hml]; rfl) (lenOf own_pd10 rfl) rfl (by show 2 * 0 + _ ≤ _; exact Nat.le_of_eq rfl) (hb hby at_108) ?_
      intro v67 T67 L67 X67 hQ67
      obtain ⟨rfl, Nq67, e67⟩ := hQ67
      have N67 := Fr.app N66 Nq67
      show own_Go p e below K T67 (mkF m 113 #[.val (.int x0), .val (.int y0), .val (.int z0), .val (.int (0 : Int32)), .val (.ref b64), .val (.ref b64)] [(.int (0 : Int32))])
      refine own_go (fun _ kk' => XS.iloadN X67.here hx rfl (hb hby at_113) rfl  kk') ?_
      show own_Go p e below K T67 (mkF m 114 #[.val (.int x0), .val (.int y0), .val (.int z0), .val (.int (0 : Int32)), .val (.ref b64), .val (.ref b64)] [(.int (0 : Int32)), (.int (0 : Int32))])
      refine own_go (fun _ kk' => XS.icmpYes X67.here hx rfl (pc0 := 114) (pc' := 119) rfl (hb hby at_114) rfl (teq ((by decide) : (0 : Int32) = (0 : Int32))).1 (by decide) (by decide) kk') ?_
      show own_Go p e below K T67 (mkF m 119 #[.val (.int x0), .val (.int y0), .val (.int z0), .val (.int (0 : Int32)), .val (.ref b64), .val (.ref b64)] [])
      refine own_go (fun _ kk' => XS.iloadN X67.here hx rfl (hb hby at_119) rfl  kk') ?_
      show own_Go p e below K T67 (mkF m 120 #[.val (.int x0), .val (.int y0), .val (.int z0), .val (.int (0 : Int32)), .val (.ref b64), .val (.ref b64)] [(.int (0 : Int32))])
      refine own_go (fun _ kk' => XS.iconst X67.here hx rfl (hb hby at_120) kk') ?_
      show own_Go p e below K T67 (mkF m 121 #[.val (.int x0), .val (.int y0), .val (.int z0), .val (.int (0 : Int32)), .val (.ref b64), .val (.ref b64)] [(.int (1 : Int32)), (.int (0 : Int32))])
      refine own_go (fun _ kk' => XS.icmpYes X67.here hx rfl (pc0 := 121) (pc' := 144) rfl (hb hby at_121) rfl (tlt ((by decide) : (0 : Int32) < (1 : Int32))).1 (by decide) (by decide) kk') ?_
      show own_Go p e below K T67 (mkF m 144 #[.val (.int x0), .val (.int y0), .val (.int z0), .val (.int (0 : Int32)), .val (.ref b64), .val (.ref b64)] [])
      refine own_go (fun _ kk' => XS.iloadN X67.here hx rfl (hb hby at_144) rfl  kk') ?_
      show own_Go p e below K T67 (mkF m 145 #[.val (.int x0), .val (.int y0), .val (.int z0), .val (.int (0 : Int32)), .val (.ref b64), .val (.ref b64)] [(.int (0 : Int32))])
      refine own_go (fun _ kk' => XS.iconst X67.here hx rfl (hb hby at_145) kk') ?_
      show own_Go p e below K T67 (mkF m 146 #[.val (.int x0), .val (.int y0), .val (.int z0), .val (.int (0 : Int32)), .val (.ref b64), .val (.ref b64)] [(.int (2 : Int32)), (.int (0 : Int32))])
      refine own_go (fun _ kk' => XS.icmpYes X67.here hx rfl (pc0 := 146) (pc' := 169) rfl (hb hby at_146) rfl (tlt ((by decide) : (0 : Int32) < (2 : Int32))).1 (by decide) (by decide) kk') ?_
      show own_Go p e below K T67 (mkF m 169 #[.val (.int x0), .val (.int y0), .val (.int z0), .val (.int (0 : Int32)), .val (.ref b64), .val (.ref b64)] [])
      refine own_go (fun _ kk' => XS.iconst X67.here hx rfl (hb hby at_169) kk') ?_
      show own_Go p e below K T67 (mkF m 170 #[.val (.int x0), .val (.int y0), .val (.int z0), .val (.int (0 : Int32)), .val (.ref b64), .val (.ref b64)] [(.int (1 : Int32))])
      exact own_retZ X67 hx hlk hK hret (by decide) (hb hby at_170) (by decide) (by decide) (by rw [e67]; exact ⟨rfl, N67⟩)
    · rw [hn4]
      show own_Go p e below K T0 (mkF m 35 #[.val (.int x0), .val (.int y0), .val (.int z0), .unset, .unset, .unset] [(.int (1 : Int32))])
      refine own_go (fun _ kk' => XS.istoreN X0.here hx rfl (hb hby at_35) rfl (l' := #[.val (.int x0), .val (.int y0), .val (.int z0), .val (.int (1 : Int32)), .unset, .unset]) rfl kk') ?_
      show own_Go p e below K T0 (mkF m 36 #[.val (.int x0), .val (.int y0), .val (.int z0), .val (.int (1 : Int32)), .unset, .unset] [])
      obtain ⟨T68, h68, X68, e68, E68, A68, D68, -, st68⟩ := newO X0 hx hZ hown (hw _ (List.mem_of_getElem? (i := 0) rfl)) (hw _ (List.mem_of_getElem? (i := 1) rfl)) (hw _ (List.mem_of_getElem? (i := 2) rfl)) e0 (g := (mkF m 36 #[.val (.int x0), .val (.int y0), .val (.int z0), .val (.int (1 : Int32)), .unset, .unset] [])) rfl (hb hby at_36) (by decide) (by decide)
      obtain ⟨b68, g68⟩ : ∃ z, z = h0.size := ⟨_, rfl⟩
      rw [← g68] at A68 D68 st68
      have gp68 : n0 ≤ b68 := Nat.le_trans Z0 (Nat.le_of_eq g68.symm)
      have sz68 : h0.size ≤ b68 := Nat.le_trans (Nat.le_refl _) (Nat.le_of_eq g68.symm)
      have F68_modCount : Fld Z h68 b68 "java/util/AbstractList" "modCount" "I" (.int (0 : Int32)) := D68 (Or.inl (hw _ (List.mem_of_getElem? (i := 22) rfl))) (ty := .int) (by decide)
      have F68_elementData : Fld Z h68 b68 "java/util/ArrayList" "elementData" "[Ljava/lang/Object;" .null := D68 (Or.inl (hw _ (List.mem_of_getElem? (i := 25) rfl))) (ty := (.array (.object "java/lang/Object"))) (by decide)
      have F68_size : Fld Z h68 b68 "java/util/ArrayList" "size" "I" (.int (0 : Int32)) := D68 (Or.inl (hw _ (List.mem_of_getElem? (i := 40) rfl))) (ty := .int) (by decide)
      refine own_go st68 ?_
      show own_Go p e below K T68 (mkF m 39 #[.val (.int x0), .val (.int y0), .val (.int z0), .val (.int (1 : Int32)), .unset, .unset] [(.ref b68)])
      refine own_go (fun _ kk' => XS.dup X68.here hx rfl (hb hby at_39) rfl rfl kk') ?_
      show own_Go p e below K T68 (mkF m 40 #[.val (.int x0), .val (.int y0), .val (.int z0), .val (.int (1 : Int32)), .unset, .unset] [(.ref b68), (.ref b68)])
      refine own_callI X68 hx hZ (y := (⟨"java/util/ArrayList", "<init>", "()V"⟩ : MethodName)) rfl hown (hw _ (List.mem_of_getElem? (i := 3) rfl)) (hw _ (List.mem_of_getElem? (i := 4) rfl)) (hw _ (List.mem_of_getElem? (i := 2) rfl)) (hw _ (List.mem_of_getElem? (i := 5) rfl)) (by decide) e68 (rm := own_rmNW) (a := b68) (argsL := []) (rest := [(.ref b68)]) (own_mNW l Z a0 hw b68 de .null (0 : Int32) (0 : Int32) h68 n0 (Nat.le_trans Z0 E68.1) ⟨A68, F68_modCount, F68_elementData, F68_size⟩ gp68 (O0.ext E68) SD) (W := 1) (by decide) (by decide) (by decide) (by decide) (g := (mkF m 40 #[.val (.int x0), .val (.int y0), .val (.int z0), .val (.int (1 : Int32)), .unset, .unset] [(.ref b68), (.ref b68)])) rfl (by rw [hml]; rfl) (lenOf own_pd0 rfl) rfl (by show 2 * 0 + _ ≤ _; exact Nat.le_of_eq rfl) (hb hby at_40) ?_
      intro v69 T69 L69 X69 hQ69
      obtain ⟨rfl, Nq69, Kq69, Lq69⟩ := hQ69
      have N69 := Fr.app N0 Nq69
      show own_Go p e below K T69 (mkF m 43 #[.val (.int x0), .val (.int y0), .val (.int z0), .val (.int (1 : Int32)), .unset, .unset] [(.ref b68)])
      refine own_go (fun _ kk' => XS.astore X69.here hx rfl (hb hby at_43) rfl rfl (l' := #[.val (.int x0), .val (.int y0), .val (.int z0), .val (.int (1 : Int32)), .val (.ref b68), .unset]) rfl kk') ?_
      show own_Go p e below K T69 (mkF m 45 #[.val (.int x0), .val (.int y0), .val (.int z0), .val (.int (1 : Int32)), .val (.ref b68), .unset] [])
      refine own_go (fun _ kk' => XS.iloadN X69.here hx rfl (hb hby at_45) rfl  kk') ?_
      show own_Go p e below K T69 (mkF m 46 #[.val (.int x0), .val (.int y0), .val (.int z0), .val (.int (1 : Int32)), .val (.ref b68), .unset] [(.int (1 : Int32))])
      refine own_go (fun _ kk' => XS.iconst X69.here hx rfl (hb hby at_46) kk') ?_
      show own_Go p e below K T69 (mkF m 47 #[.val (.int x0), .val (.int y0), .val (.int z0), .val (.int (1 : Int32)), .val (.ref b68), .unset] [(.int (1 : Int32)), (.int (1 : Int32))])
      refine own_go (fun _ kk' => XS.icmpNo X69.here hx rfl (hb hby at_47) rfl (flt ((by decide) : ¬ ((1 : Int32) < (1 : Int32)))).1 kk') ?_
      show own_Go p e below K T69 (mkF m 50 #[.val (.int x0), .val (.int y0), .val (.int z0), .val (.int (1 : Int32)), .val (.ref b68), .unset] [])
      refine own_go (fun _ kk' => XS.aload X69.here hx rfl (hb hby at_50) rfl rfl  kk') ?_
      show own_Go p e below K T69 (mkF m 52 #[.val (.int x0), .val (.int y0), .val (.int z0), .val (.int (1 : Int32)), .val (.ref b68), .unset] [(.ref b68)])
      refine own_go (fun _ kk' => XS.iloadN X69.here hx rfl (hb hby at_52) rfl  kk') ?_
      show own_Go p e below K T69 (mkF m 53 #[.val (.int x0), .val (.int y0), .val (.int z0), .val (.int (1 : Int32)), .val (.ref b68), .unset] [(.int y0), (.ref b68)])
      refine own_callS X69 hx hZ (y := (⟨"java/lang/Integer", "valueOf", "(I)Ljava/lang/Integer;"⟩ : MethodName)) hown (hw _ (List.mem_of_getElem? (i := 56) rfl)) (hw _ (List.mem_of_getElem? (i := 57) rfl)) (hw _ (List.mem_of_getElem? (i := 58) rfl)) (hw _ (List.mem_of_getElem? (i := 59) rfl)) (by decide) rfl (rm := own_rmIV) (argsL := [(.int y0)]) (rest := [(.ref b68)]) (own_mIV l Z a0 hw y0 ca ccl T69.heap n0 (Nat.le_trans (Nat.le_trans Z0 E68.1) Kq69.1) ((O0.ext E68).keep Kq69 (allS gp68 all0)) SH SC HC) (W := 1) (by decide) (by decide) (by decide) (by decide) (g := (mkF m 53 #[.val (.int x0), .val (.int y0), .val (.int z0), .val (.int (1 : Int32)), .val (.ref b68), .unset] [(.int y0), (.ref b68)])) rfl (by rw [hml]; rfl) (lenOf own_pd11 rfl) rfl (by show 2 * 0 + _ ≤ _; exact Nat.le_of_eq rfl) (hb hby at_53) ?_
      intro v70 T70 L70 X70 hQ70
      obtain ⟨bq70, rfl, Nq70, Kq70, Eq70, Fq70⟩ := hQ70
      have N70 := Fr.app N69 Nq70
      show own_Go p e below K T70 (mkF m 56 #[.val (.int x0), .val (.int y0), .val (.int z0), .val (.int (1 : Int32)), .val (.ref b68), .unset] [(.ref bq70), (.ref b68)])
      refine own_callV X70 hx hZ (C := "java/util/ArrayList") (y := (⟨"java/util/ArrayList", "add", "(Ljava/lang/Object;)Z"⟩ : MethodName)) (z := (⟨"java/util/ArrayList", "add", "(Ljava/lang/Object;)Z"⟩ : MethodName)) hown (hw _ (List.mem_of_getElem? (i := 63) rfl)) (hw _ (List.mem_of_getElem? (i := 64) rfl)) (notFace_of_selects (args := #[]) (mvT hZ (hw _ (List.mem_of_getElem? (i := 66) rfl)))) (hw _ (List.mem_of_getElem? (i := 66) rfl)) (hw _ (List.mem_of_getElem? (i := 65) rfl)) (hw _ (List.mem_of_getElem? (i := 2) rfl)) (hw _ (List.mem_of_getElem? (i := 67) rfl)) (by decide) rfl (rm := own_rmA1) (a := b68) (Lq69.1.keep Kq70) (argsL := [(.ref bq70)]) (rest := []) (own_mA1 l Z a0 hw b68 de bq70 (0 : Int32) kd T70.heap n0 (Nat.le_trans (Nat.le_trans (Nat.le_trans Z0 E68.1) Kq69.1) Kq70.1) ⟨(Lq69.1.keep Kq70), (Lq69.2.1.keep Kq70 nin0), (Lq69.2.2.1.keep Kq70 nin0), (Lq69.2.2.2.keep Kq70 nin0)⟩ gp68 (((O0.ext E68).keep Kq69 (allS gp68 all0)).keep Kq70 all0) SD VD (Ins.of_exa Eq70 (hw _ (List.mem_of_getElem? (i := 91) rfl)))) (W := 0) (by decide) (by decide) (by decide) (by decide) (g := (mkF m 56 #[.val (.int x0), .val (.int y0), .val (.int z0), .val (.int (1 : Int32)), .val (.ref b68), .unset] [(.ref bq70), (.ref b68)])) rfl (by rw [hml]; rfl) (lenOf own_pd12 rfl) rfl (by show 2 * 0 + _ ≤ _; exact Nat.le_of_eq rfl) (hb hby at_56) ?_
      intro v71 T71 L71 X71 hQ71
      obtain ⟨ar71, kr71, rfl, Nq71, Kq71, Lq71, Vq71, Oq71, Zq71, Gq71⟩ := hQ71
      have N71 := Fr.app N70 Nq71
      show own_Go p e below K T71 (mkF m 59 #[.val (.int x0), .val (.int y0), .val (.int z0), .val (.int (1 : Int32)), .val (.ref b68), .unset] [(.int (1 : Int32))])
      refine own_go (fun _ kk' => XS.pop X71.here hx rfl (hb hby at_59) rfl rfl kk') ?_
      show own_Go p e below K T71 (mkF m 60 #[.val (.int x0), .val (.int y0), .val (.int z0), .val (.int (1 : Int32)), .val (.ref b68), .unset] [])
      refine own_go (fun _ kk' => XS.iloadN X71.here hx rfl (hb hby at_60) rfl  kk') ?_
      show own_Go p e below K T71 (mkF m 61 #[.val (.int x0), .val (.int y0), .val (.int z0), .val (.int (1 : Int32)), .val (.ref b68), .unset] [(.int (1 : Int32))])
      refine own_go (fun _ kk' => XS.iconst X71.here hx rfl (hb hby at_61) kk') ?_
      show own_Go p e below K T71 (mkF m 62 #[.val (.int x0), .val (.int y0), .val (.int z0), .val (.int (1 : Int32)), .val (.ref b68), .unset] [(.int (2 : Int32)), (.int (1 : Int32))])
      refine own_go (fun _ kk' => XS.icmpYes X71.here hx rfl (pc0 := 62) (pc' := 75) rfl (hb hby at_62) rfl (tlt ((by decide) : (1 : Int32) < (2 : Int32))).1 (by decide) (by decide) kk') ?_
      show own_Go p e below K T71 (mkF m 75 #[.val (.int x0), .val (.int y0), .val (.int z0), .val (.int (1 : Int32)), .val (.ref b68), .unset] [])
      refine own_go (fun _ kk' => XS.iloadN X71.here hx rfl (hb hby at_75) rfl  kk') ?_
      show own_Go p e below K T71 (mkF m 76 #[.val (.int x0), .val (.int y0), .val (.int z0), .val (.int (1 : Int32)), .val (.ref b68), .unset] [(.int (1 : Int32))])
      refine own_go (fun _ kk' => XS.iconst X71.here hx rfl (hb hby at_76) kk') ?_
      show own_Go p e below K T71 (mkF m 77 #[.val (.int x0), .val (.int y0), .val (.int z0), .val (.int (1 : Int32)), .val (.ref b68), .unset] [(.int (3 : Int32)), (.int (1 : Int32))])
      refine own_go (fun _ kk' => XS.icmpYes X71.here hx rfl (pc0 := 77) (pc' := 90) rfl (hb hby at_77) rfl (tlt ((by decide) : (1 : Int32) < (3 : Int32))).1 (by decide) (by decide) kk') ?_
      show own_Go p e below K T71 (mkF m 90 #[.val (.int x0), .val (.int y0), .val (.int z0), .val (.int (1 : Int32)), .val (.ref b68), .unset] [])
      refine own_go (fun _ kk' => XS.aload X71.here hx rfl (hb hby at_90) rfl rfl  kk') ?_
      show own_Go p e below K T71 (mkF m 92 #[.val (.int x0), .val (.int y0), .val (.int z0), .val (.int (1 : Int32)), .val (.ref b68), .unset] [(.ref b68)])
      refine own_callS X71 hx hZ (y := (⟨"com/example/raised_flags/raisedflags/document/Defaults", "list", "(Ljava/util/List;)Ljava/util/List;"⟩ : MethodName)) hown (hw _ (List.mem_of_getElem? (i := 26) rfl)) (hw _ (List.mem_of_getElem? (i := 27) rfl)) (hw _ (List.mem_of_getElem? (i := 28) rfl)) (hw _ (List.mem_of_getElem? (i := 29) rfl)) (by decide) rfl (rm := own_rmD1) (argsL := [(.ref b68)]) (rest := []) (own_mD1 l Z a0 hw b68 T71.heap n0 (Nat.le_trans (Nat.le_trans (Nat.le_trans (Nat.le_trans Z0 E68.1) Kq69.1) Kq70.1) Kq71.1)) (W := 0) (by decide) (by decide) (by decide) (by decide) (g := (mkF m 92 #[.val (.int x0), .val (.int y0), .val (.int z0), .val (.int (1 : Int32)), .val (.ref b68), .unset] [(.ref b68)])) rfl (by rw [hml]; rfl) (lenOf own_pd9 rfl) rfl (by show 2 * 0 + _ ≤ _; exact Nat.le_of_eq rfl) (hb hby at_92) ?_
      intro v72 T72 L72 X72 hQ72
      obtain ⟨rfl, Nq72, e72⟩ := hQ72
      have N72 := Fr.app N71 Nq72
      show own_Go p e below K T72 (mkF m 95 #[.val (.int x0), .val (.int y0), .val (.int z0), .val (.int (1 : Int32)), .val (.ref b68), .unset] [(.ref b68)])
      refine own_go (fun _ kk' => XS.astore X72.here hx rfl (hb hby at_95) rfl rfl (l' := #[.val (.int x0), .val (.int y0), .val (.int z0), .val (.int (1 : Int32)), .val (.ref b68), .val (.ref b68)]) rfl kk') ?_
      show own_Go p e below K T72 (mkF m 97 #[.val (.int x0), .val (.int y0), .val (.int z0), .val (.int (1 : Int32)), .val (.ref b68), .val (.ref b68)] [])
      refine own_go (fun _ kk' => XS.aload X72.here hx rfl (hb hby at_97) rfl rfl  kk') ?_
      show own_Go p e below K T72 (mkF m 99 #[.val (.int x0), .val (.int y0), .val (.int z0), .val (.int (1 : Int32)), .val (.ref b68), .val (.ref b68)] [(.ref b68)])
      refine own_go (fun _ kk' => XS.aload X72.here hx rfl (hb hby at_99) rfl rfl  kk') ?_
      show own_Go p e below K T72 (mkF m 101 #[.val (.int x0), .val (.int y0), .val (.int z0), .val (.int (1 : Int32)), .val (.ref b68), .val (.ref b68)] [(.ref b68), (.ref b68)])
      refine own_go (fun _ kk' => Jvm.RoadKit.acmp (g := (mkF m 101 #[.val (.int x0), .val (.int y0), .val (.int z0), .val (.int (1 : Int32)), .val (.ref b68), .val (.ref b68)] [(.ref b68), (.ref b68)])) X72 hx rfl rfl rfl (pc0 := 101) (pc' := 106) (same := true) rfl (hb hby at_101) rfl (decide_eq_true (rfl : (Value.ref b68) = (Value.ref b68))) (by decide) (by decide) kk') ?_
      show own_Go p e below K T72 (mkF m 106 #[.val (.int x0), .val (.int y0), .val (.int z0), .val (.int (1 : Int32)), .val (.ref b68), .val (.ref b68)] [])
      refine own_go (fun _ kk' => XS.aload X72.here hx rfl (hb hby at_106) rfl rfl  kk') ?_
      show own_Go p e below K T72 (mkF m 108 #[.val (.int x0), .val (.int y0), .val (.int z0), .val (.int (1 : Int32)), .val (.ref b68), .val (.ref b68)] [(.ref b68)])
      refine own_callF X72 hx hZ (C := "java/util/ArrayList") (xi := (⟨"java/util/List", "size", "()I"⟩ : MethodName)) (z := (⟨"java/util/ArrayList", "size", "()I"⟩ : MethodName)) hown (hw _ (List.mem_of_getElem? (i := 30) rfl)) (hw _ (List.mem_of_getElem? (i := 31) rfl)) (mvT hZ (hw _ (List.mem_of_getElem? (i := 32) rfl))) (hw _ (List.mem_of_getElem? (i := 33) rfl)) (hw _ (List.mem_of_getElem? (i := 34) rfl)) (hw _ (List.mem_of_getElem? (i := 35) rfl)) (hw _ (List.mem_of_getElem? (i := 36) rfl)) (hw _ (List.mem_of_getElem? (i := 37) rfl)) (hw _ (List.mem_of_getElem? (i := 2) rfl)) (hw _ (List.mem_of_getElem? (i := 38) rfl)) (by decide) e72 (rm := own_rmSZ) (a := b68) Lq71.1 (argsL := []) (rest := []) (own_mSZ l Z a0 hw b68 (.ref ar71) ((0 : Int32) + (1 : Int32)) (1 : Int32) T71.heap n0 (Nat.le_trans (Nat.le_trans (Nat.le_trans (Nat.le_trans Z0 E68.1) Kq69.1) Kq70.1) Kq71.1) ⟨Lq71.1, Lq71.2.1, Lq71.2.2.1, Lq71.2.2.2⟩) (W := 0) (by decide) (by decide) (by decide) (by decide) (g := (mkF m 108 #[.val (.int x0), .val (.int y0), .val (.int z0), .val (.int (1 : Int32)), .val (.ref b68), .val (.ref b68)] [(.ref b68)])) rfl (by rw [hml]; rfl) (lenOf own_pd10 rfl) rfl (by show 2 * 0 + _ ≤ _; exact Nat.le_of_eq rfl) (hb hby at_108) ?_
      intro v73 T73 L73 X73 hQ73
      obtain ⟨rfl, Nq73, e73⟩ := hQ73
      have N73 := Fr.app N72 Nq73
      show own_Go p e below K T73 (mkF m 113 #[.val (.int x0), .val (.int y0), .val (.int z0), .val (.int (1 : Int32)), .val (.ref b68), .val (.ref b68)] [(.int (1 : Int32))])
      refine own_go (fun _ kk' => XS.iloadN X73.here hx rfl (hb hby at_113) rfl  kk') ?_
      show own_Go p e below K T73 (mkF m 114 #[.val (.int x0), .val (.int y0), .val (.int z0), .val (.int (1 : Int32)), .val (.ref b68), .val (.ref b68)] [(.int (1 : Int32)), (.int (1 : Int32))])
      refine own_go (fun _ kk' => XS.icmpYes X73.here hx rfl (pc0 := 114) (pc' := 119) rfl (hb hby at_114) rfl (teq ((by decide) : (1 : Int32) = (1 : Int32))).1 (by decide) (by decide) kk') ?_
      show own_Go p e below K T73 (mkF m 119 #[.val (.int x0), .val (.int y0), .val (.int z0), .val (.int (1 : Int32)), .val (.ref b68), .val (.ref b68)] [])
      refine own_go (fun _ kk' => XS.iloadN X73.here hx rfl (hb hby at_119) rfl  kk') ?_
      show own_Go p e below K T73 (mkF m 120 #[.val (.int x0), .val (.int y0), .val (.int z0), .val (.int (1 : Int32)), .val (.ref b68), .val (.ref b68)] [(.int (1 : Int32))])
      refine own_go (fun _ kk' => XS.iconst X73.here hx rfl (hb hby at_120) kk') ?_
      show own_Go p e below K T73 (mkF m 121 #[.val (.int x0), .val (.int y0), .val (.int z0), .val (.int (1 : Int32)), .val (.ref b68), .val (.ref b68)] [(.int (1 : Int32)), (.int (1 : Int32))])
      refine own_go (fun _ kk' => XS.icmpNo X73.here hx rfl (hb hby at_121) rfl (flt ((by decide) : ¬ ((1 : Int32) < (1 : Int32)))).1 kk') ?_
      show own_Go p e below K T73 (mkF m 124 #[.val (.int x0), .val (.int y0), .val (.int z0), .val (.int (1 : Int32)), .val (.ref b68), .val (.ref b68)] [])
      refine own_go (fun _ kk' => XS.aload X73.here hx rfl (hb hby at_124) rfl rfl  kk') ?_
      show own_Go p e below K T73 (mkF m 126 #[.val (.int x0), .val (.int y0), .val (.int z0), .val (.int (1 : Int32)), .val (.ref b68), .val (.ref b68)] [(.ref b68)])
      refine own_go (fun _ kk' => XS.iconst X73.here hx rfl (hb hby at_126) kk') ?_
      show own_Go p e below K T73 (mkF m 127 #[.val (.int x0), .val (.int y0), .val (.int z0), .val (.int (1 : Int32)), .val (.ref b68), .val (.ref b68)] [(.int (0 : Int32)), (.ref b68)])
      refine own_callF X73 hx hZ (C := "java/util/ArrayList") (xi := (⟨"java/util/List", "get", "(I)Ljava/lang/Object;"⟩ : MethodName)) (z := (⟨"java/util/ArrayList", "get", "(I)Ljava/lang/Object;"⟩ : MethodName)) hown (hw _ (List.mem_of_getElem? (i := 92) rfl)) (hw _ (List.mem_of_getElem? (i := 93) rfl)) (mvT hZ (hw _ (List.mem_of_getElem? (i := 94) rfl))) (hw _ (List.mem_of_getElem? (i := 95) rfl)) (hw _ (List.mem_of_getElem? (i := 96) rfl)) (hw _ (List.mem_of_getElem? (i := 97) rfl)) (hw _ (List.mem_of_getElem? (i := 98) rfl)) (hw _ (List.mem_of_getElem? (i := 37) rfl)) (hw _ (List.mem_of_getElem? (i := 2) rfl)) (hw _ (List.mem_of_getElem? (i := 99) rfl)) (by decide) e73 (rm := own_rmGT) (a := b68) Lq71.1 (argsL := [(.int (0 : Int32))]) (rest := []) (own_mGT l Z a0 hw b68 ar71 bq70 kr71 [(.ref bq70), .null, .null, .null, .null, .null, .null, .null, .null, .null] (0 : Int32) ((0 : Int32) + (1 : Int32)) (1 : Int32) T71.heap n0 (Nat.le_trans (Nat.le_trans (Nat.le_trans (Nat.le_trans Z0 E68.1) Kq69.1) Kq70.1) Kq71.1) ⟨Lq71.1, Lq71.2.1, Lq71.2.2.1, Lq71.2.2.2⟩ Vq71 (by decide) (by decide) rfl (by decide)) (W := 0) (by decide) (by decide) (by decide) (by decide) (g := (mkF m 127 #[.val (.int x0), .val (.int y0), .val (.int z0), .val (.int (1 : Int32)), .val (.ref b68), .val (.ref b68)] [(.int (0 : Int32)), (.ref b68)])) rfl (by rw [hml]; rfl) (lenOf own_pd7 rfl) rfl (by show 2 * 0 + _ ≤ _; exact Nat.le_of_eq rfl) (hb hby at_127) ?_
      intro v74 T74 L74 X74 hQ74
      obtain ⟨rfl, Nq74, e74⟩ := hQ74
      have N74 := Fr.app N73 Nq74
      show own_Go p e below K T74 (mkF m 132 #[.val (.int x0), .val (.int y0), .val (.int z0), .val (.int (1 : Int32)), .val (.ref b68), .val (.ref b68)] [(.ref bq70)])
      obtain ⟨T75, X75, e75, st75⟩ := castY X74 hx hZ hown (hw _ (List.mem_of_getElem? (i := 113) rfl)) e74 (Ins.self (Eq70.keep Kq71)) (g := (mkF m 132 #[.val (.int x0), .val (.int y0), .val (.int z0), .val (.int (1 : Int32)), .val (.ref b68), .val (.ref b68)] [(.ref bq70)])) rfl rfl (hb hby at_132)
      refine own_go st75 ?_
      show own_Go p e below K T75 (mkF m 135 #[.val (.int x0), .val (.int y0), .val (.int z0), .val (.int (1 : Int32)), .val (.ref b68), .val (.ref b68)] [(.ref bq70)])
      refine own_callV X75 hx hZ (C := "java/lang/Integer") (y := (⟨"java/lang/Integer", "intValue", "()I"⟩ : MethodName)) (z := (⟨"java/lang/Integer", "intValue", "()I"⟩ : MethodName)) hown (hw _ (List.mem_of_getElem? (i := 115) rfl)) (hw _ (List.mem_of_getElem? (i := 116) rfl)) (notFace_of_selects (args := #[]) (mvT hZ (hw _ (List.mem_of_getElem? (i := 118) rfl)))) (hw _ (List.mem_of_getElem? (i := 118) rfl)) (hw _ (List.mem_of_getElem? (i := 117) rfl)) (hw _ (List.mem_of_getElem? (i := 58) rfl)) (hw _ (List.mem_of_getElem? (i := 119) rfl)) (by decide) e75 (rm := own_rmVI) (a := bq70) (Eq70.keep Kq71) (argsL := []) (rest := []) (own_mVI l Z a0 hw bq70 y0 T71.heap n0 (Nat.le_trans (Nat.le_trans (Nat.le_trans (Nat.le_trans Z0 E68.1) Kq69.1) Kq70.1) Kq71.1) (Fq70.keep Kq71 (ninS (ne_exa (Eq70.keep Kq71) Lq71.1 (by decide)) nin0))) (W := 0) (by decide) (by decide) (by decide) (by decide) (g := (mkF m 135 #[.val (.int x0), .val (.int y0), .val (.int z0), .val (.int (1 : Int32)), .val (.ref b68), .val (.ref b68)] [(.ref bq70)])) rfl (by rw [hml]; rfl) (lenOf own_pd10 rfl) rfl (by show 2 * 0 + _ ≤ _; exact Nat.le_of_eq rfl) (hb hby at_135) ?_
      intro v76 T76 L76 X76 hQ76
      obtain ⟨rfl, Nq76, e76⟩ := hQ76
      have N76 := Fr.app N74 Nq76
      show own_Go p e below K T76 (mkF m 138 #[.val (.int x0), .val (.int y0), .val (.int z0), .val (.int (1 : Int32)), .val (.ref b68), .val (.ref b68)] [(.int y0)])
      refine own_go (fun _ kk' => XS.iloadN X76.here hx rfl (hb hby at_138) rfl  kk') ?_
      show own_Go p e below K T76 (mkF m 139 #[.val (.int x0), .val (.int y0), .val (.int z0), .val (.int (1 : Int32)), .val (.ref b68), .val (.ref b68)] [(.int y0), (.int y0)])
      refine own_go (fun _ kk' => XS.icmpYes X76.here hx rfl (pc0 := 139) (pc' := 144) rfl (hb hby at_139) rfl (teq (rfl : y0 = y0)).1 (by decide) (by decide) kk') ?_
      show own_Go p e below K T76 (mkF m 144 #[.val (.int x0), .val (.int y0), .val (.int z0), .val (.int (1 : Int32)), .val (.ref b68), .val (.ref b68)] [])
      refine own_go (fun _ kk' => XS.iloadN X76.here hx rfl (hb hby at_144) rfl  kk') ?_
      show own_Go p e below K T76 (mkF m 145 #[.val (.int x0), .val (.int y0), .val (.int z0), .val (.int (1 : Int32)), .val (.ref b68), .val (.ref b68)] [(.int (1 : Int32))])
      refine own_go (fun _ kk' => XS.iconst X76.here hx rfl (hb hby at_145) kk') ?_
      show own_Go p e below K T76 (mkF m 146 #[.val (.int x0), .val (.int y0), .val (.int z0), .val (.int (1 : Int32)), .val (.ref b68), .val (.ref b68)] [(.int (2 : Int32)), (.int (1 : Int32))])
      refine own_go (fun _ kk' => XS.icmpYes X76.here hx rfl (pc0 := 146) (pc' := 169) rfl (hb hby at_146) rfl (tlt ((by decide) : (1 : Int32) < (2 : Int32))).1 (by decide) (by decide) kk') ?_
      show own_Go p e below K T76 (mkF m 169 #[.val (.int x0), .val (.int y0), .val (.int z0), .val (.int (1 : Int32)), .val (.ref b68), .val (.ref b68)] [])
      refine own_go (fun _ kk' => XS.iconst X76.here hx rfl (hb hby at_169) kk') ?_
      show own_Go p e below K T76 (mkF m 170 #[.val (.int x0), .val (.int y0), .val (.int z0), .val (.int (1 : Int32)), .val (.ref b68), .val (.ref b68)] [(.int (1 : Int32))])
      exact own_retZ X76 hx hlk hK hret (by decide) (hb hby at_170) (by decide) (by decide) (by rw [e76]; exact ⟨rfl, N76⟩)
    · rw [hn4]
      show own_Go p e below K T0 (mkF m 35 #[.val (.int x0), .val (.int y0), .val (.int z0), .unset, .unset, .unset] [(.int (2 : Int32))])
      refine own_go (fun _ kk' => XS.istoreN X0.here hx rfl (hb hby at_35) rfl (l' := #[.val (.int x0), .val (.int y0), .val (.int z0), .val (.int (2 : Int32)), .unset, .unset]) rfl kk') ?_
      show own_Go p e below K T0 (mkF m 36 #[.val (.int x0), .val (.int y0), .val (.int z0), .val (.int (2 : Int32)), .unset, .unset] [])
      obtain ⟨T77, h77, X77, e77, E77, A77, D77, -, st77⟩ := newO X0 hx hZ hown (hw _ (List.mem_of_getElem? (i := 0) rfl)) (hw _ (List.mem_of_getElem? (i := 1) rfl)) (hw _ (List.mem_of_getElem? (i := 2) rfl)) e0 (g := (mkF m 36 #[.val (.int x0), .val (.int y0), .val (.int z0), .val (.int (2 : Int32)), .unset, .unset] [])) rfl (hb hby at_36) (by decide) (by decide)
      obtain ⟨b77, g77⟩ : ∃ z, z = h0.size := ⟨_, rfl⟩
      rw [← g77] at A77 D77 st77
      have gp77 : n0 ≤ b77 := Nat.le_trans Z0 (Nat.le_of_eq g77.symm)
      have sz77 : h0.size ≤ b77 := Nat.le_trans (Nat.le_refl _) (Nat.le_of_eq g77.symm)
      have F77_modCount : Fld Z h77 b77 "java/util/AbstractList" "modCount" "I" (.int (0 : Int32)) := D77 (Or.inl (hw _ (List.mem_of_getElem? (i := 22) rfl))) (ty := .int) (by decide)
      have F77_elementData : Fld Z h77 b77 "java/util/ArrayList" "elementData" "[Ljava/lang/Object;" .null := D77 (Or.inl (hw _ (List.mem_of_getElem? (i := 25) rfl))) (ty := (.array (.object "java/lang/Object"))) (by decide)
      have F77_size : Fld Z h77 b77 "java/util/ArrayList" "size" "I" (.int (0 : Int32)) := D77 (Or.inl (hw _ (List.mem_of_getElem? (i := 40) rfl))) (ty := .int) (by decide)
      refine own_go st77 ?_
      show own_Go p e below K T77 (mkF m 39 #[.val (.int x0), .val (.int y0), .val (.int z0), .val (.int (2 : Int32)), .unset, .unset] [(.ref b77)])
      refine own_go (fun _ kk' => XS.dup X77.here hx rfl (hb hby at_39) rfl rfl kk') ?_
      show own_Go p e below K T77 (mkF m 40 #[.val (.int x0), .val (.int y0), .val (.int z0), .val (.int (2 : Int32)), .unset, .unset] [(.ref b77), (.ref b77)])
      refine own_callI X77 hx hZ (y := (⟨"java/util/ArrayList", "<init>", "()V"⟩ : MethodName)) rfl hown (hw _ (List.mem_of_getElem? (i := 3) rfl)) (hw _ (List.mem_of_getElem? (i := 4) rfl)) (hw _ (List.mem_of_getElem? (i := 2) rfl)) (hw _ (List.mem_of_getElem? (i := 5) rfl)) (by decide) e77 (rm := own_rmNW) (a := b77) (argsL := []) (rest := [(.ref b77)]) (own_mNW l Z a0 hw b77 de .null (0 : Int32) (0 : Int32) h77 n0 (Nat.le_trans Z0 E77.1) ⟨A77, F77_modCount, F77_elementData, F77_size⟩ gp77 (O0.ext E77) SD) (W := 1) (by decide) (by decide) (by decide) (by decide) (g := (mkF m 40 #[.val (.int x0), .val (.int y0), .val (.int z0), .val (.int (2 : Int32)), .unset, .unset] [(.ref b77), (.ref b77)])) rfl (by rw [hml]; rfl) (lenOf own_pd0 rfl) rfl (by show 2 * 0 + _ ≤ _; exact Nat.le_of_eq rfl) (hb hby at_40) ?_
      intro v78 T78 L78 X78 hQ78
      obtain ⟨rfl, Nq78, Kq78, Lq78⟩ := hQ78
      have N78 := Fr.app N0 Nq78
      show own_Go p e below K T78 (mkF m 43 #[.val (.int x0), .val (.int y0), .val (.int z0), .val (.int (2 : Int32)), .unset, .unset] [(.ref b77)])
      refine own_go (fun _ kk' => XS.astore X78.here hx rfl (hb hby at_43) rfl rfl (l' := #[.val (.int x0), .val (.int y0), .val (.int z0), .val (.int (2 : Int32)), .val (.ref b77), .unset]) rfl kk') ?_
      show own_Go p e below K T78 (mkF m 45 #[.val (.int x0), .val (.int y0), .val (.int z0), .val (.int (2 : Int32)), .val (.ref b77), .unset] [])
      refine own_go (fun _ kk' => XS.iloadN X78.here hx rfl (hb hby at_45) rfl  kk') ?_
      show own_Go p e below K T78 (mkF m 46 #[.val (.int x0), .val (.int y0), .val (.int z0), .val (.int (2 : Int32)), .val (.ref b77), .unset] [(.int (2 : Int32))])
      refine own_go (fun _ kk' => XS.iconst X78.here hx rfl (hb hby at_46) kk') ?_
      show own_Go p e below K T78 (mkF m 47 #[.val (.int x0), .val (.int y0), .val (.int z0), .val (.int (2 : Int32)), .val (.ref b77), .unset] [(.int (1 : Int32)), (.int (2 : Int32))])
      refine own_go (fun _ kk' => XS.icmpNo X78.here hx rfl (hb hby at_47) rfl (flt ((by decide) : ¬ ((2 : Int32) < (1 : Int32)))).1 kk') ?_
      show own_Go p e below K T78 (mkF m 50 #[.val (.int x0), .val (.int y0), .val (.int z0), .val (.int (2 : Int32)), .val (.ref b77), .unset] [])
      refine own_go (fun _ kk' => XS.aload X78.here hx rfl (hb hby at_50) rfl rfl  kk') ?_
      show own_Go p e below K T78 (mkF m 52 #[.val (.int x0), .val (.int y0), .val (.int z0), .val (.int (2 : Int32)), .val (.ref b77), .unset] [(.ref b77)])
      refine own_go (fun _ kk' => XS.iloadN X78.here hx rfl (hb hby at_52) rfl  kk') ?_
      show own_Go p e below K T78 (mkF m 53 #[.val (.int x0), .val (.int y0), .val (.int z0), .val (.int (2 : Int32)), .val (.ref b77), .unset] [(.int y0), (.ref b77)])
      refine own_callS X78 hx hZ (y := (⟨"java/lang/Integer", "valueOf", "(I)Ljava/lang/Integer;"⟩ : MethodName)) hown (hw _ (List.mem_of_getElem? (i := 56) rfl)) (hw _ (List.mem_of_getElem? (i := 57) rfl)) (hw _ (List.mem_of_getElem? (i := 58) rfl)) (hw _ (List.mem_of_getElem? (i := 59) rfl)) (by decide) rfl (rm := own_rmIV) (argsL := [(.int y0)]) (rest := [(.ref b77)]) (own_mIV l Z a0 hw y0 ca ccl T78.heap n0 (Nat.le_trans (Nat.le_trans Z0 E77.1) Kq78.1) ((O0.ext E77).keep Kq78 (allS gp77 all0)) SH SC HC) (W := 1) (by decide) (by decide) (by decide) (by decide) (g := (mkF m 53 #[.val (.int x0), .val (.int y0), .val (.int z0), .val (.int (2 : Int32)), .val (.ref b77), .unset] [(.int y0), (.ref b77)])) rfl (by rw [hml]; rfl) (lenOf own_pd11 rfl) rfl (by show 2 * 0 + _ ≤ _; exact Nat.le_of_eq rfl) (hb hby at_53) ?_
      intro v79 T79 L79 X79 hQ79
      obtain ⟨bq79, rfl, Nq79, Kq79, Eq79, Fq79⟩ := hQ79
      have N79 := Fr.app N78 Nq79
      show own_Go p e below K T79 (mkF m 56 #[.val (.int x0), .val (.int y0), .val (.int z0), .val (.int (2 : Int32)), .val (.ref b77), .unset] [(.ref bq79), (.ref b77)])
      refine own_callV X79 hx hZ (C := "java/util/ArrayList") (y := (⟨"java/util/ArrayList", "add", "(Ljava/lang/Object;)Z"⟩ : MethodName)) (z := (⟨"java/util/ArrayList", "add", "(Ljava/lang/Object;)Z"⟩ : MethodName)) hown (hw _ (List.mem_of_getElem? (i := 63) rfl)) (hw _ (List.mem_of_getElem? (i := 64) rfl)) (notFace_of_selects (args := #[]) (mvT hZ (hw _ (List.mem_of_getElem? (i := 66) rfl)))) (hw _ (List.mem_of_getElem? (i := 66) rfl)) (hw _ (List.mem_of_getElem? (i := 65) rfl)) (hw _ (List.mem_of_getElem? (i := 2) rfl)) (hw _ (List.mem_of_getElem? (i := 67) rfl)) (by decide) rfl (rm := own_rmA1) (a := b77) (Lq78.1.keep Kq79) (argsL := [(.ref bq79)]) (rest := []) (own_mA1 l Z a0 hw b77 de bq79 (0 : Int32) kd T79.heap n0 (Nat.le_trans (Nat.le_trans (Nat.le_trans Z0 E77.1) Kq78.1) Kq79.1) ⟨(Lq78.1.keep Kq79), (Lq78.2.1.keep Kq79 nin0), (Lq78.2.2.1.keep Kq79 nin0), (Lq78.2.2.2.keep Kq79 nin0)⟩ gp77 (((O0.ext E77).keep Kq78 (allS gp77 all0)).keep Kq79 all0) SD VD (Ins.of_exa Eq79 (hw _ (List.mem_of_getElem? (i := 91) rfl)))) (W := 0) (by decide) (by decide) (by decide) (by decide) (g := (mkF m 56 #[.val (.int x0), .val (.int y0), .val (.int z0), .val (.int (2 : Int32)), .val (.ref b77), .unset] [(.ref bq79), (.ref b77)])) rfl (by rw [hml]; rfl) (lenOf own_pd12 rfl) rfl (by show 2 * 0 + _ ≤ _; exact Nat.le_of_eq rfl) (hb hby at_56) ?_
      intro v80 T80 L80 X80 hQ80
      obtain ⟨ar80, kr80, rfl, Nq80, Kq80, Lq80, Vq80, Oq80, Zq80, Gq80⟩ := hQ80
      have N80 := Fr.app N79 Nq80
      show own_Go p e below K T80 (mkF m 59 #[.val (.int x0), .val (.int y0), .val (.int z0), .val (.int (2 : Int32)), .val (.ref b77), .unset] [(.int (1 : Int32))])
      refine own_go (fun _ kk' => XS.pop X80.here hx rfl (hb hby at_59) rfl rfl kk') ?_
      show own_Go p e below K T80 (mkF m 60 #[.val (.int x0), .val (.int y0), .val (.int z0), .val (.int (2 : Int32)), .val (.ref b77), .unset] [])
      refine own_go (fun _ kk' => XS.iloadN X80.here hx rfl (hb hby at_60) rfl  kk') ?_
      show own_Go p e below K T80 (mkF m 61 #[.val (.int x0), .val (.int y0), .val (.int z0), .val (.int (2 : Int32)), .val (.ref b77), .unset] [(.int (2 : Int32))])
      refine own_go (fun _ kk' => XS.iconst X80.here hx rfl (hb hby at_61) kk') ?_
      show own_Go p e below K T80 (mkF m 62 #[.val (.int x0), .val (.int y0), .val (.int z0), .val (.int (2 : Int32)), .val (.ref b77), .unset] [(.int (2 : Int32)), (.int (2 : Int32))])
      refine own_go (fun _ kk' => XS.icmpNo X80.here hx rfl (hb hby at_62) rfl (flt ((by decide) : ¬ ((2 : Int32) < (2 : Int32)))).1 kk') ?_
      show own_Go p e below K T80 (mkF m 65 #[.val (.int x0), .val (.int y0), .val (.int z0), .val (.int (2 : Int32)), .val (.ref b77), .unset] [])
      refine own_go (fun _ kk' => XS.aload X80.here hx rfl (hb hby at_65) rfl rfl  kk') ?_
      show own_Go p e below K T80 (mkF m 67 #[.val (.int x0), .val (.int y0), .val (.int z0), .val (.int (2 : Int32)), .val (.ref b77), .unset] [(.ref b77)])
      refine own_go (fun _ kk' => XS.iloadN X80.here hx rfl (hb hby at_67) rfl  kk') ?_
      show own_Go p e below K T80 (mkF m 68 #[.val (.int x0), .val (.int y0), .val (.int z0), .val (.int (2 : Int32)), .val (.ref b77), .unset] [(.int z0), (.ref b77)])
      refine own_callS X80 hx hZ (y := (⟨"java/lang/Integer", "valueOf", "(I)Ljava/lang/Integer;"⟩ : MethodName)) hown (hw _ (List.mem_of_getElem? (i := 56) rfl)) (hw _ (List.mem_of_getElem? (i := 57) rfl)) (hw _ (List.mem_of_getElem? (i := 58) rfl)) (hw _ (List.mem_of_getElem? (i := 59) rfl)) (by decide) rfl (rm := own_rmIV) (argsL := [(.int z0)]) (rest := [(.ref b77)]) (own_mIV l Z a0 hw z0 ca ccl T80.heap n0 (Nat.le_trans (Nat.le_trans (Nat.le_trans (Nat.le_trans Z0 E77.1) Kq78.1) Kq79.1) Kq80.1) ((((O0.ext E77).keep Kq78 (allS gp77 all0)).keep Kq79 all0).keep Kq80 (allS gp77 all0)) SH SC HC) (W := 1) (by decide) (by decide) (by decide) (by decide) (g := (mkF m 68 #[.val (.int x0), .val (.int y0), .val (.int z0), .val (.int (2 : Int32)), .val (.ref b77), .unset] [(.int z0), (.ref b77)])) rfl (by rw [hml]; rfl) (lenOf own_pd11 rfl) rfl (by show 2 * 0 + _ ≤ _; exact Nat.le_of_eq rfl) (hb hby at_68) ?_
      intro v81 T81 L81 X81 hQ81
      obtain ⟨bq81, rfl, Nq81, Kq81, Eq81, Fq81⟩ := hQ81
      have N81 := Fr.app N80 Nq81
      show own_Go p e below K T81 (mkF m 71 #[.val (.int x0), .val (.int y0), .val (.int z0), .val (.int (2 : Int32)), .val (.ref b77), .unset] [(.ref bq81), (.ref b77)])
      refine own_callV X81 hx hZ (C := "java/util/ArrayList") (y := (⟨"java/util/ArrayList", "add", "(Ljava/lang/Object;)Z"⟩ : MethodName)) (z := (⟨"java/util/ArrayList", "add", "(Ljava/lang/Object;)Z"⟩ : MethodName)) hown (hw _ (List.mem_of_getElem? (i := 63) rfl)) (hw _ (List.mem_of_getElem? (i := 64) rfl)) (notFace_of_selects (args := #[]) (mvT hZ (hw _ (List.mem_of_getElem? (i := 66) rfl)))) (hw _ (List.mem_of_getElem? (i := 66) rfl)) (hw _ (List.mem_of_getElem? (i := 65) rfl)) (hw _ (List.mem_of_getElem? (i := 2) rfl)) (hw _ (List.mem_of_getElem? (i := 67) rfl)) (by decide) rfl (rm := own_rmA2) (a := b77) (Lq80.1.keep Kq81) (argsL := [(.ref bq81)]) (rest := []) (own_mA2 l Z a0 hw b77 ar80 bq79 bq81 kr80 ((0 : Int32) + (1 : Int32)) T81.heap n0 (Nat.le_trans (Nat.le_trans (Nat.le_trans (Nat.le_trans (Nat.le_trans Z0 E77.1) Kq78.1) Kq79.1) Kq80.1) Kq81.1) ⟨(Lq80.1.keep Kq81), (Lq80.2.1.keep Kq81 nin0), (Lq80.2.2.1.keep Kq81 nin0), (Lq80.2.2.2.keep Kq81 nin0)⟩ gp77 Gq80 (Vq80.keep Kq81 nin0) Oq80 (Ins.of_exa Eq81 (hw _ (List.mem_of_getElem? (i := 91) rfl)))) (W := 0) (by decide) (by decide) (by decide) (by decide) (g := (mkF m 71 #[.val (.int x0), .val (.int y0), .val (.int z0), .val (.int (2 : Int32)), .val (.ref b77), .unset] [(.ref bq81), (.ref b77)])) rfl (by rw [hml]; rfl) (lenOf own_pd12 rfl) rfl (by show 2 * 0 + _ ≤ _; exact Nat.le_of_eq rfl) (hb hby at_71) ?_
      intro v82 T82 L82 X82 hQ82
      obtain ⟨rfl, Nq82, Kq82, Lq82, Vq82⟩ := hQ82
      have N82 := Fr.app N81 Nq82
      show own_Go p e below K T82 (mkF m 74 #[.val (.int x0), .val (.int y0), .val (.int z0), .val (.int (2 : Int32)), .val (.ref b77), .unset] [(.int (1 : Int32))])
      refine own_go (fun _ kk' => XS.pop X82.here hx rfl (hb hby at_74) rfl rfl kk') ?_
      show own_Go p e below K T82 (mkF m 75 #[.val (.int x0), .val (.int y0), .val (.int z0), .val (.int (2 : Int32)), .val (.ref b77), .unset] [])
      refine own_go (fun _ kk' => XS.iloadN X82.here hx rfl (hb hby at_75) rfl  kk') ?_
      show own_Go p e below K T82 (mkF m 76 #[.val (.int x0), .val (.int y0), .val (.int z0), .val (.int (2 : Int32)), .val (.ref b77), .unset] [(.int (2 : Int32))])
      refine own_go (fun _ kk' => XS.iconst X82.here hx rfl (hb hby at_76) kk') ?_
      show own_Go p e below K T82 (mkF m 77 #[.val (.int x0), .val (.int y0), .val (.int z0), .val (.int (2 : Int32)), .val (.ref b77), .unset] [(.int (3 : Int32)), (.int (2 : Int32))])
      refine own_go (fun _ kk' => XS.icmpYes X82.here hx rfl (pc0 := 77) (pc' := 90) rfl (hb hby at_77) rfl (tlt ((by decide) : (2 : Int32) < (3 : Int32))).1 (by decide) (by decide) kk') ?_
      show own_Go p e below K T82 (mkF m 90 #[.val (.int x0), .val (.int y0), .val (.int z0), .val (.int (2 : Int32)), .val (.ref b77), .unset] [])
      refine own_go (fun _ kk' => XS.aload X82.here hx rfl (hb hby at_90) rfl rfl  kk') ?_
      show own_Go p e below K T82 (mkF m 92 #[.val (.int x0), .val (.int y0), .val (.int z0), .val (.int (2 : Int32)), .val (.ref b77), .unset] [(.ref b77)])
      refine own_callS X82 hx hZ (y := (⟨"com/example/raised_flags/raisedflags/document/Defaults", "list", "(Ljava/util/List;)Ljava/util/List;"⟩ : MethodName)) hown (hw _ (List.mem_of_getElem? (i := 26) rfl)) (hw _ (List.mem_of_getElem? (i := 27) rfl)) (hw _ (List.mem_of_getElem? (i := 28) rfl)) (hw _ (List.mem_of_getElem? (i := 29) rfl)) (by decide) rfl (rm := own_rmD1) (argsL := [(.ref b77)]) (rest := []) (own_mD1 l Z a0 hw b77 T82.heap n0 (Nat.le_trans (Nat.le_trans (Nat.le_trans (Nat.le_trans (Nat.le_trans (Nat.le_trans Z0 E77.1) Kq78.1) Kq79.1) Kq80.1) Kq81.1) Kq82.1)) (W := 0) (by decide) (by decide) (by decide) (by decide) (g := (mkF m 92 #[.val (.int x0), .val (.int y0), .val (.int z0), .val (.int (2 : Int32)), .val (.ref b77), .unset] [(.ref b77)])) rfl (by rw [hml]; rfl) (lenOf own_pd9 rfl) rfl (by show 2 * 0 + _ ≤ _; exact Nat.le_of_eq rfl) (hb hby at_92) ?_
      intro v83 T83 L83 X83 hQ83
      obtain ⟨rfl, Nq83, e83⟩ := hQ83
      have N83 := Fr.app N82 Nq83
      show own_Go p e below K T83 (mkF m 95 #[.val (.int x0), .val (.int y0), .val (.int z0), .val (.int (2 : Int32)), .val (.ref b77), .unset] [(.ref b77)])
      refine own_go (fun _ kk' => XS.astore X83.here hx rfl (hb hby at_95) rfl rfl (l' := #[.val (.int x0), .val (.int y0), .val (.int z0), .val (.int (2 : Int32)), .val (.ref b77), .val (.ref b77)]) rfl kk') ?_
      show own_Go p e below K T83 (mkF m 97 #[.val (.int x0), .val (.int y0), .val (.int z0), .val (.int (2 : Int32)), .val (.ref b77), .val (.ref b77)] [])
      refine own_go (fun _ kk' => XS.aload X83.here hx rfl (hb hby at_97) rfl rfl  kk') ?_
      show own_Go p e below K T83 (mkF m 99 #[.val (.int x0), .val (.int y0), .val (.int z0), .val (.int (2 : Int32)), .val (.ref b77), .val (.ref b77)] [(.ref b77)])
      refine own_go (fun _ kk' => XS.aload X83.here hx rfl (hb hby at_99) rfl rfl  kk') ?_
      show own_Go p e below K T83 (mkF m 101 #[.val (.int x0), .val (.int y0), .val (.int z0), .val (.int (2 : Int32)), .val (.ref b77), .val (.ref b77)] [(.ref b77), (.ref b77)])
      refine own_go (fun _ kk' => Jvm.RoadKit.acmp (g := (mkF m 101 #[.val (.int x0), .val (.int y0), .val (.int z0), .val (.int (2 : Int32)), .val (.ref b77), .val (.ref b77)] [(.ref b77), (.ref b77)])) X83 hx rfl rfl rfl (pc0 := 101) (pc' := 106) (same := true) rfl (hb hby at_101) rfl (decide_eq_true (rfl : (Value.ref b77) = (Value.ref b77))) (by decide) (by decide) kk') ?_
      show own_Go p e below K T83 (mkF m 106 #[.val (.int x0), .val (.int y0), .val (.int z0), .val (.int (2 : Int32)), .val (.ref b77), .val (.ref b77)] [])
      refine own_go (fun _ kk' => XS.aload X83.here hx rfl (hb hby at_106) rfl rfl  kk') ?_
      show own_Go p e below K T83 (mkF m 108 #[.val (.int x0), .val (.int y0), .val (.int z0), .val (.int (2 : Int32)), .val (.ref b77), .val (.ref b77)] [(.ref b77)])
      refine own_callF X83 hx hZ (C := "java/util/ArrayList") (xi := (⟨"java/util/List", "size", "()I"⟩ : MethodName)) (z := (⟨"java/util/ArrayList", "size", "()I"⟩ : MethodName)) hown (hw _ (List.mem_of_getElem? (i := 30) rfl)) (hw _ (List.mem_of_getElem? (i := 31) rfl)) (mvT hZ (hw _ (List.mem_of_getElem? (i := 32) rfl))) (hw _ (List.mem_of_getElem? (i := 33) rfl)) (hw _ (List.mem_of_getElem? (i := 34) rfl)) (hw _ (List.mem_of_getElem? (i := 35) rfl)) (hw _ (List.mem_of_getElem? (i := 36) rfl)) (hw _ (List.mem_of_getElem? (i := 37) rfl)) (hw _ (List.mem_of_getElem? (i := 2) rfl)) (hw _ (List.mem_of_getElem? (i := 38) rfl)) (by decide) e83 (rm := own_rmSZ) (a := b77) Lq82.1 (argsL := []) (rest := []) (own_mSZ l Z a0 hw b77 (.ref ar80) (((0 : Int32) + (1 : Int32)) + (1 : Int32)) (2 : Int32) T82.heap n0 (Nat.le_trans (Nat.le_trans (Nat.le_trans (Nat.le_trans (Nat.le_trans (Nat.le_trans Z0 E77.1) Kq78.1) Kq79.1) Kq80.1) Kq81.1) Kq82.1) ⟨Lq82.1, Lq82.2.1, Lq82.2.2.1, Lq82.2.2.2⟩) (W := 0) (by decide) (by decide) (by decide) (by decide) (g := (mkF m 108 #[.val (.int x0), .val (.int y0), .val (.int z0), .val (.int (2 : Int32)), .val (.ref b77), .val (.ref b77)] [(.ref b77)])) rfl (by rw [hml]; rfl) (lenOf own_pd10 rfl) rfl (by show 2 * 0 + _ ≤ _; exact Nat.le_of_eq rfl) (hb hby at_108) ?_
      intro v84 T84 L84 X84 hQ84
      obtain ⟨rfl, Nq84, e84⟩ := hQ84
      have N84 := Fr.app N83 Nq84
      show own_Go p e below K T84 (mkF m 113 #[.val (.int x0), .val (.int y0), .val (.int z0), .val (.int (2 : Int32)), .val (.ref b77), .val (.ref b77)] [(.int (2 : Int32))])
      refine own_go (fun _ kk' => XS.iloadN X84.here hx rfl (hb hby at_113) rfl  kk') ?_
      show own_Go p e below K T84 (mkF m 114 #[.val (.int x0), .val (.int y0), .val (.int z0), .val (.int (2 : Int32)), .val (.ref b77), .val (.ref b77)] [(.int (2 : Int32)), (.int (2 : Int32))])
      refine own_go (fun _ kk' => XS.icmpYes X84.here hx rfl (pc0 := 114) (pc' := 119) rfl (hb hby at_114) rfl (teq ((by decide) : (2 : Int32) = (2 : Int32))).1 (by decide) (by decide) kk') ?_
      show own_Go p e below K T84 (mkF m 119 #[.val (.int x0), .val (.int y0), .val (.int z0), .val (.int (2 : Int32)), .val (.ref b77), .val (.ref b77)] [])
      refine own_go (fun _ kk' => XS.iloadN X84.here hx rfl (hb hby at_119) rfl  kk') ?_
      show own_Go p e below K T84 (mkF m 120 #[.val (.int x0), .val (.int y0), .val (.int z0), .val (.int (2 : Int32)), .val (.ref b77), .val (.ref b77)] [(.int (2 : Int32))])
      refine own_go (fun _ kk' => XS.iconst X84.here hx rfl (hb hby at_120) kk') ?_
      show own_Go p e below K T84 (mkF m 121 #[.val (.int x0), .val (.int y0), .val (.int z0), .val (.int (2 : Int32)), .val (.ref b77), .val (.ref b77)] [(.int (1 : Int32)), (.int (2 : Int32))])
      refine own_go (fun _ kk' => XS.icmpNo X84.here hx rfl (hb hby at_121) rfl (flt ((by decide) : ¬ ((2 : Int32) < (1 : Int32)))).1 kk') ?_
      show own_Go p e below K T84 (mkF m 124 #[.val (.int x0), .val (.int y0), .val (.int z0), .val (.int (2 : Int32)), .val (.ref b77), .val (.ref b77)] [])
      refine own_go (fun _ kk' => XS.aload X84.here hx rfl (hb hby at_124) rfl rfl  kk') ?_
      show own_Go p e below K T84 (mkF m 126 #[.val (.int x0), .val (.int y0), .val (.int z0), .val (.int (2 : Int32)), .val (.ref b77), .val (.ref b77)] [(.ref b77)])
      refine own_go (fun _ kk' => XS.iconst X84.here hx rfl (hb hby at_126) kk') ?_
      show own_Go p e below K T84 (mkF m 127 #[.val (.int x0), .val (.int y0), .val (.int z0), .val (.int (2 : Int32)), .val (.ref b77), .val (.ref b77)] [(.int (0 : Int32)), (.ref b77)])
      refine own_callF X84 hx hZ (C := "java/util/ArrayList") (xi := (⟨"java/util/List", "get", "(I)Ljava/lang/Object;"⟩ : MethodName)) (z := (⟨"java/util/ArrayList", "get", "(I)Ljava/lang/Object;"⟩ : MethodName)) hown (hw _ (List.mem_of_getElem? (i := 92) rfl)) (hw _ (List.mem_of_getElem? (i := 93) rfl)) (mvT hZ (hw _ (List.mem_of_getElem? (i := 94) rfl))) (hw _ (List.mem_of_getElem? (i := 95) rfl)) (hw _ (List.mem_of_getElem? (i := 96) rfl)) (hw _ (List.mem_of_getElem? (i := 97) rfl)) (hw _ (List.mem_of_getElem? (i := 98) rfl)) (hw _ (List.mem_of_getElem? (i := 37) rfl)) (hw _ (List.mem_of_getElem? (i := 2) rfl)) (hw _ (List.mem_of_getElem? (i := 99) rfl)) (by decide) e84 (rm := own_rmGT) (a := b77) Lq82.1 (argsL := [(.int (0 : Int32))]) (rest := []) (own_mGT l Z a0 hw b77 ar80 bq79 kr80 [(.ref bq79), (.ref bq81), .null, .null, .null, .null, .null, .null, .null, .null] (0 : Int32) (((0 : Int32) + (1 : Int32)) + (1 : Int32)) (2 : Int32) T82.heap n0 (Nat.le_trans (Nat.le_trans (Nat.le_trans (Nat.le_trans (Nat.le_trans (Nat.le_trans Z0 E77.1) Kq78.1) Kq79.1) Kq80.1) Kq81.1) Kq82.1) ⟨Lq82.1, Lq82.2.1, Lq82.2.2.1, Lq82.2.2.2⟩ Vq82 (by decide) (by decide) rfl (by decide)) (W := 0) (by decide) (by decide) (by decide) (by decide) (g := (mkF m 127 #[.val (.int x0), .val (.int y0), .val (.int z0), .val (.int (2 : Int32)), .val (.ref b77), .val (.ref b77)] [(.int (0 : Int32)), (.ref b77)])) rfl (by rw [hml]; rfl) (lenOf own_pd7 rfl) rfl (by show 2 * 0 + _ ≤ _; exact Nat.le_of_eq rfl) (hb hby at_127) ?_
      intro v85 T85 L85 X85 hQ85
      obtain ⟨rfl, Nq85, e85⟩ := hQ85
      have N85 := Fr.app N84 Nq85
      show own_Go p e below K T85 (mkF m 132 #[.val (.int x0), .val (.int y0), .val (.int z0), .val (.int (2 : Int32)), .val (.ref b77), .val (.ref b77)] [(.ref bq79)])
      obtain ⟨T86, X86, e86, st86⟩ := castY X85 hx hZ hown (hw _ (List.mem_of_getElem? (i := 113) rfl)) e85 (Ins.self (((Eq79.keep Kq80).keep Kq81).keep Kq82)) (g := (mkF m 132 #[.val (.int x0), .val (.int y0), .val (.int z0), .val (.int (2 : Int32)), .val (.ref b77), .val (.ref b77)] [(.ref bq79)])) rfl rfl (hb hby at_132)
      refine own_go st86 ?_
      show own_Go p e below K T86 (mkF m 135 #[.val (.int x0), .val (.int y0), .val (.int z0), .val (.int (2 : Int32)), .val (.ref b77), .val (.ref b77)] [(.ref bq79)])
      refine own_callV X86 hx hZ (C := "java/lang/Integer") (y := (⟨"java/lang/Integer", "intValue", "()I"⟩ : MethodName)) (z := (⟨"java/lang/Integer", "intValue", "()I"⟩ : MethodName)) hown (hw _ (List.mem_of_getElem? (i := 115) rfl)) (hw _ (List.mem_of_getElem? (i := 116) rfl)) (notFace_of_selects (args := #[]) (mvT hZ (hw _ (List.mem_of_getElem? (i := 118) rfl)))) (hw _ (List.mem_of_getElem? (i := 118) rfl)) (hw _ (List.mem_of_getElem? (i := 117) rfl)) (hw _ (List.mem_of_getElem? (i := 58) rfl)) (hw _ (List.mem_of_getElem? (i := 119) rfl)) (by decide) e86 (rm := own_rmVI) (a := bq79) (((Eq79.keep Kq80).keep Kq81).keep Kq82) (argsL := []) (rest := []) (own_mVI l Z a0 hw bq79 y0 T82.heap n0 (Nat.le_trans (Nat.le_trans (Nat.le_trans (Nat.le_trans (Nat.le_trans (Nat.le_trans Z0 E77.1) Kq78.1) Kq79.1) Kq80.1) Kq81.1) Kq82.1) (((Fq79.keep Kq80 (ninS (ne_exa (((Eq79.keep Kq80).keep Kq81).keep Kq82) Lq82.1 (by decide)) nin0)).keep Kq81 nin0).keep Kq82 (ninS (ne_exa (((Eq79.keep Kq80).keep Kq81).keep Kq82) Lq82.1 (by decide)) (ninS (own_ne_arv (((Eq79.keep Kq80).keep Kq81).keep Kq82) (hw _ (List.mem_of_getElem? (i := 123) rfl)) Vq82) nin0)))) (W := 0) (by decide) (by decide) (by decide) (by decide) (g := (mkF m 135 #[.val (.int x0), .val (.int y0), .val (.int z0), .val (.int (2 : Int32)), .val (.ref b77), .val (.ref b77)] [(.ref bq79)])) rfl (by rw [hml]; rfl) (lenOf own_pd10 rfl) rfl (by show 2 * 0 + _ ≤ _; exact Nat.le_of_eq rfl) (hb hby at_135) ?_
      intro v87 T87 L87 X87 hQ87
      obtain ⟨rfl, Nq87, e87⟩ := hQ87
      have N87 := Fr.app N85 Nq87
      show own_Go p e below K T87 (mkF m 138 #[.val (.int x0), .val (.int y0), .val (.int z0), .val (.int (2 : Int32)), .val (.ref b77), .val (.ref b77)] [(.int y0)])
      refine own_go (fun _ kk' => XS.iloadN X87.here hx rfl (hb hby at_138) rfl  kk') ?_
      show own_Go p e below K T87 (mkF m 139 #[.val (.int x0), .val (.int y0), .val (.int z0), .val (.int (2 : Int32)), .val (.ref b77), .val (.ref b77)] [(.int y0), (.int y0)])
      refine own_go (fun _ kk' => XS.icmpYes X87.here hx rfl (pc0 := 139) (pc' := 144) rfl (hb hby at_139) rfl (teq (rfl : y0 = y0)).1 (by decide) (by decide) kk') ?_
      show own_Go p e below K T87 (mkF m 144 #[.val (.int x0), .val (.int y0), .val (.int z0), .val (.int (2 : Int32)), .val (.ref b77), .val (.ref b77)] [])
      refine own_go (fun _ kk' => XS.iloadN X87.here hx rfl (hb hby at_144) rfl  kk') ?_
      show own_Go p e below K T87 (mkF m 145 #[.val (.int x0), .val (.int y0), .val (.int z0), .val (.int (2 : Int32)), .val (.ref b77), .val (.ref b77)] [(.int (2 : Int32))])
      refine own_go (fun _ kk' => XS.iconst X87.here hx rfl (hb hby at_145) kk') ?_
      show own_Go p e below K T87 (mkF m 146 #[.val (.int x0), .val (.int y0), .val (.int z0), .val (.int (2 : Int32)), .val (.ref b77), .val (.ref b77)] [(.int (2 : Int32)), (.int (2 : Int32))])
      refine own_go (fun _ kk' => XS.icmpNo X87.here hx rfl (hb hby at_146) rfl (flt ((by decide) : ¬ ((2 : Int32) < (2 : Int32)))).1 kk') ?_
      show own_Go p e below K T87 (mkF m 149 #[.val (.int x0), .val (.int y0), .val (.int z0), .val (.int (2 : Int32)), .val (.ref b77), .val (.ref b77)] [])
      refine own_go (fun _ kk' => XS.aload X87.here hx rfl (hb hby at_149) rfl rfl  kk') ?_
      show own_Go p e below K T87 (mkF m 151 #[.val (.int x0), .val (.int y0), .val (.int z0), .val (.int (2 : Int32)), .val (.ref b77), .val (.ref b77)] [(.ref b77)])
      refine own_go (fun _ kk' => XS.iconst X87.here hx rfl (hb hby at_151) kk') ?_
      show own_Go p e below K T87 (mkF m 152 #[.val (.int x0), .val (.int y0), .val (.int z0), .val (.int (2 : Int32)), .val (.ref b77), .val (.ref b77)] [(.int (1 : Int32)), (.ref b77)])
      refine own_callF X87 hx hZ (C := "java/util/ArrayList") (xi := (⟨"java/util/List", "get", "(I)Ljava/lang/Object;"⟩ : MethodName)) (z := (⟨"java/util/ArrayList", "get", "(I)Ljava/lang/Object;"⟩ : MethodName)) hown (hw _ (List.mem_of_getElem? (i := 92) rfl)) (hw _ (List.mem_of_getElem? (i := 93) rfl)) (mvT hZ (hw _ (List.mem_of_getElem? (i := 94) rfl))) (hw _ (List.mem_of_getElem? (i := 95) rfl)) (hw _ (List.mem_of_getElem? (i := 96) rfl)) (hw _ (List.mem_of_getElem? (i := 97) rfl)) (hw _ (List.mem_of_getElem? (i := 98) rfl)) (hw _ (List.mem_of_getElem? (i := 37) rfl)) (hw _ (List.mem_of_getElem? (i := 2) rfl)) (hw _ (List.mem_of_getElem? (i := 99) rfl)) (by decide) e87 (rm := own_rmGT) (a := b77) Lq82.1 (argsL := [(.int (1 : Int32))]) (rest := []) (own_mGT l Z a0 hw b77 ar80 bq81 kr80 [(.ref bq79), (.ref bq81), .null, .null, .null, .null, .null, .null, .null, .null] (1 : Int32) (((0 : Int32) + (1 : Int32)) + (1 : Int32)) (2 : Int32) T82.heap n0 (Nat.le_trans (Nat.le_trans (Nat.le_trans (Nat.le_trans (Nat.le_trans (Nat.le_trans Z0 E77.1) Kq78.1) Kq79.1) Kq80.1) Kq81.1) Kq82.1) ⟨Lq82.1, Lq82.2.1, Lq82.2.2.1, Lq82.2.2.2⟩ Vq82 (by decide) (by decide) rfl (by decide)) (W := 0) (by decide) (by decide) (by decide) (by decide) (g := (mkF m 152 #[.val (.int x0), .val (.int y0), .val (.int z0), .val (.int (2 : Int32)), .val (.ref b77), .val (.ref b77)] [(.int (1 : Int32)), (.ref b77)])) rfl (by rw [hml]; rfl) (lenOf own_pd7 rfl) rfl (by show 2 * 0 + _ ≤ _; exact Nat.le_of_eq rfl) (hb hby at_152) ?_
      intro v88 T88 L88 X88 hQ88
      obtain ⟨rfl, Nq88, e88⟩ := hQ88
      have N88 := Fr.app N87 Nq88
      show own_Go p e below K T88 (mkF m 157 #[.val (.int x0), .val (.int y0), .val (.int z0), .val (.int (2 : Int32)), .val (.ref b77), .val (.ref b77)] [(.ref bq81)])
      obtain ⟨T89, X89, e89, st89⟩ := castY X88 hx hZ hown (hw _ (List.mem_of_getElem? (i := 113) rfl)) e88 (Ins.self (Eq81.keep Kq82)) (g := (mkF m 157 #[.val (.int x0), .val (.int y0), .val (.int z0), .val (.int (2 : Int32)), .val (.ref b77), .val (.ref b77)] [(.ref bq81)])) rfl rfl (hb hby at_157)
      refine own_go st89 ?_
      show own_Go p e below K T89 (mkF m 160 #[.val (.int x0), .val (.int y0), .val (.int z0), .val (.int (2 : Int32)), .val (.ref b77), .val (.ref b77)] [(.ref bq81)])
      refine own_callV X89 hx hZ (C := "java/lang/Integer") (y := (⟨"java/lang/Integer", "intValue", "()I"⟩ : MethodName)) (z := (⟨"java/lang/Integer", "intValue", "()I"⟩ : MethodName)) hown (hw _ (List.mem_of_getElem? (i := 115) rfl)) (hw _ (List.mem_of_getElem? (i := 116) rfl)) (notFace_of_selects (args := #[]) (mvT hZ (hw _ (List.mem_of_getElem? (i := 118) rfl)))) (hw _ (List.mem_of_getElem? (i := 118) rfl)) (hw _ (List.mem_of_getElem? (i := 117) rfl)) (hw _ (List.mem_of_getElem? (i := 58) rfl)) (hw _ (List.mem_of_getElem? (i := 119) rfl)) (by decide) e89 (rm := own_rmVI) (a := bq81) (Eq81.keep Kq82) (argsL := []) (rest := []) (own_mVI l Z a0 hw bq81 z0 T82.heap n0 (Nat.le_trans (Nat.le_trans (Nat.le_trans (Nat.le_trans (Nat.le_trans (Nat.le_trans Z0 E77.1) Kq78.1) Kq79.1) Kq80.1) Kq81.1) Kq82.1) (Fq81.keep Kq82 (ninS (ne_exa (Eq81.keep Kq82) Lq82.1 (by decide)) (ninS (own_ne_arv (Eq81.keep Kq82) (hw _ (List.mem_of_getElem? (i := 123) rfl)) Vq82) nin0)))) (W := 0) (by decide) (by decide) (by decide) (by decide) (g := (mkF m 160 #[.val (.int x0), .val (.int y0), .val (.int z0), .val (.int (2 : Int32)), .val (.ref b77), .val (.ref b77)] [(.ref bq81)])) rfl (by rw [hml]; rfl) (lenOf own_pd10 rfl) rfl (by show 2 * 0 + _ ≤ _; exact Nat.le_of_eq rfl) (hb hby at_160) ?_
      intro v90 T90 L90 X90 hQ90
      obtain ⟨rfl, Nq90, e90⟩ := hQ90
      have N90 := Fr.app N88 Nq90
      show own_Go p e below K T90 (mkF m 163 #[.val (.int x0), .val (.int y0), .val (.int z0), .val (.int (2 : Int32)), .val (.ref b77), .val (.ref b77)] [(.int z0)])
      refine own_go (fun _ kk' => XS.iloadN X90.here hx rfl (hb hby at_163) rfl  kk') ?_
      show own_Go p e below K T90 (mkF m 164 #[.val (.int x0), .val (.int y0), .val (.int z0), .val (.int (2 : Int32)), .val (.ref b77), .val (.ref b77)] [(.int z0), (.int z0)])
      refine own_go (fun _ kk' => XS.icmpYes X90.here hx rfl (pc0 := 164) (pc' := 169) rfl (hb hby at_164) rfl (teq (rfl : z0 = z0)).1 (by decide) (by decide) kk') ?_
      show own_Go p e below K T90 (mkF m 169 #[.val (.int x0), .val (.int y0), .val (.int z0), .val (.int (2 : Int32)), .val (.ref b77), .val (.ref b77)] [])
      refine own_go (fun _ kk' => XS.iconst X90.here hx rfl (hb hby at_169) kk') ?_
      show own_Go p e below K T90 (mkF m 170 #[.val (.int x0), .val (.int y0), .val (.int z0), .val (.int (2 : Int32)), .val (.ref b77), .val (.ref b77)] [(.int (1 : Int32))])
      exact own_retZ X90 hx hlk hK hret (by decide) (hb hby at_170) (by decide) (by decide) (by rw [e90]; exact ⟨rfl, N90⟩)
    · rw [hn4]
      show own_Go p e below K T0 (mkF m 35 #[.val (.int x0), .val (.int y0), .val (.int z0), .unset, .unset, .unset] [(.int (3 : Int32))])
      refine own_go (fun _ kk' => XS.istoreN X0.here hx rfl (hb hby at_35) rfl (l' := #[.val (.int x0), .val (.int y0), .val (.int z0), .val (.int (3 : Int32)), .unset, .unset]) rfl kk') ?_
      show own_Go p e below K T0 (mkF m 36 #[.val (.int x0), .val (.int y0), .val (.int z0), .val (.int (3 : Int32)), .unset, .unset] [])
      obtain ⟨T91, h91, X91, e91, E91, A91, D91, -, st91⟩ := newO X0 hx hZ hown (hw _ (List.mem_of_getElem? (i := 0) rfl)) (hw _ (List.mem_of_getElem? (i := 1) rfl)) (hw _ (List.mem_of_getElem? (i := 2) rfl)) e0 (g := (mkF m 36 #[.val (.int x0), .val (.int y0), .val (.int z0), .val (.int (3 : Int32)), .unset, .unset] [])) rfl (hb hby at_36) (by decide) (by decide)
      obtain ⟨b91, g91⟩ : ∃ z, z = h0.size := ⟨_, rfl⟩
      rw [← g91] at A91 D91 st91
      have gp91 : n0 ≤ b91 := Nat.le_trans Z0 (Nat.le_of_eq g91.symm)
      have sz91 : h0.size ≤ b91 := Nat.le_trans (Nat.le_refl _) (Nat.le_of_eq g91.symm)
      have F91_modCount : Fld Z h91 b91 "java/util/AbstractList" "modCount" "I" (.int (0 : Int32)) := D91 (Or.inl (hw _ (List.mem_of_getElem? (i := 22) rfl))) (ty := .int) (by decide)
      have F91_elementData : Fld Z h91 b91 "java/util/ArrayList" "elementData" "[Ljava/lang/Object;" .null := D91 (Or.inl (hw _ (List.mem_of_getElem? (i := 25) rfl))) (ty := (.array (.object "java/lang/Object"))) (by decide)
      have F91_size : Fld Z h91 b91 "java/util/ArrayList" "size" "I" (.int (0 : Int32)) := D91 (Or.inl (hw _ (List.mem_of_getElem? (i := 40) rfl))) (ty := .int) (by decide)
      refine own_go st91 ?_
      show own_Go p e below K T91 (mkF m 39 #[.val (.int x0), .val (.int y0), .val (.int z0), .val (.int (3 : Int32)), .unset, .unset] [(.ref b91)])
      refine own_go (fun _ kk' => XS.dup X91.here hx rfl (hb hby at_39) rfl rfl kk') ?_
      show own_Go p e below K T91 (mkF m 40 #[.val (.int x0), .val (.int y0), .val (.int z0), .val (.int (3 : Int32)), .unset, .unset] [(.ref b91), (.ref b91)])
      refine own_callI X91 hx hZ (y := (⟨"java/util/ArrayList", "<init>", "()V"⟩ : MethodName)) rfl hown (hw _ (List.mem_of_getElem? (i := 3) rfl)) (hw _ (List.mem_of_getElem? (i := 4) rfl)) (hw _ (List.mem_of_getElem? (i := 2) rfl)) (hw _ (List.mem_of_getElem? (i := 5) rfl)) (by decide) e91 (rm := own_rmNW) (a := b91) (argsL := []) (rest := [(.ref b91)]) (own_mNW l Z a0 hw b91 de .null (0 : Int32) (0 : Int32) h91 n0 (Nat.le_trans Z0 E91.1) ⟨A91, F91_modCount, F91_elementData, F91_size⟩ gp91 (O0.ext E91) SD) (W := 1) (by decide) (by decide) (by decide) (by decide) (g := (mkF m 40 #[.val (.int x0), .val (.int y0), .val (.int z0), .val (.int (3 : Int32)), .unset, .unset] [(.ref b91), (.ref b91)])) rfl (by rw [hml]; rfl) (lenOf own_pd0 rfl) rfl (by show 2 * 0 + _ ≤ _; exact Nat.le_of_eq rfl) (hb hby at_40) ?_
      intro v92 T92 L92 X92 hQ92
      obtain ⟨rfl, Nq92, Kq92, Lq92⟩ := hQ92
      have N92 := Fr.app N0 Nq92
      show own_Go p e below K T92 (mkF m 43 #[.val (.int x0), .val (.int y0), .val (.int z0), .val (.int (3 : Int32)), .unset, .unset] [(.ref b91)])
      refine own_go (fun _ kk' => XS.astore X92.here hx rfl (hb hby at_43) rfl rfl (l' := #[.val (.int x0), .val (.int y0), .val (.int z0), .val (.int (3 : Int32)), .val (.ref b91), .unset]) rfl kk') ?_
      show own_Go p e below K T92 (mkF m 45 #[.val (.int x0), .val (.int y0), .val (.int z0), .val (.int (3 : Int32)), .val (.ref b91), .unset] [])
      refine own_go (fun _ kk' => XS.iloadN X92.here hx rfl (hb hby at_45) rfl  kk') ?_
      show own_Go p e below K T92 (mkF m 46 #[.val (.int x0), .val (.int y0), .val (.int z0), .val (.int (3 : Int32)), .val (.ref b91), .unset] [(.int (3 : Int32))])
      refine own_go (fun _ kk' => XS.iconst X92.here hx rfl (hb hby at_46) kk') ?_
      show own_Go p e below K T92 (mkF m 47 #[.val (.int x0), .val (.int y0), .val (.int z0), .val (.int (3 : Int32)), .val (.ref b91), .unset] [(.int (1 : Int32)), (.int (3 : Int32))])
      refine own_go (fun _ kk' => XS.icmpNo X92.here hx rfl (hb hby at_47) rfl (flt ((by decide) : ¬ ((3 : Int32) < (1 : Int32)))).1 kk') ?_
      show own_Go p e below K T92 (mkF m 50 #[.val (.int x0), .val (.int y0), .val (.int z0), .val (.int (3 : Int32)), .val (.ref b91), .unset] [])
      refine own_go (fun _ kk' => XS.aload X92.here hx rfl (hb hby at_50) rfl rfl  kk') ?_
      show own_Go p e below K T92 (mkF m 52 #[.val (.int x0), .val (.int y0), .val (.int z0), .val (.int (3 : Int32)), .val (.ref b91), .unset] [(.ref b91)])
      refine own_go (fun _ kk' => XS.iloadN X92.here hx rfl (hb hby at_52) rfl  kk') ?_
      show own_Go p e below K T92 (mkF m 53 #[.val (.int x0), .val (.int y0), .val (.int z0), .val (.int (3 : Int32)), .val (.ref b91), .unset] [(.int y0), (.ref b91)])
      refine own_callS X92 hx hZ (y := (⟨"java/lang/Integer", "valueOf", "(I)Ljava/lang/Integer;"⟩ : MethodName)) hown (hw _ (List.mem_of_getElem? (i := 56) rfl)) (hw _ (List.mem_of_getElem? (i := 57) rfl)) (hw _ (List.mem_of_getElem? (i := 58) rfl)) (hw _ (List.mem_of_getElem? (i := 59) rfl)) (by decide) rfl (rm := own_rmIV) (argsL := [(.int y0)]) (rest := [(.ref b91)]) (own_mIV l Z a0 hw y0 ca ccl T92.heap n0 (Nat.le_trans (Nat.le_trans Z0 E91.1) Kq92.1) ((O0.ext E91).keep Kq92 (allS gp91 all0)) SH SC HC) (W := 1) (by decide) (by decide) (by decide) (by decide) (g := (mkF m 53 #[.val (.int x0), .val (.int y0), .val (.int z0), .val (.int (3 : Int32)), .val (.ref b91), .unset] [(.int y0), (.ref b91)])) rfl (by rw [hml]; rfl) (lenOf own_pd11 rfl) rfl (by show 2 * 0 + _ ≤ _; exact Nat.le_of_eq rfl) (hb hby at_53) ?_
      intro v93 T93 L93 X93 hQ93
      obtain ⟨bq93, rfl, Nq93, Kq93, Eq93, Fq93⟩ := hQ93
      have N93 := Fr.app N92 Nq93
      show own_Go p e below K T93 (mkF m 56 #[.val (.int x0), .val (.int y0), .val (.int z0), .val (.int (3 : Int32)), .val (.ref b91), .unset] [(.ref bq93), (.ref b91)])
      refine own_callV X93 hx hZ (C := "java/util/ArrayList") (y := (⟨"java/util/ArrayList", "add", "(Ljava/lang/Object;)Z"⟩ : MethodName)) (z := (⟨"java/util/ArrayList", "add", "(Ljava/lang/Object;)Z"⟩ : MethodName)) hown (hw _ (List.mem_of_getElem? (i := 63) rfl)) (hw _ (List.mem_of_getElem? (i := 64) rfl)) (notFace_of_selects (args := #[]) (mvT hZ (hw _ (List.mem_of_getElem? (i := 66) rfl)))) (hw _ (List.mem_of_getElem? (i := 66) rfl)) (hw _ (List.mem_of_getElem? (i := 65) rfl)) (hw _ (List.mem_of_getElem? (i := 2) rfl)) (hw _ (List.mem_of_getElem? (i := 67) rfl)) (by decide) rfl (rm := own_rmA1) (a := b91) (Lq92.1.keep Kq93) (argsL := [(.ref bq93)]) (rest := []) (own_mA1 l Z a0 hw b91 de bq93 (0 : Int32) kd T93.heap n0 (Nat.le_trans (Nat.le_trans (Nat.le_trans Z0 E91.1) Kq92.1) Kq93.1) ⟨(Lq92.1.keep Kq93), (Lq92.2.1.keep Kq93 nin0), (Lq92.2.2.1.keep Kq93 nin0), (Lq92.2.2.2.keep Kq93 nin0)⟩ gp91 (((O0.ext E91).keep Kq92 (allS gp91 all0)).keep Kq93 all0) SD VD (Ins.of_exa Eq93 (hw _ (List.mem_of_getElem? (i := 91) rfl)))) (W := 0) (by decide) (by decide) (by decide) (by decide) (g := (mkF m 56 #[.val (.int x0), .val (.int y0), .val (.int z0), .val (.int (3 : Int32)), .val (.ref b91), .unset] [(.ref bq93), (.ref b91)])) rfl (by rw [hml]; rfl) (lenOf own_pd12 rfl) rfl (by show 2 * 0 + _ ≤ _; exact Nat.le_of_eq rfl) (hb hby at_56) ?_
      intro v94 T94 L94 X94 hQ94
      obtain ⟨ar94, kr94, rfl, Nq94, Kq94, Lq94, Vq94, Oq94, Zq94, Gq94⟩ := hQ94
      have N94 := Fr.app N93 Nq94
      show own_Go p e below K T94 (mkF m 59 #[.val (.int x0), .val (.int y0), .val (.int z0), .val (.int (3 : Int32)), .val (.ref b91), .unset] [(.int (1 : Int32))])
      refine own_go (fun _ kk' => XS.pop X94.here hx rfl (hb hby at_59) rfl rfl kk') ?_
      show own_Go p e below K T94 (mkF m 60 #[.val (.int x0), .val (.int y0), .val (.int z0), .val (.int (3 : Int32)), .val (.ref b91), .unset] [])
      refine own_go (fun _ kk' => XS.iloadN X94.here hx rfl (hb hby at_60) rfl  kk') ?_
      show own_Go p e below K T94 (mkF m 61 #[.val (.int x0), .val (.int y0), .val (.int z0), .val (.int (3 : Int32)), .val (.ref b91), .unset] [(.int (3 : Int32))])
      refine own_go (fun _ kk' => XS.iconst X94.here hx rfl (hb hby at_61) kk') ?_
      show own_Go p e below K T94 (mkF m 62 #[.val (.int x0), .val (.int y0), .val (.int z0), .val (.int (3 : Int32)), .val (.ref b91), .unset] [(.int (2 : Int32)), (.int (3 : Int32))])
      refine own_go (fun _ kk' => XS.icmpNo X94.here hx rfl (hb hby at_62) rfl (flt ((by decide) : ¬ ((3 : Int32) < (2 : Int32)))).1 kk') ?_
      show own_Go p e below K T94 (mkF m 65 #[.val (.int x0), .val (.int y0), .val (.int z0), .val (.int (3 : Int32)), .val (.ref b91), .unset] [])
      refine own_go (fun _ kk' => XS.aload X94.here hx rfl (hb hby at_65) rfl rfl  kk') ?_
      show own_Go p e below K T94 (mkF m 67 #[.val (.int x0), .val (.int y0), .val (.int z0), .val (.int (3 : Int32)), .val (.ref b91), .unset] [(.ref b91)])
      refine own_go (fun _ kk' => XS.iloadN X94.here hx rfl (hb hby at_67) rfl  kk') ?_
      show own_Go p e below K T94 (mkF m 68 #[.val (.int x0), .val (.int y0), .val (.int z0), .val (.int (3 : Int32)), .val (.ref b91), .unset] [(.int z0), (.ref b91)])
      refine own_callS X94 hx hZ (y := (⟨"java/lang/Integer", "valueOf", "(I)Ljava/lang/Integer;"⟩ : MethodName)) hown (hw _ (List.mem_of_getElem? (i := 56) rfl)) (hw _ (List.mem_of_getElem? (i := 57) rfl)) (hw _ (List.mem_of_getElem? (i := 58) rfl)) (hw _ (List.mem_of_getElem? (i := 59) rfl)) (by decide) rfl (rm := own_rmIV) (argsL := [(.int z0)]) (rest := [(.ref b91)]) (own_mIV l Z a0 hw z0 ca ccl T94.heap n0 (Nat.le_trans (Nat.le_trans (Nat.le_trans (Nat.le_trans Z0 E91.1) Kq92.1) Kq93.1) Kq94.1) ((((O0.ext E91).keep Kq92 (allS gp91 all0)).keep Kq93 all0).keep Kq94 (allS gp91 all0)) SH SC HC) (W := 1) (by decide) (by decide) (by decide) (by decide) (g := (mkF m 68 #[.val (.int x0), .val (.int y0), .val (.int z0), .val (.int (3 : Int32)), .val (.ref b91), .unset] [(.int z0), (.ref b91)])) rfl (by rw [hml]; rfl) (lenOf own_pd11 rfl) rfl (by show 2 * 0 + _ ≤ _; exact Nat.le_of_eq rfl) (hb hby at_68) ?_
      intro v95 T95 L95 X95 hQ95
      obtain ⟨bq95, rfl, Nq95, Kq95, Eq95, Fq95⟩ := hQ95
      have N95 := Fr.app N94 Nq95
      show own_Go p e below K T95 (mkF m 71 #[.val (.int x0), .val (.int y0), .val (.int z0), .val (.int (3 : Int32)), .val (.ref b91), .unset] [(.ref bq95), (.ref b91)])
      refine own_callV X95 hx hZ (C := "java/util/ArrayList") (y := (⟨"java/util/ArrayList", "add", "(Ljava/lang/Object;)Z"⟩ : MethodName)) (z := (⟨"java/util/ArrayList", "add", "(Ljava/lang/Object;)Z"⟩ : MethodName)) hown (hw _ (List.mem_of_getElem? (i := 63) rfl)) (hw _ (List.mem_of_getElem? (i := 64) rfl)) (notFace_of_selects (args := #[]) (mvT hZ (hw _ (List.mem_of_getElem? (i := 66) rfl)))) (hw _ (List.mem_of_getElem? (i := 66) rfl)) (hw _ (List.mem_of_getElem? (i := 65) rfl)) (hw _ (List.mem_of_getElem? (i := 2) rfl)) (hw _ (List.mem_of_getElem? (i := 67) rfl)) (by decide) rfl (rm := own_rmA2) (a := b91) (Lq94.1.keep Kq95) (argsL := [(.ref bq95)]) (rest := []) (own_mA2 l Z a0 hw b91 ar94 bq93 bq95 kr94 ((0 : Int32) + (1 : Int32)) T95.heap n0 (Nat.le_trans (Nat.le_trans (Nat.le_trans (Nat.le_trans (Nat.le_trans Z0 E91.1) Kq92.1) Kq93.1) Kq94.1) Kq95.1) ⟨(Lq94.1.keep Kq95), (Lq94.2.1.keep Kq95 nin0), (Lq94.2.2.1.keep Kq95 nin0), (Lq94.2.2.2.keep Kq95 nin0)⟩ gp91 Gq94 (Vq94.keep Kq95 nin0) Oq94 (Ins.of_exa Eq95 (hw _ (List.mem_of_getElem? (i := 91) rfl)))) (W := 0) (by decide) (by decide) (by decide) (by decide) (g := (mkF m 71 #[.val (.int x0), .val (.int y0), .val (.int z0), .val (.int (3 : Int32)), .val (.ref b91), .unset] [(.ref bq95), (.ref b91)])) rfl (by rw [hml]; rfl) (lenOf own_pd12 rfl) rfl (by show 2 * 0 + _ ≤ _; exact Nat.le_of_eq rfl) (hb hby at_71) ?_
      intro v96 T96 L96 X96 hQ96
      obtain ⟨rfl, Nq96, Kq96, Lq96, Vq96⟩ := hQ96
      have N96 := Fr.app N95 Nq96
      show own_Go p e below K T96 (mkF m 74 #[.val (.int x0), .val (.int y0), .val (.int z0), .val (.int (3 : Int32)), .val (.ref b91), .unset] [(.int (1 : Int32))])
      refine own_go (fun _ kk' => XS.pop X96.here hx rfl (hb hby at_74) rfl rfl kk') ?_
      show own_Go p e below K T96 (mkF m 75 #[.val (.int x0), .val (.int y0), .val (.int z0), .val (.int (3 : Int32)), .val (.ref b91), .unset] [])
      refine own_go (fun _ kk' => XS.iloadN X96.here hx rfl (hb hby at_75) rfl  kk') ?_
      show own_Go p e below K T96 (mkF m 76 #[.val (.int x0), .val (.int y0), .val (.int z0), .val (.int (3 : Int32)), .val (.ref b91), .unset] [(.int (3 : Int32))])
      refine own_go (fun _ kk' => XS.iconst X96.here hx rfl (hb hby at_76) kk') ?_
      show own_Go p e below K T96 (mkF m 77 #[.val (.int x0), .val (.int y0), .val (.int z0), .val (.int (3 : Int32)), .val (.ref b91), .unset] [(.int (3 : Int32)), (.int (3 : Int32))])
      refine own_go (fun _ kk' => XS.icmpNo X96.here hx rfl (hb hby at_77) rfl (flt ((by decide) : ¬ ((3 : Int32) < (3 : Int32)))).1 kk') ?_
      show own_Go p e below K T96 (mkF m 80 #[.val (.int x0), .val (.int y0), .val (.int z0), .val (.int (3 : Int32)), .val (.ref b91), .unset] [])
      refine own_go (fun _ kk' => XS.aload X96.here hx rfl (hb hby at_80) rfl rfl  kk') ?_
      show own_Go p e below K T96 (mkF m 82 #[.val (.int x0), .val (.int y0), .val (.int z0), .val (.int (3 : Int32)), .val (.ref b91), .unset] [(.ref b91)])
      refine own_go (fun _ kk' => XS.iloadN X96.here hx rfl (hb hby at_82) rfl  kk') ?_
      show own_Go p e below K T96 (mkF m 83 #[.val (.int x0), .val (.int y0), .val (.int z0), .val (.int (3 : Int32)), .val (.ref b91), .unset] [(.int y0), (.ref b91)])
      refine own_callS X96 hx hZ (y := (⟨"java/lang/Integer", "valueOf", "(I)Ljava/lang/Integer;"⟩ : MethodName)) hown (hw _ (List.mem_of_getElem? (i := 56) rfl)) (hw _ (List.mem_of_getElem? (i := 57) rfl)) (hw _ (List.mem_of_getElem? (i := 58) rfl)) (hw _ (List.mem_of_getElem? (i := 59) rfl)) (by decide) rfl (rm := own_rmIV) (argsL := [(.int y0)]) (rest := [(.ref b91)]) (own_mIV l Z a0 hw y0 ca ccl T96.heap n0 (Nat.le_trans (Nat.le_trans (Nat.le_trans (Nat.le_trans (Nat.le_trans (Nat.le_trans Z0 E91.1) Kq92.1) Kq93.1) Kq94.1) Kq95.1) Kq96.1) ((((((O0.ext E91).keep Kq92 (allS gp91 all0)).keep Kq93 all0).keep Kq94 (allS gp91 all0)).keep Kq95 all0).keep Kq96 (allS gp91 (allS Gq94 all0))) SH SC HC) (W := 1) (by decide) (by decide) (by decide) (by decide) (g := (mkF m 83 #[.val (.int x0), .val (.int y0), .val (.int z0), .val (.int (3 : Int32)), .val (.ref b91), .unset] [(.int y0), (.ref b91)])) rfl (by rw [hml]; rfl) (lenOf own_pd11 rfl) rfl (by show 2 * 0 + _ ≤ _; exact Nat.le_of_eq rfl) (hb hby at_83) ?_
      intro v97 T97 L97 X97 hQ97
      obtain ⟨bq97, rfl, Nq97, Kq97, Eq97, Fq97⟩ := hQ97
      have N97 := Fr.app N96 Nq97
      show own_Go p e below K T97 (mkF m 86 #[.val (.int x0), .val (.int y0), .val (.int z0), .val (.int (3 : Int32)), .val (.ref b91), .unset] [(.ref bq97), (.ref b91)])
      refine own_callV X97 hx hZ (C := "java/util/ArrayList") (y := (⟨"java/util/ArrayList", "add", "(Ljava/lang/Object;)Z"⟩ : MethodName)) (z := (⟨"java/util/ArrayList", "add", "(Ljava/lang/Object;)Z"⟩ : MethodName)) hown (hw _ (List.mem_of_getElem? (i := 63) rfl)) (hw _ (List.mem_of_getElem? (i := 64) rfl)) (notFace_of_selects (args := #[]) (mvT hZ (hw _ (List.mem_of_getElem? (i := 66) rfl)))) (hw _ (List.mem_of_getElem? (i := 66) rfl)) (hw _ (List.mem_of_getElem? (i := 65) rfl)) (hw _ (List.mem_of_getElem? (i := 2) rfl)) (hw _ (List.mem_of_getElem? (i := 67) rfl)) (by decide) rfl (rm := own_rmA3) (a := b91) (Lq96.1.keep Kq97) (argsL := [(.ref bq97)]) (rest := []) (own_mA3 l Z a0 hw b91 ar94 bq93 bq95 bq97 kr94 (((0 : Int32) + (1 : Int32)) + (1 : Int32)) T97.heap n0 (Nat.le_trans (Nat.le_trans (Nat.le_trans (Nat.le_trans (Nat.le_trans (Nat.le_trans (Nat.le_trans Z0 E91.1) Kq92.1) Kq93.1) Kq94.1) Kq95.1) Kq96.1) Kq97.1) ⟨(Lq96.1.keep Kq97), (Lq96.2.1.keep Kq97 nin0), (Lq96.2.2.1.keep Kq97 nin0), (Lq96.2.2.2.keep Kq97 nin0)⟩ gp91 Gq94 (Vq96.keep Kq97 nin0) Oq94 (Ins.of_exa Eq97 (hw _ (List.mem_of_getElem? (i := 91) rfl)))) (W := 0) (by decide) (by decide) (by decide) (by decide) (g := (mkF m 86 #[.val (.int x0), .val (.int y0), .val (.int z0), .val (.int (3 : Int32)), .val (.ref b91), .unset] [(.ref bq97), (.ref b91)])) rfl (by rw [hml]; rfl) (lenOf own_pd12 rfl) rfl (by show 2 * 0 + _ ≤ _; exact Nat.le_of_eq rfl) (hb hby at_86) ?_
      intro v98 T98 L98 X98 hQ98
      obtain ⟨rfl, Nq98, Kq98, Lq98, Vq98⟩ := hQ98
      have N98 := Fr.app N97 Nq98
      show own_Go p e below K T98 (mkF m 89 #[.val (.int x0), .val (.int y0), .val (.int z0), .val (.int (3 : Int32)), .val (.ref b91), .unset] [(.int (1 : Int32))])
      refine own_go (fun _ kk' => XS.pop X98.here hx rfl (hb hby at_89) rfl rfl kk') ?_
      show own_Go p e below K T98 (mkF m 90 #[.val (.int x0), .val (.int y0), .val (.int z0), .val (.int (3 : Int32)), .val (.ref b91), .unset] [])
      refine own_go (fun _ kk' => XS.aload X98.here hx rfl (hb hby at_90) rfl rfl  kk') ?_
      show own_Go p e below K T98 (mkF m 92 #[.val (.int x0), .val (.int y0), .val (.int z0), .val (.int (3 : Int32)), .val (.ref b91), .unset] [(.ref b91)])
      refine own_callS X98 hx hZ (y := (⟨"com/example/raised_flags/raisedflags/document/Defaults", "list", "(Ljava/util/List;)Ljava/util/List;"⟩ : MethodName)) hown (hw _ (List.mem_of_getElem? (i := 26) rfl)) (hw _ (List.mem_of_getElem? (i := 27) rfl)) (hw _ (List.mem_of_getElem? (i := 28) rfl)) (hw _ (List.mem_of_getElem? (i := 29) rfl)) (by decide) rfl (rm := own_rmD1) (argsL := [(.ref b91)]) (rest := []) (own_mD1 l Z a0 hw b91 T98.heap n0 (Nat.le_trans (Nat.le_trans (Nat.le_trans (Nat.le_trans (Nat.le_trans (Nat.le_trans (Nat.le_trans (Nat.le_trans Z0 E91.1) Kq92.1) Kq93.1) Kq94.1) Kq95.1) Kq96.1) Kq97.1) Kq98.1)) (W := 0) (by decide) (by decide) (by decide) (by decide) (g := (mkF m 92 #[.val (.int x0), .val (.int y0), .val (.int z0), .val (.int (3 : Int32)), .val (.ref b91), .unset] [(.ref b91)])) rfl (by rw [hml]; rfl) (lenOf own_pd9 rfl) rfl (by show 2 * 0 + _ ≤ _; exact Nat.le_of_eq rfl) (hb hby at_92) ?_
      intro v99 T99 L99 X99 hQ99
      obtain ⟨rfl, Nq99, e99⟩ := hQ99
      have N99 := Fr.app N98 Nq99
      show own_Go p e below K T99 (mkF m 95 #[.val (.int x0), .val (.int y0), .val (.int z0), .val (.int (3 : Int32)), .val (.ref b91), .unset] [(.ref b91)])
      refine own_go (fun _ kk' => XS.astore X99.here hx rfl (hb hby at_95) rfl rfl (l' := #[.val (.int x0), .val (.int y0), .val (.int z0), .val (.int (3 : Int32)), .val (.ref b91), .val (.ref b91)]) rfl kk') ?_
      show own_Go p e below K T99 (mkF m 97 #[.val (.int x0), .val (.int y0), .val (.int z0), .val (.int (3 : Int32)), .val (.ref b91), .val (.ref b91)] [])
      refine own_go (fun _ kk' => XS.aload X99.here hx rfl (hb hby at_97) rfl rfl  kk') ?_
      show own_Go p e below K T99 (mkF m 99 #[.val (.int x0), .val (.int y0), .val (.int z0), .val (.int (3 : Int32)), .val (.ref b91), .val (.ref b91)] [(.ref b91)])
      refine own_go (fun _ kk' => XS.aload X99.here hx rfl (hb hby at_99) rfl rfl  kk') ?_
      show own_Go p e below K T99 (mkF m 101 #[.val (.int x0), .val (.int y0), .val (.int z0), .val (.int (3 : Int32)), .val (.ref b91), .val (.ref b91)] [(.ref b91), (.ref b91)])
      refine own_go (fun _ kk' => Jvm.RoadKit.acmp (g := (mkF m 101 #[.val (.int x0), .val (.int y0), .val (.int z0), .val (.int (3 : Int32)), .val (.ref b91), .val (.ref b91)] [(.ref b91), (.ref b91)])) X99 hx rfl rfl rfl (pc0 := 101) (pc' := 106) (same := true) rfl (hb hby at_101) rfl (decide_eq_true (rfl : (Value.ref b91) = (Value.ref b91))) (by decide) (by decide) kk') ?_
      show own_Go p e below K T99 (mkF m 106 #[.val (.int x0), .val (.int y0), .val (.int z0), .val (.int (3 : Int32)), .val (.ref b91), .val (.ref b91)] [])
      refine own_go (fun _ kk' => XS.aload X99.here hx rfl (hb hby at_106) rfl rfl  kk') ?_
      show own_Go p e below K T99 (mkF m 108 #[.val (.int x0), .val (.int y0), .val (.int z0), .val (.int (3 : Int32)), .val (.ref b91), .val (.ref b91)] [(.ref b91)])
      refine own_callF X99 hx hZ (C := "java/util/ArrayList") (xi := (⟨"java/util/List", "size", "()I"⟩ : MethodName)) (z := (⟨"java/util/ArrayList", "size", "()I"⟩ : MethodName)) hown (hw _ (List.mem_of_getElem? (i := 30) rfl)) (hw _ (List.mem_of_getElem? (i := 31) rfl)) (mvT hZ (hw _ (List.mem_of_getElem? (i := 32) rfl))) (hw _ (List.mem_of_getElem? (i := 33) rfl)) (hw _ (List.mem_of_getElem? (i := 34) rfl)) (hw _ (List.mem_of_getElem? (i := 35) rfl)) (hw _ (List.mem_of_getElem? (i := 36) rfl)) (hw _ (List.mem_of_getElem? (i := 37) rfl)) (hw _ (List.mem_of_getElem? (i := 2) rfl)) (hw _ (List.mem_of_getElem? (i := 38) rfl)) (by decide) e99 (rm := own_rmSZ) (a := b91) Lq98.1 (argsL := []) (rest := []) (own_mSZ l Z a0 hw b91 (.ref ar94) ((((0 : Int32) + (1 : Int32)) + (1 : Int32)) + (1 : Int32)) (3 : Int32) T98.heap n0 (Nat.le_trans (Nat.le_trans (Nat.le_trans (Nat.le_trans (Nat.le_trans (Nat.le_trans (Nat.le_trans (Nat.le_trans Z0 E91.1) Kq92.1) Kq93.1) Kq94.1) Kq95.1) Kq96.1) Kq97.1) Kq98.1) ⟨Lq98.1, Lq98.2.1, Lq98.2.2.1, Lq98.2.2.2⟩) (W := 0) (by decide) (by decide) (by decide) (by decide) (g := (mkF m 108 #[.val (.int x0), .val (.int y0), .val (.int z0), .val (.int (3 : Int32)), .val (.ref b91), .val (.ref b91)] [(.ref b91)])) rfl (by rw [hml]; rfl) (lenOf own_pd10 rfl) rfl (by show 2 * 0 + _ ≤ _; exact Nat.le_of_eq rfl) (hb hby at_108) ?_
      intro v100 T100 L100 X100 hQ100
      obtain ⟨rfl, Nq100, e100⟩ := hQ100
      have N100 := Fr.app N99 Nq100
      show own_Go p e below K T100 (mkF m 113 #[.val (.int x0), .val (.int y0), .val (.int z0), .val (.int (3 : Int32)), .val (.ref b91), .val (.ref b91)] [(.int (3 : Int32))])
      refine own_go (fun _ kk' => XS.iloadN X100.here hx rfl (hb hby at_113) rfl  kk') ?_
      show own_Go p e below K T100 (mkF m 114 #[.val (.int x0), .val (.int y0), .val (.int z0), .val (.int (3 : Int32)), .val (.ref b91), .val (.ref b91)] [(.int (3 : Int32)), (.int (3 : Int32))])
      refine own_go (fun _ kk' => XS.icmpYes X100.here hx rfl (pc0 := 114) (pc' := 119) rfl (hb hby at_114) rfl (teq ((by decide) : (3 : Int32) = (3 : Int32))).1 (by decide) (by decide) kk') ?_
      show own_Go p e below K T100 (mkF m 119 #[.val (.int x0), .val (.int y0), .val (.int z0), .val (.int (3 : Int32)), .val (.ref b91), .val (.ref b91)] [])
      refine own_go (fun _ kk' => XS.iloadN X100.here hx rfl (hb hby at_119) rfl  kk') ?_
      show own_Go p e below K T100 (mkF m 120 #[.val (.int x0), .val (.int y0), .val (.int z0), .val (.int (3 : Int32)), .val (.ref b91), .val (.ref b91)] [(.int (3 : Int32))])
      refine own_go (fun _ kk' => XS.iconst X100.here hx rfl (hb hby at_120) kk') ?_
      show own_Go p e below K T100 (mkF m 121 #[.val (.int x0), .val (.int y0), .val (.int z0), .val (.int (3 : Int32)), .val (.ref b91), .val (.ref b91)] [(.int (1 : Int32)), (.int (3 : Int32))])
      refine own_go (fun _ kk' => XS.icmpNo X100.here hx rfl (hb hby at_121) rfl (flt ((by decide) : ¬ ((3 : Int32) < (1 : Int32)))).1 kk') ?_
      show own_Go p e below K T100 (mkF m 124 #[.val (.int x0), .val (.int y0), .val (.int z0), .val (.int (3 : Int32)), .val (.ref b91), .val (.ref b91)] [])
      refine own_go (fun _ kk' => XS.aload X100.here hx rfl (hb hby at_124) rfl rfl  kk') ?_
      show own_Go p e below K T100 (mkF m 126 #[.val (.int x0), .val (.int y0), .val (.int z0), .val (.int (3 : Int32)), .val (.ref b91), .val (.ref b91)] [(.ref b91)])
      refine own_go (fun _ kk' => XS.iconst X100.here hx rfl (hb hby at_126) kk') ?_
      show own_Go p e below K T100 (mkF m 127 #[.val (.int x0), .val (.int y0), .val (.int z0), .val (.int (3 : Int32)), .val (.ref b91), .val (.ref b91)] [(.int (0 : Int32)), (.ref b91)])
      refine own_callF X100 hx hZ (C := "java/util/ArrayList") (xi := (⟨"java/util/List", "get", "(I)Ljava/lang/Object;"⟩ : MethodName)) (z := (⟨"java/util/ArrayList", "get", "(I)Ljava/lang/Object;"⟩ : MethodName)) hown (hw _ (List.mem_of_getElem? (i := 92) rfl)) (hw _ (List.mem_of_getElem? (i := 93) rfl)) (mvT hZ (hw _ (List.mem_of_getElem? (i := 94) rfl))) (hw _ (List.mem_of_getElem? (i := 95) rfl)) (hw _ (List.mem_of_getElem? (i := 96) rfl)) (hw _ (List.mem_of_getElem? (i := 97) rfl)) (hw _ (List.mem_of_getElem? (i := 98) rfl)) (hw _ (List.mem_of_getElem? (i := 37) rfl)) (hw _ (List.mem_of_getElem? (i := 2) rfl)) (hw _ (List.mem_of_getElem? (i := 99) rfl)) (by decide) e100 (rm := own_rmGT) (a := b91) Lq98.1 (argsL := [(.int (0 : Int32))]) (rest := []) (own_mGT l Z a0 hw b91 ar94 bq93 kr94 [(.ref bq93), (.ref bq95), (.ref bq97), .null, .null, .null, .null, .null, .null, .null] (0 : Int32) ((((0 : Int32) + (1 : Int32)) + (1 : Int32)) + (1 : Int32)) (3 : Int32) T98.heap n0 (Nat.le_trans (Nat.le_trans (Nat.le_trans (Nat.le_trans (Nat.le_trans (Nat.le_trans (Nat.le_trans (Nat.le_trans Z0 E91.1) Kq92.1) Kq93.1) Kq94.1) Kq95.1) Kq96.1) Kq97.1) Kq98.1) ⟨Lq98.1, Lq98.2.1, Lq98.2.2.1, Lq98.2.2.2⟩ Vq98 (by decide) (by decide) rfl (by decide)) (W := 0) (by decide) (by decide) (by decide) (by decide) (g := (mkF m 127 #[.val (.int x0), .val (.int y0), .val (.int z0), .val (.int (3 : Int32)), .val (.ref b91), .val (.ref b91)] [(.int (0 : Int32)), (.ref b91)])) rfl (by rw [hml]; rfl) (lenOf own_pd7 rfl) rfl (by show 2 * 0 + _ ≤ _; exact Nat.le_of_eq rfl) (hb hby at_127) ?_
      intro v101 T101 L101 X101 hQ101
      obtain ⟨rfl, Nq101, e101⟩ := hQ101
      have N101 := Fr.app N100 Nq101
      show own_Go p e below K T101 (mkF m 132 #[.val (.int x0), .val (.int y0), .val (.int z0), .val (.int (3 : Int32)), .val (.ref b91), .val (.ref b91)] [(.ref bq93)])
      obtain ⟨T102, X102, e102, st102⟩ := castY X101 hx hZ hown (hw _ (List.mem_of_getElem? (i := 113) rfl)) e101 (Ins.self (((((Eq93.keep Kq94).keep Kq95).keep Kq96).keep Kq97).keep Kq98)) (g := (mkF m 132 #[.val (.int x0), .val (.int y0), .val (.int z0), .val (.int (3 : Int32)), .val (.ref b91), .val (.ref b91)] [(.ref bq93)])) rfl rfl (hb hby at_132)
      refine own_go st102 ?_
      show own_Go p e below K T102 (mkF m 135 #[.val (.int x0), .val (.int y0), .val (.int z0), .val (.int (3 : Int32)), .val (.ref b91), .val (.ref b91)] [(.ref bq93)])
      refine own_callV X102 hx hZ (C := "java/lang/Integer") (y := (⟨"java/lang/Integer", "intValue", "()I"⟩ : MethodName)) (z := (⟨"java/lang/Integer", "intValue", "()I"⟩ : MethodName)) hown (hw _ (List.mem_of_getElem? (i := 115) rfl)) (hw _ (List.mem_of_getElem? (i := 116) rfl)) (notFace_of_selects (args := #[]) (mvT hZ (hw _ (List.mem_of_getElem? (i := 118) rfl)))) (hw _ (List.mem_of_getElem? (i := 118) rfl)) (hw _ (List.mem_of_getElem? (i := 117) rfl)) (hw _ (List.mem_of_getElem? (i := 58) rfl)) (hw _ (List.mem_of_getElem? (i := 119) rfl)) (by decide) e102 (rm := own_rmVI) (a := bq93) (((((Eq93.keep Kq94).keep Kq95).keep Kq96).keep Kq97).keep Kq98) (argsL := []) (rest := []) (own_mVI l Z a0 hw bq93 y0 T98.heap n0 (Nat.le_trans (Nat.le_trans (Nat.le_trans (Nat.le_trans (Nat.le_trans (Nat.le_trans (Nat.le_trans (Nat.le_trans Z0 E91.1) Kq92.1) Kq93.1) Kq94.1) Kq95.1) Kq96.1) Kq97.1) Kq98.1) (((((Fq93.keep Kq94 (ninS (ne_exa (((((Eq93.keep Kq94).keep Kq95).keep Kq96).keep Kq97).keep Kq98) Lq98.1 (by decide)) nin0)).keep Kq95 nin0).keep Kq96 (ninS (ne_exa (((((Eq93.keep Kq94).keep Kq95).keep Kq96).keep Kq97).keep Kq98) Lq98.1 (by decide)) (ninS (own_ne_arv (((((Eq93.keep Kq94).keep Kq95).keep Kq96).keep Kq97).keep Kq98) (hw _ (List.mem_of_getElem? (i := 123) rfl)) Vq98) nin0))).keep Kq97 nin0).keep Kq98 (ninS (ne_exa (((((Eq93.keep Kq94).keep Kq95).keep Kq96).keep Kq97).keep Kq98) Lq98.1 (by decide)) (ninS (own_ne_arv (((((Eq93.keep Kq94).keep Kq95).keep Kq96).keep Kq97).keep Kq98) (hw _ (List.mem_of_getElem? (i := 123) rfl)) Vq98) nin0)))) (W := 0) (by decide) (by decide) (by decide) (by decide) (g := (mkF m 135 #[.val (.int x0), .val (.int y0), .val (.int z0), .val (.int (3 : Int32)), .val (.ref b91), .val (.ref b91)] [(.ref bq93)])) rfl (by rw [hml]; rfl) (lenOf own_pd10 rfl) rfl (by show 2 * 0 + _ ≤ _; exact Nat.le_of_eq rfl) (hb hby at_135) ?_
      intro v103 T103 L103 X103 hQ103
      obtain ⟨rfl, Nq103, e103⟩ := hQ103
      have N103 := Fr.app N101 Nq103
      show own_Go p e below K T103 (mkF m 138 #[.val (.int x0), .val (.int y0), .val (.int z0), .val (.int (3 : Int32)), .val (.ref b91), .val (.ref b91)] [(.int y0)])
      refine own_go (fun _ kk' => XS.iloadN X103.here hx rfl (hb hby at_138) rfl  kk') ?_
      show own_Go p e below K T103 (mkF m 139 #[.val (.int x0), .val (.int y0), .val (.int z0), .val (.int (3 : Int32)), .val (.ref b91), .val (.ref b91)] [(.int y0), (.int y0)])
      refine own_go (fun _ kk' => XS.icmpYes X103.here hx rfl (pc0 := 139) (pc' := 144) rfl (hb hby at_139) rfl (teq (rfl : y0 = y0)).1 (by decide) (by decide) kk') ?_
      show own_Go p e below K T103 (mkF m 144 #[.val (.int x0), .val (.int y0), .val (.int z0), .val (.int (3 : Int32)), .val (.ref b91), .val (.ref b91)] [])
      refine own_go (fun _ kk' => XS.iloadN X103.here hx rfl (hb hby at_144) rfl  kk') ?_
      show own_Go p e below K T103 (mkF m 145 #[.val (.int x0), .val (.int y0), .val (.int z0), .val (.int (3 : Int32)), .val (.ref b91), .val (.ref b91)] [(.int (3 : Int32))])
      refine own_go (fun _ kk' => XS.iconst X103.here hx rfl (hb hby at_145) kk') ?_
      show own_Go p e below K T103 (mkF m 146 #[.val (.int x0), .val (.int y0), .val (.int z0), .val (.int (3 : Int32)), .val (.ref b91), .val (.ref b91)] [(.int (2 : Int32)), (.int (3 : Int32))])
      refine own_go (fun _ kk' => XS.icmpNo X103.here hx rfl (hb hby at_146) rfl (flt ((by decide) : ¬ ((3 : Int32) < (2 : Int32)))).1 kk') ?_
      show own_Go p e below K T103 (mkF m 149 #[.val (.int x0), .val (.int y0), .val (.int z0), .val (.int (3 : Int32)), .val (.ref b91), .val (.ref b91)] [])
      refine own_go (fun _ kk' => XS.aload X103.here hx rfl (hb hby at_149) rfl rfl  kk') ?_
      show own_Go p e below K T103 (mkF m 151 #[.val (.int x0), .val (.int y0), .val (.int z0), .val (.int (3 : Int32)), .val (.ref b91), .val (.ref b91)] [(.ref b91)])
      refine own_go (fun _ kk' => XS.iconst X103.here hx rfl (hb hby at_151) kk') ?_
      show own_Go p e below K T103 (mkF m 152 #[.val (.int x0), .val (.int y0), .val (.int z0), .val (.int (3 : Int32)), .val (.ref b91), .val (.ref b91)] [(.int (1 : Int32)), (.ref b91)])
      refine own_callF X103 hx hZ (C := "java/util/ArrayList") (xi := (⟨"java/util/List", "get", "(I)Ljava/lang/Object;"⟩ : MethodName)) (z := (⟨"java/util/ArrayList", "get", "(I)Ljava/lang/Object;"⟩ : MethodName)) hown (hw _ (List.mem_of_getElem? (i := 92) rfl)) (hw _ (List.mem_of_getElem? (i := 93) rfl)) (mvT hZ (hw _ (List.mem_of_getElem? (i := 94) rfl))) (hw _ (List.mem_of_getElem? (i := 95) rfl)) (hw _ (List.mem_of_getElem? (i := 96) rfl)) (hw _ (List.mem_of_getElem? (i := 97) rfl)) (hw _ (List.mem_of_getElem? (i := 98) rfl)) (hw _ (List.mem_of_getElem? (i := 37) rfl)) (hw _ (List.mem_of_getElem? (i := 2) rfl)) (hw _ (List.mem_of_getElem? (i := 99) rfl)) (by decide) e103 (rm := own_rmGT) (a := b91) Lq98.1 (argsL := [(.int (1 : Int32))]) (rest := []) (own_mGT l Z a0 hw b91 ar94 bq95 kr94 [(.ref bq93), (.ref bq95), (.ref bq97), .null, .null, .null, .null, .null, .null, .null] (1 : Int32) ((((0 : Int32) + (1 : Int32)) + (1 : Int32)) + (1 : Int32)) (3 : Int32) T98.heap n0 (Nat.le_trans (Nat.le_trans (Nat.le_trans (Nat.le_trans (Nat.le_trans (Nat.le_trans (Nat.le_trans (Nat.le_trans Z0 E91.1) Kq92.1) Kq93.1) Kq94.1) Kq95.1) Kq96.1) Kq97.1) Kq98.1) ⟨Lq98.1, Lq98.2.1, Lq98.2.2.1, Lq98.2.2.2⟩ Vq98 (by decide) (by decide) rfl (by decide)) (W := 0) (by decide) (by decide) (by decide) (by decide) (g := (mkF m 152 #[.val (.int x0), .val (.int y0), .val (.int z0), .val (.int (3 : Int32)), .val (.ref b91), .val (.ref b91)] [(.int (1 : Int32)), (.ref b91)])) rfl (by rw [hml]; rfl) (lenOf own_pd7 rfl) rfl (by show 2 * 0 + _ ≤ _; exact Nat.le_of_eq rfl) (hb hby at_152) ?_
      intro v104 T104 L104 X104 hQ104
      obtain ⟨rfl, Nq104, e104⟩ := hQ104
      have N104 := Fr.app N103 Nq104
      show own_Go p e below K T104 (mkF m 157 #[.val (.int x0), .val (.int y0), .val (.int z0), .val (.int (3 : Int32)), .val (.ref b91), .val (.ref b91)] [(.ref bq95)])
      obtain ⟨T105, X105, e105, st105⟩ := castY X104 hx hZ hown (hw _ (List.mem_of_getElem? (i := 113) rfl)) e104 (Ins.self (((Eq95.keep Kq96).keep Kq97).keep Kq98)) (g := (mkF m 157 #[.val (.int x0), .val (.int y0), .val (.int z0), .val (.int (3 : Int32)), .val (.ref b91), .val (.ref b91)] [(.ref bq95)])) rfl rfl (hb hby at_157)
      refine own_go st105 ?_
      show own_Go p e below K T105 (mkF m 160 #[.val (.int x0), .val (.int y0), .val (.int z0), .val (.int (3 : Int32)), .val (.ref b91), .val (.ref b91)] [(.ref bq95)])
      refine own_callV X105 hx hZ (C := "java/lang/Integer") (y := (⟨"java/lang/Integer", "intValue", "()I"⟩ : MethodName)) (z := (⟨"java/lang/Integer", "intValue", "()I"⟩ : MethodName)) hown (hw _ (List.mem_of_getElem? (i := 115) rfl)) (hw _ (List.mem_of_getElem? (i := 116) rfl)) (notFace_of_selects (args := #[]) (mvT hZ (hw _ (List.mem_of_getElem? (i := 118) rfl)))) (hw _ (List.mem_of_getElem? (i := 118) rfl)) (hw _ (List.mem_of_getElem? (i := 117) rfl)) (hw _ (List.mem_of_getElem? (i := 58) rfl)) (hw _ (List.mem_of_getElem? (i := 119) rfl)) (by decide) e105 (rm := own_rmVI) (a := bq95) (((Eq95.keep Kq96).keep Kq97).keep Kq98) (argsL := []) (rest := []) (own_mVI l Z a0 hw bq95 z0 T98.heap n0 (Nat.le_trans (Nat.le_trans (Nat.le_trans (Nat.le_trans (Nat.le_trans (Nat.le_trans (Nat.le_trans (Nat.le_trans Z0 E91.1) Kq92.1) Kq93.1) Kq94.1) Kq95.1) Kq96.1) Kq97.1) Kq98.1) (((Fq95.keep Kq96 (ninS (ne_exa (((Eq95.keep Kq96).keep Kq97).keep Kq98) Lq98.1 (by decide)) (ninS (own_ne_arv (((Eq95.keep Kq96).keep Kq97).keep Kq98) (hw _ (List.mem_of_getElem? (i := 123) rfl)) Vq98) nin0))).keep Kq97 nin0).keep Kq98 (ninS (ne_exa (((Eq95.keep Kq96).keep Kq97).keep Kq98) Lq98.1 (by decide)) (ninS (own_ne_arv (((Eq95.keep Kq96).keep Kq97).keep Kq98) (hw _ (List.mem_of_getElem? (i := 123) rfl)) Vq98) nin0)))) (W := 0) (by decide) (by decide) (by decide) (by decide) (g := (mkF m 160 #[.val (.int x0), .val (.int y0), .val (.int z0), .val (.int (3 : Int32)), .val (.ref b91), .val (.ref b91)] [(.ref bq95)])) rfl (by rw [hml]; rfl) (lenOf own_pd10 rfl) rfl (by show 2 * 0 + _ ≤ _; exact Nat.le_of_eq rfl) (hb hby at_160) ?_
      intro v106 T106 L106 X106 hQ106
      obtain ⟨rfl, Nq106, e106⟩ := hQ106
      have N106 := Fr.app N104 Nq106
      show own_Go p e below K T106 (mkF m 163 #[.val (.int x0), .val (.int y0), .val (.int z0), .val (.int (3 : Int32)), .val (.ref b91), .val (.ref b91)] [(.int z0)])
      refine own_go (fun _ kk' => XS.iloadN X106.here hx rfl (hb hby at_163) rfl  kk') ?_
      show own_Go p e below K T106 (mkF m 164 #[.val (.int x0), .val (.int y0), .val (.int z0), .val (.int (3 : Int32)), .val (.ref b91), .val (.ref b91)] [(.int z0), (.int z0)])
      refine own_go (fun _ kk' => XS.icmpYes X106.here hx rfl (pc0 := 164) (pc' := 169) rfl (hb hby at_164) rfl (teq (rfl : z0 = z0)).1 (by decide) (by decide) kk') ?_
      show own_Go p e below K T106 (mkF m 169 #[.val (.int x0), .val (.int y0), .val (.int z0), .val (.int (3 : Int32)), .val (.ref b91), .val (.ref b91)] [])
      refine own_go (fun _ kk' => XS.iconst X106.here hx rfl (hb hby at_169) kk') ?_
      show own_Go p e below K T106 (mkF m 170 #[.val (.int x0), .val (.int y0), .val (.int z0), .val (.int (3 : Int32)), .val (.ref b91), .val (.ref b91)] [(.int (1 : Int32))])
      exact own_retZ X106 hx hlk hK hret (by decide) (hb hby at_170) (by decide) (by decide) (by rw [e106]; exact ⟨rfl, N106⟩)
  · refine own_go (fun _ kk' => XS.ifNo X0.here hx rfl (hb hby at_3) rfl ((if0 _ _).trans (feq (hc3_63 : ¬ ((x0 &&& (1 : Int32)) = (0 : Int32)))).1) kk') ?_
    show own_Go p e below K T0 (mkF m 6 #[.val (.int x0), .val (.int y0), .val (.int z0), .unset, .unset, .unset] [])
    refine own_go (fun _ kk' => XS.aconstNull X0.here hx rfl (hb hby at_6) kk') ?_
    show own_Go p e below K T0 (mkF m 7 #[.val (.int x0), .val (.int y0), .val (.int z0), .unset, .unset, .unset] [.null])
    refine own_callS X0 hx hZ (y := (⟨"com/example/raised_flags/raisedflags/document/Defaults", "list", "(Ljava/util/List;)Ljava/util/List;"⟩ : MethodName)) hown (hw _ (List.mem_of_getElem? (i := 26) rfl)) (hw _ (List.mem_of_getElem? (i := 27) rfl)) (hw _ (List.mem_of_getElem? (i := 28) rfl)) (hw _ (List.mem_of_getElem? (i := 29) rfl)) (by decide) e0 (rm := own_rmD0) (argsL := [.null]) (rest := []) (own_mD0 l Z a0 hw el h0 n0 Z0 O0 SL) (W := 0) (by decide) (by decide) (by decide) (by decide) (g := (mkF m 7 #[.val (.int x0), .val (.int y0), .val (.int z0), .unset, .unset, .unset] [.null])) rfl (by rw [hml]; rfl) (lenOf own_pd9 rfl) rfl (by show 2 * 0 + _ ≤ _; exact Nat.le_of_eq rfl) (hb hby at_7) ?_
    intro v107 T107 L107 X107 hQ107
    obtain ⟨rfl, Nq107, e107⟩ := hQ107
    have N107 := Fr.app N0 Nq107
    show own_Go p e below K T107 (mkF m 10 #[.val (.int x0), .val (.int y0), .val (.int z0), .unset, .unset, .unset] [(.ref el)])
    refine own_go (fun _ kk' => XS.astoreN X107.here hx rfl (hb hby at_10) rfl rfl (l' := #[.val (.int x0), .val (.int y0), .val (.int z0), .val (.ref el), .unset, .unset]) rfl kk') ?_
    show own_Go p e below K T107 (mkF m 11 #[.val (.int x0), .val (.int y0), .val (.int z0), .val (.ref el), .unset, .unset] [])
    refine own_go (fun _ kk' => XS.aloadN X107.here hx rfl (hb hby at_11) rfl rfl  kk') ?_
    show own_Go p e below K T107 (mkF m 12 #[.val (.int x0), .val (.int y0), .val (.int z0), .val (.ref el), .unset, .unset] [(.ref el)])
    refine own_go (fun _ kk' => XS.ifnullNo X107.here hx rfl (hb hby at_12) rfl kk') ?_
    show own_Go p e below K T107 (mkF m 15 #[.val (.int x0), .val (.int y0), .val (.int z0), .val (.ref el), .unset, .unset] [])
    refine own_go (fun _ kk' => XS.aloadN X107.here hx rfl (hb hby at_15) rfl rfl  kk') ?_
    show own_Go p e below K T107 (mkF m 16 #[.val (.int x0), .val (.int y0), .val (.int z0), .val (.ref el), .unset, .unset] [(.ref el)])
    refine own_callF X107 hx hZ (C := "java/util/ImmutableCollections$ListN") (xi := (⟨"java/util/List", "size", "()I"⟩ : MethodName)) (z := (⟨"java/util/ImmutableCollections$ListN", "size", "()I"⟩ : MethodName)) hown (hw _ (List.mem_of_getElem? (i := 30) rfl)) (hw _ (List.mem_of_getElem? (i := 31) rfl)) (mvT hZ (hw _ (List.mem_of_getElem? (i := 32) rfl))) (hw _ (List.mem_of_getElem? (i := 47) rfl)) (hw _ (List.mem_of_getElem? (i := 48) rfl)) (hw _ (List.mem_of_getElem? (i := 49) rfl)) (hw _ (List.mem_of_getElem? (i := 50) rfl)) (hw _ (List.mem_of_getElem? (i := 51) rfl)) (hw _ (List.mem_of_getElem? (i := 52) rfl)) (hw _ (List.mem_of_getElem? (i := 53) rfl)) (by decide) e107 (rm := own_rmLS) (a := el) (EL.ext O0.2) (argsL := []) (rest := []) (own_mLS l Z a0 hw el ea ke h0 n0 Z0 (FE.ext O0.2) (VE.ext O0.2)) (W := 0) (by decide) (by decide) (by decide) (by decide) (g := (mkF m 16 #[.val (.int x0), .val (.int y0), .val (.int z0), .val (.ref el), .unset, .unset] [(.ref el)])) rfl (by rw [hml]; rfl) (lenOf own_pd10 rfl) rfl (by show 2 * 0 + _ ≤ _; exact Nat.le_of_eq rfl) (hb hby at_16) ?_
    intro v108 T108 L108 X108 hQ108
    obtain ⟨rfl, Nq108, e108⟩ := hQ108
    have N108 := Fr.app N107 Nq108
    show own_Go p e below K T108 (mkF m 21 #[.val (.int x0), .val (.int y0), .val (.int z0), .val (.ref el), .unset, .unset] [(.int (0 : Int32))])
    refine own_go (fun _ kk' => XS.ifNo X108.here hx rfl (hb hby at_21) rfl ((if0 _ _).trans (teq ((by decide) : (0 : Int32) = (0 : Int32))).2) kk') ?_
    show own_Go p e below K T108 (mkF m 24 #[.val (.int x0), .val (.int y0), .val (.int z0), .val (.ref el), .unset, .unset] [])
    refine own_go (fun _ kk' => XS.iconst X108.here hx rfl (hb hby at_24) kk') ?_
    show own_Go p e below K T108 (mkF m 25 #[.val (.int x0), .val (.int y0), .val (.int z0), .val (.ref el), .unset, .unset] [(.int (1 : Int32))])
    refine own_go (fun _ kk' => XS.goto X108.here hx rfl (pc0 := 25) (pc' := 29) rfl (hb hby at_25) (by decide) (by decide) kk') ?_
    show own_Go p e below K T108 (mkF m 29 #[.val (.int x0), .val (.int y0), .val (.int z0), .val (.ref el), .unset, .unset] [(.int (1 : Int32))])
    exact own_retZ X108 hx hlk hK hret (by decide) (hb hby at_29) (by decide) (by decide) (by rw [e108]; exact ⟨rfl, N108⟩)
theorem own_len {args : Array Value} {s : State} {a : Addr} {cl : Cell} {t : Jvm.Term} {z : Int32} (ev : t.eval args s none [] s = some (.ref a)) (hat : s.arrayAt? a = some cl) (h : (Jvm.Cond.eq (.length t) (.int z)).value args s none s [] = some true) : cl.slots.size < 2 ^ 31 ∧ cl.slots.size.toInt32 = z := by
  by_cases q : cl.slots.size < 2 ^ 31
  · exact ⟨q, gotT (Cond.eq_ints (len_f ev hat q) (Term.int_eval _)) h⟩
  · exfalso
    have : (Jvm.Term.length t).eval args s none [] s = none := by simp [Term.eval, ev, hat, q]
    simp [Cond.value, this] at h
theorem own_fint {args : Array Value} {s : State} {a : Addr} {t u : Jvm.Term} {C n d : String} {v : Int32} {idx : List Nat} (ev : t.eval args s none idx s = some (.ref a)) (eu : u.eval args s none idx s = some (.int v)) (h : (Jvm.Cond.eq (.field t C n d) u).value args s none s idx = some true) : Fld s s.heap a C n d (.int v) := by
  have q := fld_at (C := C) (n := n) (dd := d) ev
  cases hf : s.fieldOf? a C n d with
  | none => rw [hf] at q; simp [Cond.value, q] at h
  | some w =>
    rw [hf] at q
    cases w <;> simp [Cond.value, q, eu] at h
    subst h; exact Fld.start hf
theorem own_exr {args : Array Value} {s : State} {t : Jvm.Term} {C : String} {idx : List Nat} (h : (Jvm.Cond.exactly t C).value args s none s idx = some true) : ∃ b, t.eval args s none idx s = some (.ref b) ∧ Exa s s.heap b C := by
  obtain ⟨b, e⟩ := exa_v h
  exact ⟨b, e, exa_at e h⟩
theorem own_stai {args : Array Value} {s : State} {t : Jvm.Term} {v : Int32} (h : (Jvm.Cond.eq t (.int v)).value args s none s [] = some true) : t.eval args s none [] s = some (.int v) := by
  cases hf : t.eval args s none [] s with
  | none => simp [Cond.value, hf] at h
  | some w =>
    cases w <;> simp [Cond.value, hf, Term.eval] at h
    subst h; rfl
theorem own_cache {args : Array Value} {s : State} {ca : Addr} {cl : Cell} (ev : ∀ idx, ((Jvm.Term.static "java/lang/Integer$IntegerCache" "cache" "[Ljava/lang/Integer;") : Jvm.Term).eval args s none idx s = some (.ref ca)) (Ar : Arr s s.heap ca cl (.object "java/lang/Integer")) (hat : s.arrayAt? ca = some cl) (hsz : cl.slots.size < 2 ^ 31) (hle : cl.slots.size.toInt32 = (256 : Int32))
    (h : (Jvm.Cond.all (Jvm.Term.static "java/lang/Integer$IntegerCache" "cache" "[Ljava/lang/Integer;") (Jvm.Cond.and (Jvm.Cond.exactly (Jvm.Term.elem (Jvm.Term.static "java/lang/Integer$IntegerCache" "cache" "[Ljava/lang/Integer;") (Jvm.Term.index (0 : Nat))) "java/lang/Integer") (Jvm.Cond.eq (Jvm.Term.field (Jvm.Term.elem (Jvm.Term.static "java/lang/Integer$IntegerCache" "cache" "[Ljava/lang/Integer;") (Jvm.Term.index (0 : Nat))) "java/lang/Integer" "value" "I") (Jvm.Term.sub (Jvm.Term.index (0 : Nat)) (Jvm.Term.int (128 : Int32)))))).value args s none s [] = some true) : own_Cache s ca cl := by
  refine ⟨Ar, fun i h1 h2 => ?_⟩
  have S : cl.slots.size = (256 : Int32).toNatClampNeg := by rw [← hle]; simp only [Int32.toNatClampNeg, len_toInt hsz]; rfl
  have hi : (i + (128 : Int32)).toInt = i.toInt + 128 := by
    have q := c_iadd i 128
    have r := rng32 (i + 128)
    rw [Int32.lt_iff_toInt_lt] at h1 h2
    have e1 : (128 : Int32).toInt = 128 := rfl
    have e2 : (-128 : Int32).toInt = -128 := rfl
    have e3 : (127 : Int32).toInt = 127 := rfl
    omega
  have b0 : ¬ (i + (128 : Int32)) < 0 ∧ (i + (128 : Int32)) < (256 : Int32) := by
    rw [Int32.lt_iff_toInt_lt] at h1 h2
    have e0 : (0 : Int32).toInt = 0 := rfl
    have e2 : (-128 : Int32).toInt = -128 := rfl
    have e3 : (127 : Int32).toInt = 127 := rfl
    have e4 : (256 : Int32).toInt = 256 := rfl
    rw [Int32.lt_iff_toInt_lt, Int32.lt_iff_toInt_lt]; omega
  have hin := inb_of S b0
  have hlt : (i + (128 : Int32)).toNatClampNeg < cl.slots.size := Nat.lt_of_not_le fun q => hin (Or.inr q)
  have A := Cond.all_elim (ev _) hat h _ hlt
  obtain ⟨A1, A2⟩ := and_e A
  obtain ⟨b, eb, Eb⟩ := own_exr A1
  have ix : (Jvm.Term.index 0).eval args s none [(i + (128 : Int32)).toNatClampNeg] s = some (.int (i + (128 : Int32))) := idx_at b0.1
  have el := elem_f (ev [(i + (128 : Int32)).toNatClampNeg]) ix hat b0.1
  refine ⟨b, hin, el.symm.trans eb, Eb, own_fint eb ?_ A2⟩
  have : i + (128 : Int32) - (128 : Int32) = i := Int32.add_sub_cancel i 128
  simp [Term.eval] at ix ⊢
  rw [ix]; simp [this]
set_option maxRecDepth 65536 in
set_option maxHeartbeats 40000000 in
theorem own_comes {Post : Tables → Env → Array Value → State → Outcome → State → Prop} (hpost : ∀ tb e args s v u, (limb_1_1.after args s (.returned v) u = true ∧ limb_1_2.after args s (.returned v) u = true ∧ True) → FrameEnd s (.returned v) u (Jvm.fieldLocs frame_1_writes args s ++ Jvm.arrayLocs frame_1_arrays args s ++ Jvm.staticLocs frame_1_statics s) 24 128 → Post tb e args s (.returned v) u) :
    ArmFor flags0 classFile x code maxLocals ret World_1 tables_1 room_1 Calls_1 rest_1 Pre_1 Post := by
  intro l hfl _ _ p e ha hc hk s m args below hf hA hF happ hP
  obtain ⟨hcalls, hrest, hpre⟩ := hP
  obtain ⟨-, -, -, hnamed, -, -, -, hat⟩ := (Spec.applies_iff hf).mp happ
  obtain ⟨hg, hn⟩ := and_e (Cond.before_iff.mp (show (Jvm.Cond.and given_1 narrow_1).before args s = true from hpre))
  obtain ⟨hcnt, hg0⟩ := and_e hg
  obtain ⟨hi0, hg1⟩ := and_e hg0
  obtain ⟨hi1, hg2⟩ := and_e hg1
  have hi2 := hg2
  obtain ⟨w0, w1, w2, rfl⟩ : ∃ w0 w1 w2 : Value, args = #[w0, w1, w2] := by
    have hs : args.size = 3 := by simpa [Cond.value, given_1] using hcnt
    obtain ⟨L⟩ := args
    match L, hs with
    | [w0, w1, w2], _ => exact ⟨w0, w1, w2, rfl⟩
  have hw := fun d (hd : d ∈ tables_1) => atoms_spec (ws := Jvm.Cond.code x code maxLocals ret :: tables_1) hat d (List.mem_cons_of_mem _ hd)
  have hfit : Fit s := fun {y c} hc i hi => by
    obtain ⟨ha, rfl⟩ := Array.getElem?_eq_some_iff.mp hc
    have q := List.all_eq_true.mp ((Array.all_eq_true_iff_forall_mem.mp hF) _ (Array.getElem_mem ha)) i (List.mem_range.mpr hi)
    simpa [Array.getElem?_eq_getElem hi] using q
  obtain ⟨x0, ei0⟩ := is_v hi0
  obtain rfl : w0 = (.int x0) := Option.some.inj ei0
  obtain ⟨y0, ei1⟩ := is_v hi1
  obtain rfl : w1 = (.int y0) := Option.some.inj ei1
  obtain ⟨z0, ei2⟩ := is_v hi2
  obtain rfl : w2 = (.int z0) := Option.some.inj ei2
  have hsets := (atoms_of (own := restOwn_1) jdkStatics_1 hrest).1
  have SH : Sta s s.heap "java/lang/Integer$IntegerCache" "high" "I" (.int (127 : Int32)) := Sta.start (own_stai (Cond.before_iff.mp (hsets _ (List.mem_of_getElem? (i := 19) rfl)))) (Or.inl (hsets _ (List.mem_of_getElem? (i := 17) rfl)))
  have wca := (Cond.before_iff.mp (hsets _ (List.mem_of_getElem? (i := 20) rfl)))
  obtain ⟨ca, eca⟩ := arr_v wca
  obtain ⟨ccl, Cr⟩ := Arr.start eca wca
  have hcat : s.arrayAt? ca = some ccl := Arr.fin (Vm.Alike.refl _) Cr
  obtain ⟨csz, cle⟩ := own_len eca hcat (Cond.before_iff.mp (hsets _ (List.mem_of_getElem? (i := 22) rfl)))
  have SC : Sta s s.heap "java/lang/Integer$IntegerCache" "cache" "[Ljava/lang/Integer;" (.ref ca) := Sta.start eca (Or.inr ⟨(hw _ (List.mem_of_getElem? (i := 61) rfl)), hsets _ (List.mem_of_getElem? (i := 18) rfl)⟩)
  have HC : own_Cache s ca ccl := own_cache (fun _ => eca) Cr hcat csz cle (Cond.before_iff.mp (hsets _ (List.mem_of_getElem? (i := 23) rfl)))
  have wd := (Cond.before_iff.mp (hsets _ (List.mem_of_getElem? (i := 6) rfl)))
  obtain ⟨de, ede⟩ := arr_v wd
  obtain ⟨dcl, Dr⟩ := Arr.start ede wd
  have hdat : s.arrayAt? de = some dcl := Arr.fin (Vm.Alike.refl _) Dr
  obtain ⟨dsz, dle⟩ := own_len ede hdat (Cond.before_iff.mp (hsets _ (List.mem_of_getElem? (i := 8) rfl)))
  have VD : Arv s s.heap de dcl.cls (.object "java/lang/Object") (0 : Int32) [] .null := Arv.start hfit Dr dsz dle (by decide) rfl trivial
  have SD : Sta s s.heap "java/util/ArrayList" "DEFAULTCAPACITY_EMPTY_ELEMENTDATA" "[Ljava/lang/Object;" (.ref de) := Sta.start ede (Or.inr ⟨(hw _ (List.mem_of_getElem? (i := 2) rfl)), (hsets _ (List.mem_of_getElem? (i := 2) rfl))⟩)
  obtain ⟨el, eel, EL⟩ := own_exr (Cond.before_iff.mp (hsets _ (List.mem_of_getElem? (i := 11) rfl)))
  have SL : Sta s s.heap "java/util/ImmutableCollections" "EMPTY_LIST" "Ljava/util/ImmutableCollections$ListN;" (.ref el) := Sta.start eel (Or.inl (hsets _ (List.mem_of_getElem? (i := 10) rfl)))
  have we := (Cond.before_iff.mp (hsets _ (List.mem_of_getElem? (i := 12) rfl)))
  obtain ⟨ea, eea⟩ := arr_v we
  obtain ⟨ecl, Er⟩ := Arr.start eea we
  have heat : s.arrayAt? ea = some ecl := Arr.fin (Vm.Alike.refl _) Er
  obtain ⟨esz, ele⟩ := own_len eea heat (Cond.before_iff.mp (hsets _ (List.mem_of_getElem? (i := 14) rfl)))
  have VE : Arv s s.heap ea ecl.cls (.object "java/lang/Object") (0 : Int32) [] .null := Arv.start hfit Er esz ele (by decide) rfl trivial
  have FE : Fld s s.heap el "java/util/ImmutableCollections$ListN" "elements" "[Ljava/lang/Object;" (.ref ea) := Fld.start ((fld_at eel).symm.trans eea)
  obtain ⟨n, o, q1, q2, q3, _, L, rfl, ⟨rfl, N⟩, hq⟩ := own_law l s _ hw x0 y0 z0 de el ea ca dcl.cls ecl.cls ccl s.heap s.heap.size (Nat.le_refl _) (Old.start s) SD VD SL EL FE VE SH SC HC p e ha hc hk s m _ below hf ((Spec.applies_iff_loose hf).mp happ).1 ⟨rfl, State.Warmed39.refl s, rfl⟩ trivial
  refine ⟨n, _, q1, q2, q3, hpost _ _ _ _ _ _ ⟨Cond.after_iff.mpr rfl, Cond.after_iff.mpr (eq_i res_at (Term.int_eval (1)) rfl), trivial⟩ ⟨hq.1, hq.2.1, (hq.2.2.sift fun y hy => Or.inr (N y hy)).mono (by decide) (by decide)⟩⟩
theorem main_1_1 : Claimed_1_1 := own_comes fun _ _ _ _ _ _ h hF => ⟨h.1, hF⟩
theorem main_1_2 : Claimed_1_2 := own_comes fun _ _ _ _ _ _ h hF => ⟨h.2.1, hF⟩
end Jvm.Pilot.@@N@@
namespace Jvm.Pilot.@@N@@
open Jvm Jvm.ClassFile Sem Op Lib Jvm.Free Jvm.Stand Jvm.Pilot.@@N@@.Jvm.D
/-! MADE BY PROGRAM (witnessworld.py) out of the Statement's table words and the real class files: 32 classes; the members and pool entries that the words name. The judged class is class 1, her method 1. -/
namespace start1
open Jvm.ClassFile
def u (s : String) : CpInfo := .utf8 (stringToUtf16 s)
/-- a pool by its gaps: so many unusable entries, then the entry; so many at the end -/
def gap : Nat → List CpInfo → List CpInfo
  | 0, r => r
  | n + 1, r => .unusable :: gap n r
def poolList (es : List (Nat × CpInfo)) (last : Nat) : List CpInfo := es.foldr (fun e r => gap e.1 (e.2 :: r)) (gap last [])
def pool (es : List (Nat × CpInfo)) (last : Nat) : Array CpInfo := ⟨poolList es last⟩
def fileOf (pool : Array CpInfo) (this : Nat) (attrs : Array Attribute := #[]) (ms : Array MethodInfo := #[]) (fl : Nat := 33) (sup : Nat := 0) (ifs : Array Nat := #[]) (fds : Array FieldInfo := #[]) : ClassFile where
  minorVersion := 0
  majorVersion := 65
  constantPool := pool
  accessFlags := fl
  thisClass := this
  superClass := sup
  interfaces := ifs
  fields := fds
  methods := ms
  attributes := attrs
def plain (name : String) (sup : Option ClassId) : Class where
  name := name
  kind := .ordinary
  loader := none
  accessFlags := 33
  super := sup
  interfaces := #[]
  cf := none
  fields := #[]
  methods := #[]
  instanceTypes := #[]
  staticTypes := #[]
  resolved := #[]
  callSites := []
  init := .initialized
  statics := none
  mirror := none

def pool0 : Array CpInfo := pool [(5, u "<init>"), (0, u "()V"), (1, .class_ 10), (1, u "java/lang/Object")] 113

def k0c0 : Code := { maxStack := 0, maxLocals := 1, code := object_method_1_code, exceptionTable := #[], attributes := #[] }
def k0m0 : Method := { name := "<init>", desc := "()V", sig := { parameters := [], returnType := none }, accessFlags := 1, code := some k0c0 }
/-- java/lang/Object -/
def k0 : Class := { plain "java/lang/Object" none with
  accessFlags := 33
  interfaces := #[]
  cf := some (fileOf pool0 8 #[] #[{ accessFlags := 1, nameIndex := 5, descriptorIndex := 6, attributes := #[] }] 33 0 #[] #[])
  fields := #[]
  methods := #[k0m0]
  instanceTypes := #[]
  staticTypes := #[]
  resolved := Array.replicate 124 none
  statics := none }

def pool1 : Array CpInfo := pool [(2, .class_ 4), (0, .nameAndType 5 6), (0, u "java/lang/Object"), (0, u "<init>"), (0, u "()V"), (0, .methodref 8 9), (0, .class_ 10), (0, .nameAndType 11 12), (0, u "com/example/raised_flags/raisedflags/document/Defaults"), (0, u "list"), (0, u "(Ljava/util/List;)Ljava/util/List;"), (0, .interfaceMethodref 14 15), (0, .class_ 16), (0, .nameAndType 17 18), (0, u "java/util/List"), (0, u "size"), (0, u "()I"), (0, .class_ 20), (0, u "java/util/ArrayList"), (0, .methodref 19 3), (0, .methodref 23 24), (0, .class_ 25), (0, .nameAndType 26 27), (0, u "java/lang/Integer"), (0, u "valueOf"), (0, u "(I)Ljava/lang/Integer;"), (0, .methodref 19 29), (0, .nameAndType 30 31), (0, u "add"), (0, u "(Ljava/lang/Object;)Z"), (0, .interfaceMethodref 14 33), (0, .nameAndType 34 35), (0, u "get"), (0, u "(I)Ljava/lang/Object;"), (0, .methodref 23 37), (0, .nameAndType 38 18), (0, u "intValue"), (0, .class_ 40), (0, u "com/example/raised_flags/raisedflags/document/DefaultsListPinLaw"), (2, u "law"), (0, u "(III)Z")] 3

def k1m0 : Method := { name := "<init>", desc := "()V", sig := { parameters := [], returnType := none }, accessFlags := 2, code := none }
def k1c1 : Code := { maxStack := 2, maxLocals := 6, code := code, exceptionTable := #[], attributes := #[] }
def k1m1 : Method := { name := "law", desc := "(III)Z", sig := { parameters := [.int, .int, .int], returnType := some .boolean }, accessFlags := 9, code := some k1c1 }
/-- com/example/raised_flags/raisedflags/document/DefaultsListPinLaw -/
def k1 : Class := { plain "com/example/raised_flags/raisedflags/document/DefaultsListPinLaw" (some 0) with
  accessFlags := 49
  interfaces := #[]
  cf := some (fileOf pool1 39 #[] #[{ accessFlags := 2, nameIndex := 5, descriptorIndex := 6, attributes := #[] }, { accessFlags := 9, nameIndex := 43, descriptorIndex := 44, attributes := #[] }] 49 2 #[] #[])
  fields := #[]
  methods := #[k1m0, k1m1]
  instanceTypes := #[]
  staticTypes := #[]
  resolved := Array.replicate 48 none
  statics := none }

def pool2 : Array CpInfo := pool [(8, .class_ 10), (1, u "java/lang/Iterable"), (24, .class_ 36), (0, u "java/lang/Object")] 25

/-- java/lang/Iterable -/
def k2 : Class := { plain "java/lang/Iterable" (some 0) with
  accessFlags := 1537
  interfaces := #[]
  cf := some (fileOf pool2 8 #[] #[] 1537 35 #[] #[])
  fields := #[]
  methods := #[]
  instanceTypes := #[]
  staticTypes := #[]
  resolved := Array.replicate 62 none
  statics := none }

def pool3 : Array CpInfo := pool [(10, .class_ 12), (1, u "java/util/Collection"), (47, .class_ 61), (0, u "java/lang/Object"), (0, .class_ 63), (0, u "java/lang/Iterable")] 51

/-- java/util/Collection -/
def k3 : Class := { plain "java/util/Collection" (some 0) with
  accessFlags := 1537
  interfaces := #[2]
  cf := some (fileOf pool3 10 #[] #[] 1537 60 #[62] #[])
  fields := #[]
  methods := #[]
  instanceTypes := #[]
  staticTypes := #[]
  resolved := Array.replicate 115 none
  statics := none }

def pool4 : Array CpInfo := pool [(1, .methodref 2 3), (0, .class_ 4), (0, .nameAndType 5 6), (0, u "java/lang/Object"), (0, u "<init>"), (0, u "()V"), (1, .class_ 10), (1, u "java/util/AbstractCollection"), (66, .class_ 78), (0, u "java/util/Collection")] 81

def k4c0 : Code := { maxStack := 1, maxLocals := 1, code := jdk_22_method_1_code, exceptionTable := #[], attributes := #[] }
def k4m0 : Method := { name := "<init>", desc := "()V", sig := { parameters := [], returnType := none }, accessFlags := 4, code := some k4c0 }
/-- java/util/AbstractCollection -/
def k4 : Class := { plain "java/util/AbstractCollection" (some 0) with
  accessFlags := 1057
  interfaces := #[3]
  cf := some (fileOf pool4 8 #[] #[{ accessFlags := 4, nameIndex := 5, descriptorIndex := 6, attributes := #[] }] 1057 2 #[77] #[])
  fields := #[]
  methods := #[k4m0]
  instanceTypes := #[]
  staticTypes := #[]
  resolved := Array.replicate 160 none
  statics := none }

def pool5 : Array CpInfo := pool [(8, .class_ 10), (1, u "java/util/SequencedCollection"), (15, .class_ 27), (0, u "java/lang/Object"), (0, .class_ 29), (0, u "java/util/Collection")] 27

/-- java/util/SequencedCollection -/
def k5 : Class := { plain "java/util/SequencedCollection" (some 0) with
  accessFlags := 1537
  interfaces := #[3]
  cf := some (fileOf pool5 8 #[] #[] 1537 26 #[28] #[])
  fields := #[]
  methods := #[]
  instanceTypes := #[]
  staticTypes := #[]
  resolved := Array.replicate 57 none
  statics := none }

def pool6 : Array CpInfo := pool [(8, .class_ 10), (1, u "java/util/List"), (64, u "get"), (0, u "(I)Ljava/lang/Object;"), (2, u "size"), (0, u "()I"), (7, u "of"), (1, .fieldref 91 92), (0, .class_ 93), (0, .nameAndType 94 95), (0, u "java/util/ImmutableCollections"), (0, u "EMPTY_LIST"), (0, u "Ljava/util/ImmutableCollections$ListN;"), (7, .class_ 104), (0, u "java/lang/Object"), (14, u "()Ljava/util/List;"), (0, .class_ 121), (0, u "java/util/SequencedCollection")] 129

def k6m0 : Method := { name := "size", desc := "()I", sig := { parameters := [], returnType := some .int }, accessFlags := 1025, code := none }
def k6m1 : Method := { name := "get", desc := "(I)Ljava/lang/Object;", sig := { parameters := [.int], returnType := some (.object "java/lang/Object") }, accessFlags := 1025, code := none }
def k6c2 : Code := { maxStack := 1, maxLocals := 0, code := jdk_40_method_36_code, exceptionTable := #[], attributes := #[] }
def k6m2 : Method := { name := "of", desc := "()Ljava/util/List;", sig := { parameters := [], returnType := some (.object "java/util/List") }, accessFlags := 9, code := some k6c2 }
/-- java/util/List -/
def k6 : Class := { plain "java/util/List" (some 0) with
  accessFlags := 1537
  interfaces := #[5]
  cf := some (fileOf pool6 8 #[] #[{ accessFlags := 1025, nameIndex := 79, descriptorIndex := 80, attributes := #[] }, { accessFlags := 1025, nameIndex := 75, descriptorIndex := 76, attributes := #[] }, { accessFlags := 9, nameIndex := 88, descriptorIndex := 119, attributes := #[] }] 1537 103 #[120] #[])
  fields := #[]
  methods := #[k6m0, k6m1, k6m2]
  instanceTypes := #[]
  staticTypes := #[]
  resolved := Array.replicate 251 none
  statics := none }

def pool7 : Array CpInfo := pool [(1, .methodref 2 3), (0, .class_ 4), (0, .nameAndType 5 6), (0, u "java/util/AbstractCollection"), (0, u "<init>"), (0, u "()V"), (0, .fieldref 8 9), (0, .class_ 10), (0, .nameAndType 11 12), (0, u "java/util/AbstractList"), (0, u "modCount"), (0, u "I"), (64, .class_ 78), (0, u "java/util/AbstractList$Itr"), (3, .class_ 83), (0, u "java/util/AbstractList$ListItr"), (9, .class_ 94), (0, u "java/util/AbstractList$RandomAccessSubList"), (3, .class_ 99), (0, u "java/util/AbstractList$SubList"), (33, .class_ 134), (0, u "java/util/List"), (73, .class_ 209), (0, u "java/util/AbstractList$SubList$1"), (0, .class_ 211), (0, u "java/util/AbstractList$RandomAccessSpliterator")] 6

def k7c0 : Code := { maxStack := 2, maxLocals := 1, code := jdk_39_method_1_code, exceptionTable := #[], attributes := #[] }
def k7m0 : Method := { name := "<init>", desc := "()V", sig := { parameters := [], returnType := none }, accessFlags := 4, code := some k7c0 }
/-- java/util/AbstractList -/
def k7 : Class := { plain "java/util/AbstractList" (some 4) with
  accessFlags := 1057
  interfaces := #[6]
  cf := some (fileOf pool7 8 #[.nestMembers #[93, 98, 208, 210, 82, 77]] #[{ accessFlags := 4, nameIndex := 5, descriptorIndex := 6, attributes := #[] }] 1057 2 #[133] #[{ accessFlags := 132, nameIndex := 11, descriptorIndex := 12, attributes := #[] }])
  fields := #[{ name := "modCount", type := .int, accessFlags := 132, slot := 0, constantValue := 0 }]
  methods := #[k7m0]
  instanceTypes := #[.int]
  staticTypes := #[]
  resolved := Array.replicate 218 none
  statics := none }

def pool8 : Array CpInfo := pool [(1, .class_ 2), (0, u "java/util/RandomAccess"), (0, .class_ 4), (0, u "java/lang/Object")] 2

/-- java/util/RandomAccess -/
def k8 : Class := { plain "java/util/RandomAccess" (some 0) with
  accessFlags := 1537
  interfaces := #[]
  cf := some (fileOf pool8 1 #[] #[] 1537 3 #[] #[])
  fields := #[]
  methods := #[]
  instanceTypes := #[]
  staticTypes := #[]
  resolved := Array.replicate 7 none
  statics := none }

def pool9 : Array CpInfo := pool [(1, .class_ 2), (0, u "java/lang/Cloneable"), (0, .class_ 4), (0, u "java/lang/Object")] 2

/-- java/lang/Cloneable -/
def k9 : Class := { plain "java/lang/Cloneable" (some 0) with
  accessFlags := 1537
  interfaces := #[]
  cf := some (fileOf pool9 1 #[] #[] 1537 3 #[] #[])
  fields := #[]
  methods := #[]
  instanceTypes := #[]
  staticTypes := #[]
  resolved := Array.replicate 7 none
  statics := none }

def pool10 : Array CpInfo := pool [(1, .class_ 2), (0, u "java/io/Serializable"), (0, .class_ 4), (0, u "java/lang/Object")] 2

/-- java/io/Serializable -/
def k10 : Class := { plain "java/io/Serializable" (some 0) with
  accessFlags := 1537
  interfaces := #[]
  cf := some (fileOf pool10 1 #[] #[] 1537 3 #[] #[])
  fields := #[]
  methods := #[]
  instanceTypes := #[]
  staticTypes := #[]
  resolved := Array.replicate 7 none
  statics := none }

def pool11 : Array CpInfo := pool [(1, .methodref 2 3), (0, .class_ 4), (0, .nameAndType 5 6), (0, u "java/util/AbstractList"), (0, u "<init>"), (0, u "()V"), (0, .class_ 8), (0, u "java/lang/Object"), (0, .fieldref 10 11), (0, .class_ 12), (0, .nameAndType 13 14), (0, u "java/util/ArrayList"), (0, u "elementData"), (0, u "[Ljava/lang/Object;"), (2, u "EMPTY_ELEMENTDATA"), (21, .fieldref 10 40), (0, .nameAndType 41 14), (0, u "DEFAULTCAPACITY_EMPTY_ELEMENTDATA"), (5, u "()[Ljava/lang/Object;"), (0, .fieldref 10 49), (0, .nameAndType 50 51), (0, u "size"), (0, u "I"), (11, .fieldref 10 64), (0, .nameAndType 65 51), (0, u "modCount"), (3, .methodref 10 70), (0, .nameAndType 71 72), (0, u "grow"), (0, u "(I)[Ljava/lang/Object;"), (6, .methodref 80 81), (0, .class_ 82), (0, .nameAndType 83 84), (0, u "java/lang/Math"), (0, u "max"), (0, u "(II)I"), (11, u "(Ljava/lang/Object;)Z"), (21, .methodref 119 120), (0, .class_ 121), (0, .nameAndType 122 84), (0, u "java/util/Objects"), (0, u "checkIndex"), (0, .methodref 10 124), (0, .nameAndType 13 125), (0, u "(I)Ljava/lang/Object;"), (3, .methodref 10 130), (0, .nameAndType 71 47), (0, .methodref 10 132), (0, .nameAndType 133 134), (0, u "add"), (0, u "(Ljava/lang/Object;[Ljava/lang/Object;I)V"), (13, .class_ 149), (0, u "java/util/List"), (36, u "()I"), (75, .class_ 263), (0, u "java/util/ArrayList$ListItr"), (3, .class_ 268), (0, u "java/util/ArrayList$Itr"), (7, .class_ 277), (0, u "java/util/ArrayList$SubList"), (12, .class_ 291), (0, u "java/util/ArrayList$ArrayListSpliterator"), (37, .class_ 330), (0, u "java/util/RandomAccess"), (0, .class_ 332), (0, u "java/lang/Cloneable"), (0, .class_ 334), (0, u "java/io/Serializable"), (0, u "serialVersionUID"), (0, u "J"), (3, u "DEFAULT_CAPACITY"), (40, u "get"), (118, .class_ 501), (0, u "java/util/ArrayList$SubList$2"), (0, .class_ 503), (0, u "java/util/ArrayList$SubList$1")] 5

def k11c0 : Code := { maxStack := 2, maxLocals := 1, code := jdk_38_method_2_code, exceptionTable := #[], attributes := #[] }
def k11m0 : Method := { name := "<init>", desc := "()V", sig := { parameters := [], returnType := none }, accessFlags := 1, code := some k11c0 }
def k11c1 : Code := { maxStack := 4, maxLocals := 4, code := jdk_38_method_6_code, exceptionTable := #[], attributes := #[] }
def k11m1 : Method := { name := "grow", desc := "(I)[Ljava/lang/Object;", sig := { parameters := [.int], returnType := some (.array (.object "java/lang/Object")) }, accessFlags := 2, code := some k11c1 }
def k11c2 : Code := { maxStack := 3, maxLocals := 1, code := jdk_38_method_7_code, exceptionTable := #[], attributes := #[] }
def k11m2 : Method := { name := "grow", desc := "()[Ljava/lang/Object;", sig := { parameters := [], returnType := some (.array (.object "java/lang/Object")) }, accessFlags := 2, code := some k11c2 }
def k11c3 : Code := { maxStack := 1, maxLocals := 1, code := jdk_38_method_8_code, exceptionTable := #[], attributes := #[] }
def k11m3 : Method := { name := "size", desc := "()I", sig := { parameters := [], returnType := some .int }, accessFlags := 1, code := some k11c3 }
def k11c4 : Code := { maxStack := 2, maxLocals := 2, code := jdk_38_method_18_code, exceptionTable := #[], attributes := #[] }
def k11m4 : Method := { name := "elementData", desc := "(I)Ljava/lang/Object;", sig := { parameters := [.int], returnType := some (.object "java/lang/Object") }, accessFlags := 0, code := some k11c4 }
def k11c5 : Code := { maxStack := 2, maxLocals := 2, code := jdk_38_method_20_code, exceptionTable := #[], attributes := #[] }
def k11m5 : Method := { name := "get", desc := "(I)Ljava/lang/Object;", sig := { parameters := [.int], returnType := some (.object "java/lang/Object") }, accessFlags := 1, code := some k11c5 }
def k11c6 : Code := { maxStack := 3, maxLocals := 4, code := jdk_38_method_24_code, exceptionTable := #[], attributes := #[] }
def k11m6 : Method := { name := "add", desc := "(Ljava/lang/Object;[Ljava/lang/Object;I)V", sig := { parameters := [(.object "java/lang/Object"), (.array (.object "java/lang/Object")), .int], returnType := none }, accessFlags := 2, code := some k11c6 }
def k11c7 : Code := { maxStack := 4, maxLocals := 2, code := jdk_38_method_25_code, exceptionTable := #[], attributes := #[] }
def k11m7 : Method := { name := "add", desc := "(Ljava/lang/Object;)Z", sig := { parameters := [(.object "java/lang/Object")], returnType := some .boolean }, accessFlags := 1, code := some k11c7 }
/-- java/util/ArrayList -/
def k11 : Class := { plain "java/util/ArrayList" (some 7) with
  accessFlags := 33
  interfaces := #[6, 8, 9, 10]
  cf := some (fileOf pool11 10 #[.nestMembers #[290, 276, 500, 502, 262, 267]] #[{ accessFlags := 1, nameIndex := 5, descriptorIndex := 6, attributes := #[] }, { accessFlags := 2, nameIndex := 71, descriptorIndex := 72, attributes := #[] }, { accessFlags := 2, nameIndex := 71, descriptorIndex := 47, attributes := #[] }, { accessFlags := 1, nameIndex := 50, descriptorIndex := 186, attributes := #[] }, { accessFlags := 0, nameIndex := 13, descriptorIndex := 125, attributes := #[] }, { accessFlags := 1, nameIndex := 381, descriptorIndex := 125, attributes := #[] }, { accessFlags := 2, nameIndex := 133, descriptorIndex := 134, attributes := #[] }, { accessFlags := 1, nameIndex := 133, descriptorIndex := 96, attributes := #[] }] 33 2 #[148, 329, 331, 333] #[{ accessFlags := 26, nameIndex := 335, descriptorIndex := 336, attributes := #[] }, { accessFlags := 26, nameIndex := 340, descriptorIndex := 51, attributes := #[] }, { accessFlags := 26, nameIndex := 17, descriptorIndex := 14, attributes := #[] }, { accessFlags := 26, nameIndex := 41, descriptorIndex := 14, attributes := #[] }, { accessFlags := 128, nameIndex := 13, descriptorIndex := 14, attributes := #[] }, { accessFlags := 2, nameIndex := 50, descriptorIndex := 51, attributes := #[] }])
  fields := #[{ name := "serialVersionUID", type := .long, accessFlags := 26, slot := 0, constantValue := 0 }, { name := "DEFAULT_CAPACITY", type := .int, accessFlags := 26, slot := 1, constantValue := 0 }, { name := "EMPTY_ELEMENTDATA", type := (.array (.object "java/lang/Object")), accessFlags := 26, slot := 2, constantValue := 0 }, { name := "DEFAULTCAPACITY_EMPTY_ELEMENTDATA", type := (.array (.object "java/lang/Object")), accessFlags := 26, slot := 3, constantValue := 0 }, { name := "elementData", type := (.array (.object "java/lang/Object")), accessFlags := 128, slot := 1, constantValue := 0 }, { name := "size", type := .int, accessFlags := 2, slot := 2, constantValue := 0 }]
  methods := #[k11m0, k11m1, k11m2, k11m3, k11m4, k11m5, k11m6, k11m7]
  instanceTypes := #[.int, (.array (.object "java/lang/Object")), .int]
  staticTypes := #[.long, .int, (.array (.object "java/lang/Object")), (.array (.object "java/lang/Object"))]
  resolved := Array.replicate 509 none
  statics := some 0 }

def pool12 : Array CpInfo := pool [(2, .class_ 4), (1, u "java/lang/Object"), (0, u "<init>"), (0, u "()V"), (0, .interfaceMethodref 8 9), (0, .class_ 10), (0, .nameAndType 11 12), (0, u "java/util/List"), (0, u "of"), (0, u "()Ljava/util/List;"), (5, .class_ 19), (0, u "com/example/raised_flags/raisedflags/document/Defaults"), (2, u "list"), (0, u "(Ljava/util/List;)Ljava/util/List;")] 8

def k12m0 : Method := { name := "<init>", desc := "()V", sig := { parameters := [], returnType := none }, accessFlags := 2, code := none }
def k12c1 : Code := { maxStack := 1, maxLocals := 1, code := prog_9_method_2_code, exceptionTable := #[], attributes := #[] }
def k12m1 : Method := { name := "list", desc := "(Ljava/util/List;)Ljava/util/List;", sig := { parameters := [(.object "java/util/List")], returnType := some (.object "java/util/List") }, accessFlags := 8, code := some k12c1 }
/-- com/example/raised_flags/raisedflags/document/Defaults -/
def k12 : Class := { plain "com/example/raised_flags/raisedflags/document/Defaults" (some 0) with
  accessFlags := 48
  interfaces := #[]
  cf := some (fileOf pool12 18 #[] #[{ accessFlags := 2, nameIndex := 5, descriptorIndex := 6, attributes := #[] }, { accessFlags := 8, nameIndex := 22, descriptorIndex := 23, attributes := #[] }] 48 2 #[] #[])
  fields := #[]
  methods := #[k12m0, k12m1]
  instanceTypes := #[]
  staticTypes := #[]
  resolved := Array.replicate 32 none
  statics := none }

def pool13 : Array CpInfo := pool [(2, .class_ 4), (1, u "java/lang/Object"), (0, u "<init>"), (0, u "()V"), (3, .class_ 11), (0, u "java/util/ImmutableCollections$List12"), (0, .class_ 13), (0, u "java/util/ImmutableCollections$ListN"), (3, u "Z"), (29, .class_ 49), (1, u "java/util/ImmutableCollections"), (0, u "$assertionsDisabled"), (5, u "[Ljava/lang/Object;"), (5, u "EMPTY_LIST"), (0, u "Ljava/util/ImmutableCollections$ListN;"), (8, u "EMPTY_LIST_NULLS"), (22, u "SALT32L"), (0, u "J"), (2, u "REVERSE"), (6, u "archivedObjects"), (2, u "EMPTY"), (0, u "Ljava/lang/Object;"), (0, .class_ 112), (0, u "java/util/ImmutableCollections$SetN"), (5, u "EMPTY_SET"), (0, u "Ljava/util/ImmutableCollections$SetN;"), (0, .class_ 121), (0, u "java/util/ImmutableCollections$MapN"), (3, u "EMPTY_MAP"), (0, u "Ljava/util/ImmutableCollections$MapN;"), (4, u "EXPAND_FACTOR"), (0, u "I"), (36, .class_ 170), (0, u "java/util/ImmutableCollections$MapN$MapNIterator"), (0, .class_ 172), (0, u "java/util/ImmutableCollections$MapN$1"), (0, .class_ 174), (0, u "java/util/ImmutableCollections$Map1"), (0, .class_ 176), (0, u "java/util/ImmutableCollections$AbstractImmutableMap"), (0, .class_ 178), (0, u "java/util/ImmutableCollections$SetN$SetNIterator"), (0, .class_ 180), (0, u "java/util/ImmutableCollections$Set12"), (0, .class_ 182), (0, u "java/util/ImmutableCollections$Set12$1"), (0, .class_ 184), (0, u "java/util/ImmutableCollections$AbstractImmutableSet"), (0, .class_ 186), (0, u "java/util/ImmutableCollections$SubList"), (0, .class_ 188), (0, u "java/util/ImmutableCollections$ListItr"), (0, .class_ 190), (0, u "java/util/ImmutableCollections$AbstractImmutableList"), (0, .class_ 192), (0, u "java/util/ImmutableCollections$AbstractImmutableCollection"), (0, .class_ 194), (0, u "java/util/ImmutableCollections$Access"), (0, .class_ 196), (0, u "java/util/ImmutableCollections$Access$1")] 16

def k13m0 : Method := { name := "<init>", desc := "()V", sig := { parameters := [], returnType := none }, accessFlags := 2, code := none }
/-- java/util/ImmutableCollections -/
def k13 : Class := { plain "java/util/ImmutableCollections" (some 0) with
  accessFlags := 32
  interfaces := #[]
  cf := some (fileOf pool13 47 #[.nestMembers #[120, 169, 171, 173, 175, 111, 177, 179, 181, 183, 12, 10, 185, 187, 189, 191, 193, 195]] #[{ accessFlags := 2, nameIndex := 5, descriptorIndex := 6, attributes := #[] }] 32 2 #[] #[{ accessFlags := 26, nameIndex := 95, descriptorIndex := 96, attributes := #[] }, { accessFlags := 26, nameIndex := 99, descriptorIndex := 17, attributes := #[] }, { accessFlags := 10, nameIndex := 106, descriptorIndex := 56, attributes := #[] }, { accessFlags := 26, nameIndex := 109, descriptorIndex := 110, attributes := #[] }, { accessFlags := 24, nameIndex := 62, descriptorIndex := 63, attributes := #[] }, { accessFlags := 24, nameIndex := 72, descriptorIndex := 63, attributes := #[] }, { accessFlags := 24, nameIndex := 118, descriptorIndex := 119, attributes := #[] }, { accessFlags := 24, nameIndex := 125, descriptorIndex := 126, attributes := #[] }, { accessFlags := 24, nameIndex := 131, descriptorIndex := 132, attributes := #[] }, { accessFlags := 4120, nameIndex := 50, descriptorIndex := 17, attributes := #[] }])
  fields := #[{ name := "SALT32L", type := .long, accessFlags := 26, slot := 0, constantValue := 0 }, { name := "REVERSE", type := .boolean, accessFlags := 26, slot := 1, constantValue := 0 }, { name := "archivedObjects", type := (.array (.object "java/lang/Object")), accessFlags := 10, slot := 2, constantValue := 0 }, { name := "EMPTY", type := (.object "java/lang/Object"), accessFlags := 26, slot := 3, constantValue := 0 }, { name := "EMPTY_LIST", type := (.object "java/util/ImmutableCollections$ListN"), accessFlags := 24, slot := 4, constantValue := 0 }, { name := "EMPTY_LIST_NULLS", type := (.object "java/util/ImmutableCollections$ListN"), accessFlags := 24, slot := 5, constantValue := 0 }, { name := "EMPTY_SET", type := (.object "java/util/ImmutableCollections$SetN"), accessFlags := 24, slot := 6, constantValue := 0 }, { name := "EMPTY_MAP", type := (.object "java/util/ImmutableCollections$MapN"), accessFlags := 24, slot := 7, constantValue := 0 }, { name := "EXPAND_FACTOR", type := .int, accessFlags := 24, slot := 8, constantValue := 0 }, { name := "$assertionsDisabled", type := .boolean, accessFlags := 4120, slot := 9, constantValue := 0 }]
  methods := #[k13m0]
  instanceTypes := #[]
  staticTypes := #[.long, .boolean, (.array (.object "java/lang/Object")), (.object "java/lang/Object"), (.object "java/util/ImmutableCollections$ListN"), (.object "java/util/ImmutableCollections$ListN"), (.object "java/util/ImmutableCollections$SetN"), (.object "java/util/ImmutableCollections$MapN"), .int, .boolean]
  resolved := Array.replicate 213 none
  statics := some 1 }

def pool14 : Array CpInfo := pool [(2, .class_ 4), (1, u "java/util/AbstractCollection"), (0, u "<init>"), (0, u "()V"), (1, .class_ 10), (1, u "java/util/ImmutableCollections"), (2, .class_ 14), (0, u "java/util/ImmutableCollections$AbstractImmutableCollection")] 41

def k14m0 : Method := { name := "<init>", desc := "()V", sig := { parameters := [], returnType := none }, accessFlags := 0, code := none }
/-- java/util/ImmutableCollections$AbstractImmutableCollection -/
def k14 : Class := { plain "java/util/ImmutableCollections$AbstractImmutableCollection" (some 4) with
  accessFlags := 1056
  interfaces := #[]
  cf := some (fileOf pool14 13 #[.nestHost 8] #[{ accessFlags := 0, nameIndex := 5, descriptorIndex := 6, attributes := #[] }] 1056 2 #[] #[])
  fields := #[]
  methods := #[k14m0]
  instanceTypes := #[]
  staticTypes := #[]
  resolved := Array.replicate 56 none
  statics := none }

def pool15 : Array CpInfo := pool [(2, .class_ 4), (1, u "java/util/ImmutableCollections$AbstractImmutableCollection"), (0, u "<init>"), (0, u "()V"), (1, .class_ 10), (1, u "java/util/ImmutableCollections"), (3, .class_ 16), (1, u "java/util/ImmutableCollections$AbstractImmutableList"), (60, .class_ 78), (0, u "java/util/List"), (45, .class_ 125), (0, u "java/util/RandomAccess")] 70

def k15m0 : Method := { name := "<init>", desc := "()V", sig := { parameters := [], returnType := none }, accessFlags := 0, code := none }
/-- java/util/ImmutableCollections$AbstractImmutableList -/
def k15 : Class := { plain "java/util/ImmutableCollections$AbstractImmutableList" (some 14) with
  accessFlags := 1056
  interfaces := #[6, 8]
  cf := some (fileOf pool15 14 #[.nestHost 8] #[{ accessFlags := 0, nameIndex := 5, descriptorIndex := 6, attributes := #[] }] 1056 2 #[77, 124] #[])
  fields := #[]
  methods := #[k15m0]
  instanceTypes := #[]
  staticTypes := #[]
  resolved := Array.replicate 196 none
  statics := none }

def pool16 : Array CpInfo := pool [(2, .class_ 4), (1, u "java/util/ImmutableCollections$AbstractImmutableList"), (2, .fieldref 8 9), (0, .class_ 10), (0, .nameAndType 11 12), (0, u "java/util/ImmutableCollections$ListN"), (0, u "elements"), (0, u "[Ljava/lang/Object;"), (2, u "allowNulls"), (0, u "Z"), (42, .class_ 60), (0, u "java/io/Serializable"), (16, u "size"), (0, u "()I"), (35, .class_ 115), (0, u "java/util/ImmutableCollections")] 3

def k16c0 : Code := { maxStack := 1, maxLocals := 1, code := jdk_45_method_3_code, exceptionTable := #[], attributes := #[] }
def k16m0 : Method := { name := "size", desc := "()I", sig := { parameters := [], returnType := some .int }, accessFlags := 1, code := some k16c0 }
/-- java/util/ImmutableCollections$ListN -/
def k16 : Class := { plain "java/util/ImmutableCollections$ListN" (some 15) with
  accessFlags := 48
  interfaces := #[10]
  cf := some (fileOf pool16 8 #[.nestHost 114] #[{ accessFlags := 1, nameIndex := 77, descriptorIndex := 78, attributes := #[] }] 48 2 #[59] #[{ accessFlags := 18, nameIndex := 11, descriptorIndex := 12, attributes := #[] }, { accessFlags := 18, nameIndex := 15, descriptorIndex := 16, attributes := #[] }])
  fields := #[{ name := "elements", type := (.array (.object "java/lang/Object")), accessFlags := 18, slot := 0, constantValue := 0 }, { name := "allowNulls", type := .boolean, accessFlags := 18, slot := 1, constantValue := 0 }]
  methods := #[k16m0]
  instanceTypes := #[(.array (.object "java/lang/Object")), .boolean]
  staticTypes := #[]
  resolved := Array.replicate 119 none
  statics := none }

def pool17 : Array CpInfo := pool [(1, .methodref 2 3), (0, .class_ 4), (0, .nameAndType 5 6), (0, u "java/lang/Object"), (0, u "<init>"), (0, u "()V"), (1, .class_ 10), (1, u "java/lang/Number"), (2, .class_ 14), (0, u "java/io/Serializable"), (0, u "serialVersionUID"), (0, u "J")] 20

def k17c0 : Code := { maxStack := 1, maxLocals := 1, code := jdk_18_method_1_code, exceptionTable := #[], attributes := #[] }
def k17m0 : Method := { name := "<init>", desc := "()V", sig := { parameters := [], returnType := none }, accessFlags := 1, code := some k17c0 }
/-- java/lang/Number -/
def k17 : Class := { plain "java/lang/Number" (some 0) with
  accessFlags := 1057
  interfaces := #[10]
  cf := some (fileOf pool17 8 #[] #[{ accessFlags := 1, nameIndex := 5, descriptorIndex := 6, attributes := #[] }] 1057 2 #[13] #[{ accessFlags := 26, nameIndex := 15, descriptorIndex := 16, attributes := #[] }])
  fields := #[{ name := "serialVersionUID", type := .long, accessFlags := 26, slot := 0, constantValue := 0 }]
  methods := #[k17m0]
  instanceTypes := #[]
  staticTypes := #[.long]
  resolved := Array.replicate 37 none
  statics := none }

def pool18 : Array CpInfo := pool [(1, .class_ 2), (0, u "java/lang/Comparable"), (0, .class_ 4), (0, u "java/lang/Object")] 7

/-- java/lang/Comparable -/
def k18 : Class := { plain "java/lang/Comparable" (some 0) with
  accessFlags := 1537
  interfaces := #[]
  cf := some (fileOf pool18 1 #[] #[] 1537 3 #[] #[])
  fields := #[]
  methods := #[]
  instanceTypes := #[]
  staticTypes := #[]
  resolved := Array.replicate 12 none
  statics := none }

def pool19 : Array CpInfo := pool [(1, .class_ 2), (0, u "java/lang/constant/Constable"), (0, .class_ 4), (0, u "java/lang/Object")] 6

/-- java/lang/constant/Constable -/
def k19 : Class := { plain "java/lang/constant/Constable" (some 0) with
  accessFlags := 1537
  interfaces := #[]
  cf := some (fileOf pool19 1 #[] #[] 1537 3 #[] #[])
  fields := #[]
  methods := #[]
  instanceTypes := #[]
  staticTypes := #[]
  resolved := Array.replicate 11 none
  statics := none }

def pool20 : Array CpInfo := pool [(1, .class_ 2), (0, u "java/lang/constant/ConstantDesc"), (0, .class_ 4), (0, u "java/lang/Object")] 32

/-- java/lang/constant/ConstantDesc -/
def k20 : Class := { plain "java/lang/constant/ConstantDesc" (some 0) with
  accessFlags := 1537
  interfaces := #[]
  cf := some (fileOf pool20 1 #[] #[] 1537 3 #[] #[])
  fields := #[]
  methods := #[]
  instanceTypes := #[]
  staticTypes := #[]
  resolved := Array.replicate 37 none
  statics := none }

def pool21 : Array CpInfo := pool [(1, .class_ 2), (0, u "java/lang/Integer"), (16, u "digits"), (0, u "[C"), (46, u "<init>"), (17, u "DigitOnes"), (0, u "[B"), (2, u "DigitTens"), (10, .nameAndType 67 101), (0, u "()V"), (19, u "()I"), (65, u "valueOf"), (0, u "(I)Ljava/lang/Integer;"), (0, .class_ 190), (0, u "java/lang/Integer$IntegerCache"), (0, .fieldref 189 192), (0, .nameAndType 193 194), (0, u "high"), (0, u "I"), (0, .fieldref 189 196), (0, .nameAndType 197 198), (0, u "cache"), (0, u "[Ljava/lang/Integer;"), (0, .methodref 1 200), (0, .nameAndType 67 201), (0, u "(I)V"), (0, .methodref 203 100), (0, .class_ 204), (0, u "java/lang/Number"), (0, .fieldref 1 206), (0, .nameAndType 207 194), (0, u "value"), (5, u "intValue"), (88, u "TYPE"), (0, u "Ljava/lang/Class;"), (0, .class_ 305), (0, u "java/lang/Comparable"), (0, .class_ 307), (0, u "java/lang/constant/Constable"), (0, .class_ 309), (0, u "java/lang/constant/ConstantDesc"), (0, u "MIN_VALUE"), (1, u "MAX_VALUE"), (3, u "SIZE"), (1, u "BYTES"), (1, u "serialVersionUID"), (0, u "J")] 131

def k21c0 : Code := { maxStack := 3, maxLocals := 1, code := jdk_33_method_22_code, exceptionTable := #[], attributes := #[] }
def k21m0 : Method := { name := "valueOf", desc := "(I)Ljava/lang/Integer;", sig := { parameters := [.int], returnType := some (.object "java/lang/Integer") }, accessFlags := 9, code := some k21c0 }
def k21c1 : Code := { maxStack := 2, maxLocals := 2, code := jdk_33_method_23_code, exceptionTable := #[], attributes := #[] }
def k21m1 : Method := { name := "<init>", desc := "(I)V", sig := { parameters := [.int], returnType := none }, accessFlags := 1, code := some k21c1 }
def k21c2 : Code := { maxStack := 1, maxLocals := 1, code := jdk_33_method_27_code, exceptionTable := #[], attributes := #[] }
def k21m2 : Method := { name := "intValue", desc := "()I", sig := { parameters := [], returnType := some .int }, accessFlags := 1, code := some k21c2 }
/-- java/lang/Integer -/
def k21 : Class := { plain "java/lang/Integer" (some 17) with
  accessFlags := 49
  interfaces := #[18, 19, 20]
  cf := some (fileOf pool21 1 #[.nestMembers #[189]] #[{ accessFlags := 9, nameIndex := 187, descriptorIndex := 188, attributes := #[] }, { accessFlags := 1, nameIndex := 67, descriptorIndex := 201, attributes := #[] }, { accessFlags := 1, nameIndex := 213, descriptorIndex := 121, attributes := #[] }] 49 203 #[304, 306, 308] #[{ accessFlags := 25, nameIndex := 310, descriptorIndex := 194, attributes := #[] }, { accessFlags := 25, nameIndex := 312, descriptorIndex := 194, attributes := #[] }, { accessFlags := 25, nameIndex := 302, descriptorIndex := 303, attributes := #[] }, { accessFlags := 24, nameIndex := 19, descriptorIndex := 20, attributes := #[] }, { accessFlags := 24, nameIndex := 89, descriptorIndex := 86, attributes := #[] }, { accessFlags := 24, nameIndex := 85, descriptorIndex := 86, attributes := #[] }, { accessFlags := 18, nameIndex := 207, descriptorIndex := 194, attributes := #[] }, { accessFlags := 25, nameIndex := 316, descriptorIndex := 194, attributes := #[] }, { accessFlags := 25, nameIndex := 318, descriptorIndex := 194, attributes := #[] }, { accessFlags := 26, nameIndex := 320, descriptorIndex := 321, attributes := #[] }])
  fields := #[{ name := "MIN_VALUE", type := .int, accessFlags := 25, slot := 0, constantValue := 0 }, { name := "MAX_VALUE", type := .int, accessFlags := 25, slot := 1, constantValue := 0 }, { name := "TYPE", type := (.object "java/lang/Class"), accessFlags := 25, slot := 2, constantValue := 0 }, { name := "digits", type := (.array .char), accessFlags := 24, slot := 3, constantValue := 0 }, { name := "DigitTens", type := (.array .byte), accessFlags := 24, slot := 4, constantValue := 0 }, { name := "DigitOnes", type := (.array .byte), accessFlags := 24, slot := 5, constantValue := 0 }, { name := "value", type := .int, accessFlags := 18, slot := 0, constantValue := 0 }, { name := "SIZE", type := .int, accessFlags := 25, slot := 6, constantValue := 0 }, { name := "BYTES", type := .int, accessFlags := 25, slot := 7, constantValue := 0 }, { name := "serialVersionUID", type := .long, accessFlags := 26, slot := 8, constantValue := 0 }]
  methods := #[k21m0, k21m1, k21m2]
  instanceTypes := #[.int]
  staticTypes := #[.int, .int, (.object "java/lang/Class"), (.array .char), (.array .byte), (.array .byte), .int, .int, .long]
  resolved := Array.replicate 453 none
  statics := none }

def pool22 : Array CpInfo := pool [(2, .class_ 4), (1, u "java/lang/Object"), (0, u "<init>"), (0, u "()V"), (0, .class_ 8), (0, u "java/lang/Integer"), (7, .class_ 18), (1, u "java/lang/Integer$IntegerCache"), (0, u "$assertionsDisabled"), (0, u "Z"), (26, u "high"), (0, u "I"), (8, u "archivedCache"), (0, u "[Ljava/lang/Integer;"), (12, u "cache"), (0, u "low")] 27

def k22m0 : Method := { name := "<init>", desc := "()V", sig := { parameters := [], returnType := none }, accessFlags := 2, code := none }
/-- java/lang/Integer$IntegerCache -/
def k22 : Class := { plain "java/lang/Integer$IntegerCache" (some 0) with
  accessFlags := 48
  interfaces := #[]
  cf := some (fileOf pool22 16 #[.nestHost 7] #[{ accessFlags := 2, nameIndex := 5, descriptorIndex := 6, attributes := #[] }] 48 2 #[] #[{ accessFlags := 24, nameIndex := 72, descriptorIndex := 48, attributes := #[] }, { accessFlags := 24, nameIndex := 47, descriptorIndex := 48, attributes := #[] }, { accessFlags := 24, nameIndex := 71, descriptorIndex := 58, attributes := #[] }, { accessFlags := 8, nameIndex := 57, descriptorIndex := 58, attributes := #[] }, { accessFlags := 4120, nameIndex := 19, descriptorIndex := 20, attributes := #[] }])
  fields := #[{ name := "low", type := .int, accessFlags := 24, slot := 0, constantValue := 0 }, { name := "high", type := .int, accessFlags := 24, slot := 1, constantValue := 0 }, { name := "cache", type := (.array (.object "java/lang/Integer")), accessFlags := 24, slot := 2, constantValue := 0 }, { name := "archivedCache", type := (.array (.object "java/lang/Integer")), accessFlags := 8, slot := 3, constantValue := 0 }, { name := "$assertionsDisabled", type := .boolean, accessFlags := 4120, slot := 4, constantValue := 0 }]
  methods := #[k22m0]
  instanceTypes := #[]
  staticTypes := #[.int, .int, (.array (.object "java/lang/Integer")), (.array (.object "java/lang/Integer")), .boolean]
  resolved := Array.replicate 100 none
  statics := some 2 }

def pool23 : Array CpInfo := pool [(1, .class_ 2), (0, u "java/lang/Math"), (1, .class_ 6), (1, u "java/lang/Object"), (0, u "<init>"), (0, u "()V"), (89, .class_ 100), (1, u "java/lang/Math$RandomNumberGeneratorHolder"), (71, u "negativeZeroFloatBits"), (0, u "J"), (2, u "negativeZeroDoubleBits"), (21, u "max"), (46, u "$assertionsDisabled"), (0, u "Z"), (88, u "(II)I"), (2, u "twoToTheDoubleScaleDown"), (0, u "D"), (4, u "twoToTheDoubleScaleUp"), (9, u "E"), (3, u "PI"), (2, u "TAU"), (2, u "DEGREES_TO_RADIANS"), (0, u "RADIANS_TO_DEGREES")] 94

def k23m0 : Method := { name := "<init>", desc := "()V", sig := { parameters := [], returnType := none }, accessFlags := 2, code := none }
def k23c1 : Code := { maxStack := 2, maxLocals := 2, code := jdk_29_method_65_code, exceptionTable := #[], attributes := #[] }
def k23m1 : Method := { name := "max", desc := "(II)I", sig := { parameters := [.int, .int], returnType := some .int }, accessFlags := 9, code := some k23c1 }
/-- java/lang/Math -/
def k23 : Class := { plain "java/lang/Math" (some 0) with
  accessFlags := 49
  interfaces := #[]
  cf := some (fileOf pool23 1 #[.nestMembers #[98]] #[{ accessFlags := 2, nameIndex := 7, descriptorIndex := 8, attributes := #[] }, { accessFlags := 9, nameIndex := 198, descriptorIndex := 335, attributes := #[] }] 49 4 #[] #[{ accessFlags := 25, nameIndex := 354, descriptorIndex := 339, attributes := #[] }, { accessFlags := 25, nameIndex := 358, descriptorIndex := 339, attributes := #[] }, { accessFlags := 25, nameIndex := 361, descriptorIndex := 339, attributes := #[] }, { accessFlags := 26, nameIndex := 364, descriptorIndex := 339, attributes := #[] }, { accessFlags := 26, nameIndex := 365, descriptorIndex := 339, attributes := #[] }, { accessFlags := 26, nameIndex := 172, descriptorIndex := 173, attributes := #[] }, { accessFlags := 26, nameIndex := 176, descriptorIndex := 173, attributes := #[] }, { accessFlags := 8, nameIndex := 344, descriptorIndex := 339, attributes := #[] }, { accessFlags := 8, nameIndex := 338, descriptorIndex := 339, attributes := #[] }, { accessFlags := 4120, nameIndex := 245, descriptorIndex := 246, attributes := #[] }])
  fields := #[{ name := "E", type := .double, accessFlags := 25, slot := 0, constantValue := 0 }, { name := "PI", type := .double, accessFlags := 25, slot := 1, constantValue := 0 }, { name := "TAU", type := .double, accessFlags := 25, slot := 2, constantValue := 0 }, { name := "DEGREES_TO_RADIANS", type := .double, accessFlags := 26, slot := 3, constantValue := 0 }, { name := "RADIANS_TO_DEGREES", type := .double, accessFlags := 26, slot := 4, constantValue := 0 }, { name := "negativeZeroFloatBits", type := .long, accessFlags := 26, slot := 5, constantValue := 0 }, { name := "negativeZeroDoubleBits", type := .long, accessFlags := 26, slot := 6, constantValue := 0 }, { name := "twoToTheDoubleScaleUp", type := .double, accessFlags := 8, slot := 7, constantValue := 0 }, { name := "twoToTheDoubleScaleDown", type := .double, accessFlags := 8, slot := 8, constantValue := 0 }, { name := "$assertionsDisabled", type := .boolean, accessFlags := 4120, slot := 9, constantValue := 0 }]
  methods := #[k23m0, k23m1]
  instanceTypes := #[]
  staticTypes := #[.double, .double, .double, .double, .double, .long, .long, .double, .double, .boolean]
  resolved := Array.replicate 460 none
  statics := none }

def pool24 : Array CpInfo := pool [(2, .class_ 4), (1, u "java/lang/Object"), (0, u "<init>"), (0, u "()V"), (35, .class_ 44), (1, u "java/util/Objects"), (60, .methodref 106 107), (0, .class_ 108), (0, .nameAndType 109 110), (0, u "jdk/internal/util/Preconditions"), (0, u "checkIndex"), (0, u "(IILjava/util/function/BiFunction;)I"), (60, u "(II)I")] 12

def k24m0 : Method := { name := "<init>", desc := "()V", sig := { parameters := [], returnType := none }, accessFlags := 2, code := none }
def k24c1 : Code := { maxStack := 3, maxLocals := 2, code := jdk_31_method_17_code, exceptionTable := #[], attributes := #[] }
def k24m1 : Method := { name := "checkIndex", desc := "(II)I", sig := { parameters := [.int, .int], returnType := some .int }, accessFlags := 9, code := some k24c1 }
/-- java/util/Objects -/
def k24 : Class := { plain "java/util/Objects" (some 0) with
  accessFlags := 49
  interfaces := #[]
  cf := some (fileOf pool24 42 #[] #[{ accessFlags := 2, nameIndex := 5, descriptorIndex := 6, attributes := #[] }, { accessFlags := 9, nameIndex := 109, descriptorIndex := 171, attributes := #[] }] 49 2 #[] #[])
  fields := #[]
  methods := #[k24m0, k24m1]
  instanceTypes := #[]
  staticTypes := #[]
  resolved := Array.replicate 184 none
  statics := none }

def pool25 : Array CpInfo := pool [(2, .class_ 4), (1, u "java/lang/Object"), (0, u "<init>"), (0, u "()V"), (17, .class_ 26), (1, u "jdk/internal/util/Preconditions"), (6, u "checkIndex"), (21, .class_ 56), (0, u "jdk/internal/util/Preconditions$4"), (57, .class_ 115), (0, u "jdk/internal/util/Preconditions$1"), (7, u "SIOOBE_FORMATTER"), (0, u "Ljava/util/function/BiFunction;"), (0, .class_ 126), (0, u "jdk/internal/util/Preconditions$2"), (3, u "AIOOBE_FORMATTER"), (0, .class_ 132), (0, u "jdk/internal/util/Preconditions$3"), (3, u "IOOBE_FORMATTER"), (41, u "(IILjava/util/function/BiFunction;)I")] 15

def k25m0 : Method := { name := "<init>", desc := "()V", sig := { parameters := [], returnType := none }, accessFlags := 1, code := none }
def k25c1 : Code := { maxStack := 3, maxLocals := 3, code := jdk_41_method_11_code, exceptionTable := #[], attributes := #[] }
def k25m1 : Method := { name := "checkIndex", desc := "(IILjava/util/function/BiFunction;)I", sig := { parameters := [.int, .int, (.object "java/util/function/BiFunction")], returnType := some .int }, accessFlags := 9, code := some k25c1 }
/-- jdk/internal/util/Preconditions -/
def k25 : Class := { plain "jdk/internal/util/Preconditions" (some 0) with
  accessFlags := 33
  interfaces := #[]
  cf := some (fileOf pool25 24 #[.nestMembers #[55, 131, 125, 114]] #[{ accessFlags := 1, nameIndex := 5, descriptorIndex := 6, attributes := #[] }, { accessFlags := 9, nameIndex := 33, descriptorIndex := 178, attributes := #[] }] 33 2 #[] #[{ accessFlags := 25, nameIndex := 123, descriptorIndex := 124, attributes := #[] }, { accessFlags := 25, nameIndex := 130, descriptorIndex := 124, attributes := #[] }, { accessFlags := 25, nameIndex := 136, descriptorIndex := 124, attributes := #[] }])
  fields := #[{ name := "SIOOBE_FORMATTER", type := (.object "java/util/function/BiFunction"), accessFlags := 25, slot := 0, constantValue := 0 }, { name := "AIOOBE_FORMATTER", type := (.object "java/util/function/BiFunction"), accessFlags := 25, slot := 1, constantValue := 0 }, { name := "IOOBE_FORMATTER", type := (.object "java/util/function/BiFunction"), accessFlags := 25, slot := 2, constantValue := 0 }]
  methods := #[k25m0, k25m1]
  instanceTypes := #[]
  staticTypes := #[(.object "java/util/function/BiFunction"), (.object "java/util/function/BiFunction"), (.object "java/util/function/BiFunction")]
  resolved := Array.replicate 194 none
  statics := none }

/-- the primitive byte -/
def k26 : Class := { plain "byte" none with kind := .primitive 'B', accessFlags := 0x411 }
/-- [B -/
def k27 : Class := { plain "[B" (some 0) with kind := .array 26 .byte, interfaces := #[9, 10], accessFlags := 1041 }

/-- the primitive int -/
def k28 : Class := { plain "int" none with kind := .primitive 'I', accessFlags := 0x411 }
/-- [I -/
def k29 : Class := { plain "[I" (some 0) with kind := .array 28 .int, interfaces := #[9, 10], accessFlags := 1041 }

/-- [Ljava/lang/Integer; -/
def k30 : Class := { plain "[Ljava/lang/Integer;" (some 0) with kind := .array 21 (.object "java/lang/Integer"), interfaces := #[9, 10], accessFlags := 1041 }

/-- [Ljava/lang/Object; -/
def k31 : Class := { plain "[Ljava/lang/Object;" (some 0) with kind := .array 0 (.object "java/lang/Object"), interfaces := #[9, 10], accessFlags := 1041 }

def heap : Heap := #[{ cls := 11, slots := #[.long 0, .int 0, .ref 3, .ref 4], vm := .statics 11 },
  { cls := 13, slots := #[.long 0, .int 0, .null, .null, .ref 7, .null, .null, .null, .int 0, .int 0], vm := .statics 13 },
  { cls := 22, slots := #[.int 0, .int 127, .ref 6, .null, .int 0], vm := .statics 22 },
  { cls := 31, slots := #[], vm := .none },
  { cls := 31, slots := #[], vm := .none },
  { cls := 31, slots := #[], vm := .none },
  { cls := 30, slots := #[.ref 8, .ref 9, .ref 10, .ref 11, .ref 12, .ref 13, .ref 14, .ref 15, .ref 16, .ref 17, .ref 18, .ref 19, .ref 20, .ref 21, .ref 22, .ref 23, .ref 24, .ref 25, .ref 26, .ref 27, .ref 28, .ref 29, .ref 30, .ref 31, .ref 32, .ref 33, .ref 34, .ref 35, .ref 36, .ref 37, .ref 38, .ref 39, .ref 40, .ref 41, .ref 42, .ref 43, .ref 44, .ref 45, .ref 46, .ref 47, .ref 48, .ref 49, .ref 50, .ref 51, .ref 52, .ref 53, .ref 54, .ref 55, .ref 56, .ref 57, .ref 58, .ref 59, .ref 60, .ref 61, .ref 62, .ref 63, .ref 64, .ref 65, .ref 66, .ref 67, .ref 68, .ref 69, .ref 70, .ref 71, .ref 72, .ref 73, .ref 74, .ref 75, .ref 76, .ref 77, .ref 78, .ref 79, .ref 80, .ref 81, .ref 82, .ref 83, .ref 84, .ref 85, .ref 86, .ref 87, .ref 88, .ref 89, .ref 90, .ref 91, .ref 92, .ref 93, .ref 94, .ref 95, .ref 96, .ref 97, .ref 98, .ref 99, .ref 100, .ref 101, .ref 102, .ref 103, .ref 104, .ref 105, .ref 106, .ref 107, .ref 108, .ref 109, .ref 110, .ref 111, .ref 112, .ref 113, .ref 114, .ref 115, .ref 116, .ref 117, .ref 118, .ref 119, .ref 120, .ref 121, .ref 122, .ref 123, .ref 124, .ref 125, .ref 126, .ref 127, .ref 128, .ref 129, .ref 130, .ref 131, .ref 132, .ref 133, .ref 134, .ref 135, .ref 136, .ref 137, .ref 138, .ref 139, .ref 140, .ref 141, .ref 142, .ref 143, .ref 144, .ref 145, .ref 146, .ref 147, .ref 148, .ref 149, .ref 150, .ref 151, .ref 152, .ref 153, .ref 154, .ref 155, .ref 156, .ref 157, .ref 158, .ref 159, .ref 160, .ref 161, .ref 162, .ref 163, .ref 164, .ref 165, .ref 166, .ref 167, .ref 168, .ref 169, .ref 170, .ref 171, .ref 172, .ref 173, .ref 174, .ref 175, .ref 176, .ref 177, .ref 178, .ref 179, .ref 180, .ref 181, .ref 182, .ref 183, .ref 184, .ref 185, .ref 186, .ref 187, .ref 188, .ref 189, .ref 190, .ref 191, .ref 192, .ref 193, .ref 194, .ref 195, .ref 196, .ref 197, .ref 198, .ref 199, .ref 200, .ref 201, .ref 202, .ref 203, .ref 204, .ref 205, .ref 206, .ref 207, .ref 208, .ref 209, .ref 210, .ref 211, .ref 212, .ref 213, .ref 214, .ref 215, .ref 216, .ref 217, .ref 218, .ref 219, .ref 220, .ref 221, .ref 222, .ref 223, .ref 224, .ref 225, .ref 226, .ref 227, .ref 228, .ref 229, .ref 230, .ref 231, .ref 232, .ref 233, .ref 234, .ref 235, .ref 236, .ref 237, .ref 238, .ref 239, .ref 240, .ref 241, .ref 242, .ref 243, .ref 244, .ref 245, .ref 246, .ref 247, .ref 248, .ref 249, .ref 250, .ref 251, .ref 252, .ref 253, .ref 254, .ref 255, .ref 256, .ref 257, .ref 258, .ref 259, .ref 260, .ref 261, .ref 262, .ref 263], vm := .none },
  { cls := 16, slots := #[.ref 5, .int 0], vm := .none },
  { cls := 21, slots := #[.int (-128)], vm := .none },
  { cls := 21, slots := #[.int (-127)], vm := .none },
  { cls := 21, slots := #[.int (-126)], vm := .none },
  { cls := 21, slots := #[.int (-125)], vm := .none },
  { cls := 21, slots := #[.int (-124)], vm := .none },
  { cls := 21, slots := #[.int (-123)], vm := .none },
  { cls := 21, slots := #[.int (-122)], vm := .none },
  { cls := 21, slots := #[.int (-121)], vm := .none },
  { cls := 21, slots := #[.int (-120)], vm := .none },
  { cls := 21, slots := #[.int (-119)], vm := .none },
  { cls := 21, slots := #[.int (-118)], vm := .none },
  { cls := 21, slots := #[.int (-117)], vm := .none },
  { cls := 21, slots := #[.int (-116)], vm := .none },
  { cls := 21, slots := #[.int (-115)], vm := .none },
  { cls := 21, slots := #[.int (-114)], vm := .none },
  { cls := 21, slots := #[.int (-113)], vm := .none },
  { cls := 21, slots := #[.int (-112)], vm := .none },
  { cls := 21, slots := #[.int (-111)], vm := .none },
  { cls := 21, slots := #[.int (-110)], vm := .none },
  { cls := 21, slots := #[.int (-109)], vm := .none },
  { cls := 21, slots := #[.int (-108)], vm := .none },
  { cls := 21, slots := #[.int (-107)], vm := .none },
  { cls := 21, slots := #[.int (-106)], vm := .none },
  { cls := 21, slots := #[.int (-105)], vm := .none },
  { cls := 21, slots := #[.int (-104)], vm := .none },
  { cls := 21, slots := #[.int (-103)], vm := .none },
  { cls := 21, slots := #[.int (-102)], vm := .none },
  { cls := 21, slots := #[.int (-101)], vm := .none },
  { cls := 21, slots := #[.int (-100)], vm := .none },
  { cls := 21, slots := #[.int (-99)], vm := .none },
  { cls := 21, slots := #[.int (-98)], vm := .none },
  { cls := 21, slots := #[.int (-97)], vm := .none },
  { cls := 21, slots := #[.int (-96)], vm := .none },
  { cls := 21, slots := #[.int (-95)], vm := .none },
  { cls := 21, slots := #[.int (-94)], vm := .none },
  { cls := 21, slots := #[.int (-93)], vm := .none },
  { cls := 21, slots := #[.int (-92)], vm := .none },
  { cls := 21, slots := #[.int (-91)], vm := .none },
  { cls := 21, slots := #[.int (-90)], vm := .none },
  { cls := 21, slots := #[.int (-89)], vm := .none },
  { cls := 21, slots := #[.int (-88)], vm := .none },
  { cls := 21, slots := #[.int (-87)], vm := .none },
  { cls := 21, slots := #[.int (-86)], vm := .none },
  { cls := 21, slots := #[.int (-85)], vm := .none },
  { cls := 21, slots := #[.int (-84)], vm := .none },
  { cls := 21, slots := #[.int (-83)], vm := .none },
  { cls := 21, slots := #[.int (-82)], vm := .none },
  { cls := 21, slots := #[.int (-81)], vm := .none },
  { cls := 21, slots := #[.int (-80)], vm := .none },
  { cls := 21, slots := #[.int (-79)], vm := .none },
  { cls := 21, slots := #[.int (-78)], vm := .none },
  { cls := 21, slots := #[.int (-77)], vm := .none },
  { cls := 21, slots := #[.int (-76)], vm := .none },
  { cls := 21, slots := #[.int (-75)], vm := .none },
  { cls := 21, slots := #[.int (-74)], vm := .none },
  { cls := 21, slots := #[.int (-73)], vm := .none },
  { cls := 21, slots := #[.int (-72)], vm := .none },
  { cls := 21, slots := #[.int (-71)], vm := .none },
  { cls := 21, slots := #[.int (-70)], vm := .none },
  { cls := 21, slots := #[.int (-69)], vm := .none },
  { cls := 21, slots := #[.int (-68)], vm := .none },
  { cls := 21, slots := #[.int (-67)], vm := .none },
  { cls := 21, slots := #[.int (-66)], vm := .none },
  { cls := 21, slots := #[.int (-65)], vm := .none },
  { cls := 21, slots := #[.int (-64)], vm := .none },
  { cls := 21, slots := #[.int (-63)], vm := .none },
  { cls := 21, slots := #[.int (-62)], vm := .none },
  { cls := 21, slots := #[.int (-61)], vm := .none },
  { cls := 21, slots := #[.int (-60)], vm := .none },
  { cls := 21, slots := #[.int (-59)], vm := .none },
  { cls := 21, slots := #[.int (-58)], vm := .none },
  { cls := 21, slots := #[.int (-57)], vm := .none },
  { cls := 21, slots := #[.int (-56)], vm := .none },
  { cls := 21, slots := #[.int (-55)], vm := .none },
  { cls := 21, slots := #[.int (-54)], vm := .none },
  { cls := 21, slots := #[.int (-53)], vm := .none },
  { cls := 21, slots := #[.int (-52)], vm := .none },
  { cls := 21, slots := #[.int (-51)], vm := .none },
  { cls := 21, slots := #[.int (-50)], vm := .none },
  { cls := 21, slots := #[.int (-49)], vm := .none },
  { cls := 21, slots := #[.int (-48)], vm := .none },
  { cls := 21, slots := #[.int (-47)], vm := .none },
  { cls := 21, slots := #[.int (-46)], vm := .none },
  { cls := 21, slots := #[.int (-45)], vm := .none },
  { cls := 21, slots := #[.int (-44)], vm := .none },
  { cls := 21, slots := #[.int (-43)], vm := .none },
  { cls := 21, slots := #[.int (-42)], vm := .none },
  { cls := 21, slots := #[.int (-41)], vm := .none },
  { cls := 21, slots := #[.int (-40)], vm := .none },
  { cls := 21, slots := #[.int (-39)], vm := .none },
  { cls := 21, slots := #[.int (-38)], vm := .none },
  { cls := 21, slots := #[.int (-37)], vm := .none },
  { cls := 21, slots := #[.int (-36)], vm := .none },
  { cls := 21, slots := #[.int (-35)], vm := .none },
  { cls := 21, slots := #[.int (-34)], vm := .none },
  { cls := 21, slots := #[.int (-33)], vm := .none },
  { cls := 21, slots := #[.int (-32)], vm := .none },
  { cls := 21, slots := #[.int (-31)], vm := .none },
  { cls := 21, slots := #[.int (-30)], vm := .none },
  { cls := 21, slots := #[.int (-29)], vm := .none },
  { cls := 21, slots := #[.int (-28)], vm := .none },
  { cls := 21, slots := #[.int (-27)], vm := .none },
  { cls := 21, slots := #[.int (-26)], vm := .none },
  { cls := 21, slots := #[.int (-25)], vm := .none },
  { cls := 21, slots := #[.int (-24)], vm := .none },
  { cls := 21, slots := #[.int (-23)], vm := .none },
  { cls := 21, slots := #[.int (-22)], vm := .none },
  { cls := 21, slots := #[.int (-21)], vm := .none },
  { cls := 21, slots := #[.int (-20)], vm := .none },
  { cls := 21, slots := #[.int (-19)], vm := .none },
  { cls := 21, slots := #[.int (-18)], vm := .none },
  { cls := 21, slots := #[.int (-17)], vm := .none },
  { cls := 21, slots := #[.int (-16)], vm := .none },
  { cls := 21, slots := #[.int (-15)], vm := .none },
  { cls := 21, slots := #[.int (-14)], vm := .none },
  { cls := 21, slots := #[.int (-13)], vm := .none },
  { cls := 21, slots := #[.int (-12)], vm := .none },
  { cls := 21, slots := #[.int (-11)], vm := .none },
  { cls := 21, slots := #[.int (-10)], vm := .none },
  { cls := 21, slots := #[.int (-9)], vm := .none },
  { cls := 21, slots := #[.int (-8)], vm := .none },
  { cls := 21, slots := #[.int (-7)], vm := .none },
  { cls := 21, slots := #[.int (-6)], vm := .none },
  { cls := 21, slots := #[.int (-5)], vm := .none },
  { cls := 21, slots := #[.int (-4)], vm := .none },
  { cls := 21, slots := #[.int (-3)], vm := .none },
  { cls := 21, slots := #[.int (-2)], vm := .none },
  { cls := 21, slots := #[.int (-1)], vm := .none },
  { cls := 21, slots := #[.int 0], vm := .none },
  { cls := 21, slots := #[.int 1], vm := .none },
  { cls := 21, slots := #[.int 2], vm := .none },
  { cls := 21, slots := #[.int 3], vm := .none },
  { cls := 21, slots := #[.int 4], vm := .none },
  { cls := 21, slots := #[.int 5], vm := .none },
  { cls := 21, slots := #[.int 6], vm := .none },
  { cls := 21, slots := #[.int 7], vm := .none },
  { cls := 21, slots := #[.int 8], vm := .none },
  { cls := 21, slots := #[.int 9], vm := .none },
  { cls := 21, slots := #[.int 10], vm := .none },
  { cls := 21, slots := #[.int 11], vm := .none },
  { cls := 21, slots := #[.int 12], vm := .none },
  { cls := 21, slots := #[.int 13], vm := .none },
  { cls := 21, slots := #[.int 14], vm := .none },
  { cls := 21, slots := #[.int 15], vm := .none },
  { cls := 21, slots := #[.int 16], vm := .none },
  { cls := 21, slots := #[.int 17], vm := .none },
  { cls := 21, slots := #[.int 18], vm := .none },
  { cls := 21, slots := #[.int 19], vm := .none },
  { cls := 21, slots := #[.int 20], vm := .none },
  { cls := 21, slots := #[.int 21], vm := .none },
  { cls := 21, slots := #[.int 22], vm := .none },
  { cls := 21, slots := #[.int 23], vm := .none },
  { cls := 21, slots := #[.int 24], vm := .none },
  { cls := 21, slots := #[.int 25], vm := .none },
  { cls := 21, slots := #[.int 26], vm := .none },
  { cls := 21, slots := #[.int 27], vm := .none },
  { cls := 21, slots := #[.int 28], vm := .none },
  { cls := 21, slots := #[.int 29], vm := .none },
  { cls := 21, slots := #[.int 30], vm := .none },
  { cls := 21, slots := #[.int 31], vm := .none },
  { cls := 21, slots := #[.int 32], vm := .none },
  { cls := 21, slots := #[.int 33], vm := .none },
  { cls := 21, slots := #[.int 34], vm := .none },
  { cls := 21, slots := #[.int 35], vm := .none },
  { cls := 21, slots := #[.int 36], vm := .none },
  { cls := 21, slots := #[.int 37], vm := .none },
  { cls := 21, slots := #[.int 38], vm := .none },
  { cls := 21, slots := #[.int 39], vm := .none },
  { cls := 21, slots := #[.int 40], vm := .none },
  { cls := 21, slots := #[.int 41], vm := .none },
  { cls := 21, slots := #[.int 42], vm := .none },
  { cls := 21, slots := #[.int 43], vm := .none },
  { cls := 21, slots := #[.int 44], vm := .none },
  { cls := 21, slots := #[.int 45], vm := .none },
  { cls := 21, slots := #[.int 46], vm := .none },
  { cls := 21, slots := #[.int 47], vm := .none },
  { cls := 21, slots := #[.int 48], vm := .none },
  { cls := 21, slots := #[.int 49], vm := .none },
  { cls := 21, slots := #[.int 50], vm := .none },
  { cls := 21, slots := #[.int 51], vm := .none },
  { cls := 21, slots := #[.int 52], vm := .none },
  { cls := 21, slots := #[.int 53], vm := .none },
  { cls := 21, slots := #[.int 54], vm := .none },
  { cls := 21, slots := #[.int 55], vm := .none },
  { cls := 21, slots := #[.int 56], vm := .none },
  { cls := 21, slots := #[.int 57], vm := .none },
  { cls := 21, slots := #[.int 58], vm := .none },
  { cls := 21, slots := #[.int 59], vm := .none },
  { cls := 21, slots := #[.int 60], vm := .none },
  { cls := 21, slots := #[.int 61], vm := .none },
  { cls := 21, slots := #[.int 62], vm := .none },
  { cls := 21, slots := #[.int 63], vm := .none },
  { cls := 21, slots := #[.int 64], vm := .none },
  { cls := 21, slots := #[.int 65], vm := .none },
  { cls := 21, slots := #[.int 66], vm := .none },
  { cls := 21, slots := #[.int 67], vm := .none },
  { cls := 21, slots := #[.int 68], vm := .none },
  { cls := 21, slots := #[.int 69], vm := .none },
  { cls := 21, slots := #[.int 70], vm := .none },
  { cls := 21, slots := #[.int 71], vm := .none },
  { cls := 21, slots := #[.int 72], vm := .none },
  { cls := 21, slots := #[.int 73], vm := .none },
  { cls := 21, slots := #[.int 74], vm := .none },
  { cls := 21, slots := #[.int 75], vm := .none },
  { cls := 21, slots := #[.int 76], vm := .none },
  { cls := 21, slots := #[.int 77], vm := .none },
  { cls := 21, slots := #[.int 78], vm := .none },
  { cls := 21, slots := #[.int 79], vm := .none },
  { cls := 21, slots := #[.int 80], vm := .none },
  { cls := 21, slots := #[.int 81], vm := .none },
  { cls := 21, slots := #[.int 82], vm := .none },
  { cls := 21, slots := #[.int 83], vm := .none },
  { cls := 21, slots := #[.int 84], vm := .none },
  { cls := 21, slots := #[.int 85], vm := .none },
  { cls := 21, slots := #[.int 86], vm := .none },
  { cls := 21, slots := #[.int 87], vm := .none },
  { cls := 21, slots := #[.int 88], vm := .none },
  { cls := 21, slots := #[.int 89], vm := .none },
  { cls := 21, slots := #[.int 90], vm := .none },
  { cls := 21, slots := #[.int 91], vm := .none },
  { cls := 21, slots := #[.int 92], vm := .none },
  { cls := 21, slots := #[.int 93], vm := .none },
  { cls := 21, slots := #[.int 94], vm := .none },
  { cls := 21, slots := #[.int 95], vm := .none },
  { cls := 21, slots := #[.int 96], vm := .none },
  { cls := 21, slots := #[.int 97], vm := .none },
  { cls := 21, slots := #[.int 98], vm := .none },
  { cls := 21, slots := #[.int 99], vm := .none },
  { cls := 21, slots := #[.int 100], vm := .none },
  { cls := 21, slots := #[.int 101], vm := .none },
  { cls := 21, slots := #[.int 102], vm := .none },
  { cls := 21, slots := #[.int 103], vm := .none },
  { cls := 21, slots := #[.int 104], vm := .none },
  { cls := 21, slots := #[.int 105], vm := .none },
  { cls := 21, slots := #[.int 106], vm := .none },
  { cls := 21, slots := #[.int 107], vm := .none },
  { cls := 21, slots := #[.int 108], vm := .none },
  { cls := 21, slots := #[.int 109], vm := .none },
  { cls := 21, slots := #[.int 110], vm := .none },
  { cls := 21, slots := #[.int 111], vm := .none },
  { cls := 21, slots := #[.int 112], vm := .none },
  { cls := 21, slots := #[.int 113], vm := .none },
  { cls := 21, slots := #[.int 114], vm := .none },
  { cls := 21, slots := #[.int 115], vm := .none },
  { cls := 21, slots := #[.int 116], vm := .none },
  { cls := 21, slots := #[.int 117], vm := .none },
  { cls := 21, slots := #[.int 118], vm := .none },
  { cls := 21, slots := #[.int 119], vm := .none },
  { cls := 21, slots := #[.int 120], vm := .none },
  { cls := 21, slots := #[.int 121], vm := .none },
  { cls := 21, slots := #[.int 122], vm := .none },
  { cls := 21, slots := #[.int 123], vm := .none },
  { cls := 21, slots := #[.int 124], vm := .none },
  { cls := 21, slots := #[.int 125], vm := .none },
  { cls := 21, slots := #[.int 126], vm := .none },
  { cls := 21, slots := #[.int 127], vm := .none }]
def classes : Array Class := #[k0, k1, k2, k3, k4, k5, k6, k7, k8, k9, k10, k11, k12, k13, k14, k15, k16, k17, k18, k19, k20, k21, k22, k23, k24, k25, k26, k27, k28, k29, k30, k31]
def interned : List (Array UInt16 × Addr) := []
def slotsUsed : Nat := 533
def theMethod : MethodId := ⟨1, 1⟩
def args0 : Array Value := #[.int 5, .int 7, .int 9]
def aboutOver (below : List Frame) : State where
  vm := { classes := classes, interned := interned.toArray }
  heap := heap
  slotsUsed := slotsUsed
  threads := #[{ frames := .invoking theMethod args0 :: below }]
def below0 : List Frame := [.native { method := ⟨0, 0⟩, args := #[] }]
def about1 : State := aboutOver below0
def p0 : Program := .bare "" "" ""
def e0 : Env := launch0.env 0 0 0
theorem w_frames : about1.frames = Frame.invoking theMethod args0 :: below0 := rfl
set_option maxRecDepth 65536 in
theorem w_args : argsFit about1.vm theMethod args0 = true := by decide +kernel
set_option maxRecDepth 65536 in
theorem w_heap : heapFits about1 = true := by decide +kernel
set_option maxRecDepth 65536 in
theorem w_runnable : about1.curStatus? = some .runnable := by decide +kernel
set_option maxRecDepth 65536 in
theorem w_alone : about1.alone = true := by decide +kernel
set_option maxRecDepth 65536 in
theorem w_named : about1.methodNamed? x = some theMethod := by decide +kernel
set_option maxRecDepth 65536 in
theorem w_hears : about1.hears theMethod below0 = true := by decide +kernel
set_option maxRecDepth 65536 in
theorem w_ripe : about1.ripe theMethod args0 below0 = true := by decide +kernel
theorem w_running : about1.status = .running := rfl
set_option maxRecDepth 65536 in
theorem w_room : about1.hasRoom e0.platform room_1 = true :=
  launch0.hasRoom_least _ room_1 (by decide +kernel) (by decide +kernel) (by decide +kernel) (by decide +kernel) (by decide +kernel) (by decide +kernel)
theorem allAtoms_all (ts : List Jvm.Cond) (a : Array Jvm.Value) (st : Jvm.State) : (allAtoms ts).before a st = ts.all (fun c => c.before a st) := by
  induction ts with
  | nil => rfl
  | cons c t ih =>
    show (Jvm.Cond.and c (allAtoms t)).before a st = _
    rw [Jvm.Cond.before_and, ih, List.all_cons]
def words1 : List Jvm.Cond := Jvm.Cond.code x code maxLocals ret :: tables_1
/-- a 'code' word, met by the world's own term for the bytes: nothing is compared byte by byte -/
theorem code_word {y : MethodName} {bytes : ByteArray} {mx : Nat} {rt : Option FieldType} {a : Array Value} {s : State} {m : MethodId} {meth : Method} {c : Code} (h1 : s.methodNamed? y = some m) (h2 : s.vm.method? m = some meth) (h3 : meth.code = some c) (h4 : c.code = bytes)
    (h5 : (c.maxLocals == mx && c.exceptionTable.isEmpty && decide (c.maxStack ≤ mostOperands) && decide (meth.sig.returnType = rt) && !meth.locks && decide (parseMethodDescriptor y.desc = some meth.sig)) = true) : (Jvm.Cond.code y bytes mx rt).before a s = true := by
  simp only [Bool.and_eq_true, beq_iff_eq, Bool.not_eq_true', decide_eq_true_eq] at h5
  obtain ⟨⟨⟨⟨⟨g1, g2⟩, g3⟩, g4⟩, g5⟩, g6⟩ := h5
  simp [Cond.before, Cond.holds, Cond.value, h1, h2, h3, h4, g1, g2, g3, g4, g5, g6]
def isCode : Jvm.Cond → Bool
  | .code _ _ _ _ => true
  | _ => false
theorem all_split {L : List Jvm.Cond} {P : Jvm.Cond → Bool} (h1 : L.all (fun c => isCode c || P c) = true) (h2 : ∀ c ∈ L.filter isCode, P c = true) : L.all P = true := by
  refine List.all_eq_true.mpr fun c hc => ?_
  have h := List.all_eq_true.mp h1 c hc
  rcases Bool.eq_false_or_eq_true (isCode c) with hi | hi
  · exact h2 c (List.mem_filter.mpr ⟨hc, hi⟩)
  · simpa [hi] using h
set_option maxRecDepth 65536 in
theorem w_c0 : (Jvm.Cond.code x code maxLocals ret).before args0 about1 = true := code_word (m := ⟨1, 1⟩) (meth := k1m1) (c := k1c1) (by decide +kernel) rfl rfl rfl (by decide +kernel)
set_option maxRecDepth 65536 in
theorem w_c1 : (Jvm.Cond.code ({ cls := "java/util/ArrayList", name := "<init>", desc := "()V" } : Jvm.MethodName) jdk_38_method_2_code (1 : Nat) (Option.none : Option Jvm.ClassFile.FieldType)).before args0 about1 = true := code_word (m := ⟨11, 0⟩) (meth := k11m0) (c := k11c0) (by decide +kernel) rfl rfl rfl (by decide +kernel)
set_option maxRecDepth 65536 in
theorem w_c2 : (Jvm.Cond.code ({ cls := "java/util/AbstractList", name := "<init>", desc := "()V" } : Jvm.MethodName) jdk_39_method_1_code (1 : Nat) (Option.none : Option Jvm.ClassFile.FieldType)).before args0 about1 = true := code_word (m := ⟨7, 0⟩) (meth := k7m0) (c := k7c0) (by decide +kernel) rfl rfl rfl (by decide +kernel)
set_option maxRecDepth 65536 in
theorem w_c3 : (Jvm.Cond.code ({ cls := "java/util/AbstractCollection", name := "<init>", desc := "()V" } : Jvm.MethodName) jdk_22_method_1_code (1 : Nat) (Option.none : Option Jvm.ClassFile.FieldType)).before args0 about1 = true := code_word (m := ⟨4, 0⟩) (meth := k4m0) (c := k4c0) (by decide +kernel) rfl rfl rfl (by decide +kernel)
set_option maxRecDepth 65536 in
theorem w_c4 : (Jvm.Cond.code ({ cls := "java/lang/Object", name := "<init>", desc := "()V" } : Jvm.MethodName) object_method_1_code (1 : Nat) (Option.none : Option Jvm.ClassFile.FieldType)).before args0 about1 = true := code_word (m := ⟨0, 0⟩) (meth := k0m0) (c := k0c0) (by decide +kernel) rfl rfl rfl (by decide +kernel)
set_option maxRecDepth 65536 in
theorem w_c5 : (Jvm.Cond.code ({ cls := "com/example/raised_flags/raisedflags/document/Defaults", name := "list", desc := "(Ljava/util/List;)Ljava/util/List;" } : Jvm.MethodName) prog_9_method_2_code (1 : Nat) (Option.some (Jvm.ClassFile.FieldType.object "java/util/List"))).before args0 about1 = true := code_word (m := ⟨12, 1⟩) (meth := k12m1) (c := k12c1) (by decide +kernel) rfl rfl rfl (by decide +kernel)
set_option maxRecDepth 65536 in
theorem w_c6 : (Jvm.Cond.code ({ cls := "java/util/ArrayList", name := "size", desc := "()I" } : Jvm.MethodName) jdk_38_method_8_code (1 : Nat) (Option.some Jvm.ClassFile.FieldType.int)).before args0 about1 = true := code_word (m := ⟨11, 3⟩) (meth := k11m3) (c := k11c3) (by decide +kernel) rfl rfl rfl (by decide +kernel)
set_option maxRecDepth 65536 in
theorem w_c7 : (Jvm.Cond.code ({ cls := "java/util/List", name := "of", desc := "()Ljava/util/List;" } : Jvm.MethodName) jdk_40_method_36_code (0 : Nat) (Option.some (Jvm.ClassFile.FieldType.object "java/util/List"))).before args0 about1 = true := code_word (m := ⟨6, 2⟩) (meth := k6m2) (c := k6c2) (by decide +kernel) rfl rfl rfl (by decide +kernel)
set_option maxRecDepth 65536 in
theorem w_c8 : (Jvm.Cond.code ({ cls := "java/util/ImmutableCollections$ListN", name := "size", desc := "()I" } : Jvm.MethodName) jdk_45_method_3_code (1 : Nat) (Option.some Jvm.ClassFile.FieldType.int)).before args0 about1 = true := code_word (m := ⟨16, 0⟩) (meth := k16m0) (c := k16c0) (by decide +kernel) rfl rfl rfl (by decide +kernel)
set_option maxRecDepth 65536 in
theorem w_c9 : (Jvm.Cond.code ({ cls := "java/lang/Integer", name := "valueOf", desc := "(I)Ljava/lang/Integer;" } : Jvm.MethodName) jdk_33_method_22_code (1 : Nat) (Option.some (Jvm.ClassFile.FieldType.object "java/lang/Integer"))).before args0 about1 = true := code_word (m := ⟨21, 0⟩) (meth := k21m0) (c := k21c0) (by decide +kernel) rfl rfl rfl (by decide +kernel)
set_option maxRecDepth 65536 in
theorem w_c10 : (Jvm.Cond.code ({ cls := "java/util/ArrayList", name := "add", desc := "(Ljava/lang/Object;)Z" } : Jvm.MethodName) jdk_38_method_25_code (2 : Nat) (Option.some Jvm.ClassFile.FieldType.boolean)).before args0 about1 = true := code_word (m := ⟨11, 7⟩) (meth := k11m7) (c := k11c7) (by decide +kernel) rfl rfl rfl (by decide +kernel)
set_option maxRecDepth 65536 in
theorem w_c11 : (Jvm.Cond.code ({ cls := "java/util/ArrayList", name := "add", desc := "(Ljava/lang/Object;[Ljava/lang/Object;I)V" } : Jvm.MethodName) jdk_38_method_24_code (4 : Nat) (Option.none : Option Jvm.ClassFile.FieldType)).before args0 about1 = true := code_word (m := ⟨11, 6⟩) (meth := k11m6) (c := k11c6) (by decide +kernel) rfl rfl rfl (by decide +kernel)
set_option maxRecDepth 65536 in
theorem w_c12 : (Jvm.Cond.code ({ cls := "java/util/ArrayList", name := "grow", desc := "()[Ljava/lang/Object;" } : Jvm.MethodName) jdk_38_method_7_code (1 : Nat) (Option.some (Jvm.ClassFile.FieldType.array (Jvm.ClassFile.FieldType.object "java/lang/Object")))).before args0 about1 = true := code_word (m := ⟨11, 2⟩) (meth := k11m2) (c := k11c2) (by decide +kernel) rfl rfl rfl (by decide +kernel)
set_option maxRecDepth 65536 in
theorem w_c13 : (Jvm.Cond.code ({ cls := "java/util/ArrayList", name := "grow", desc := "(I)[Ljava/lang/Object;" } : Jvm.MethodName) jdk_38_method_6_code (4 : Nat) (Option.some (Jvm.ClassFile.FieldType.array (Jvm.ClassFile.FieldType.object "java/lang/Object")))).before args0 about1 = true := code_word (m := ⟨11, 1⟩) (meth := k11m1) (c := k11c1) (by decide +kernel) rfl rfl rfl (by decide +kernel)
set_option maxRecDepth 65536 in
theorem w_c14 : (Jvm.Cond.code ({ cls := "java/lang/Math", name := "max", desc := "(II)I" } : Jvm.MethodName) jdk_29_method_65_code (2 : Nat) (Option.some Jvm.ClassFile.FieldType.int)).before args0 about1 = true := code_word (m := ⟨23, 1⟩) (meth := k23m1) (c := k23c1) (by decide +kernel) rfl rfl rfl (by decide +kernel)
set_option maxRecDepth 65536 in
theorem w_c15 : (Jvm.Cond.code ({ cls := "java/util/ArrayList", name := "get", desc := "(I)Ljava/lang/Object;" } : Jvm.MethodName) jdk_38_method_20_code (2 : Nat) (Option.some (Jvm.ClassFile.FieldType.object "java/lang/Object"))).before args0 about1 = true := code_word (m := ⟨11, 5⟩) (meth := k11m5) (c := k11c5) (by decide +kernel) rfl rfl rfl (by decide +kernel)
set_option maxRecDepth 65536 in
theorem w_c16 : (Jvm.Cond.code ({ cls := "java/util/Objects", name := "checkIndex", desc := "(II)I" } : Jvm.MethodName) jdk_31_method_17_code (2 : Nat) (Option.some Jvm.ClassFile.FieldType.int)).before args0 about1 = true := code_word (m := ⟨24, 1⟩) (meth := k24m1) (c := k24c1) (by decide +kernel) rfl rfl rfl (by decide +kernel)
set_option maxRecDepth 65536 in
theorem w_c17 : (Jvm.Cond.code ({ cls := "jdk/internal/util/Preconditions", name := "checkIndex", desc := "(IILjava/util/function/BiFunction;)I" } : Jvm.MethodName) jdk_41_method_11_code (3 : Nat) (Option.some Jvm.ClassFile.FieldType.int)).before args0 about1 = true := code_word (m := ⟨25, 1⟩) (meth := k25m1) (c := k25c1) (by decide +kernel) rfl rfl rfl (by decide +kernel)
set_option maxRecDepth 65536 in
theorem w_c18 : (Jvm.Cond.code ({ cls := "java/util/ArrayList", name := "elementData", desc := "(I)Ljava/lang/Object;" } : Jvm.MethodName) jdk_38_method_18_code (2 : Nat) (Option.some (Jvm.ClassFile.FieldType.object "java/lang/Object"))).before args0 about1 = true := code_word (m := ⟨11, 4⟩) (meth := k11m4) (c := k11c4) (by decide +kernel) rfl rfl rfl (by decide +kernel)
set_option maxRecDepth 65536 in
theorem w_c19 : (Jvm.Cond.code ({ cls := "java/lang/Integer", name := "intValue", desc := "()I" } : Jvm.MethodName) jdk_33_method_27_code (1 : Nat) (Option.some Jvm.ClassFile.FieldType.int)).before args0 about1 = true := code_word (m := ⟨21, 2⟩) (meth := k21m2) (c := k21c2) (by decide +kernel) rfl rfl rfl (by decide +kernel)
set_option maxRecDepth 65536 in
theorem w_c20 : (Jvm.Cond.code ({ cls := "java/lang/Integer", name := "<init>", desc := "(I)V" } : Jvm.MethodName) jdk_33_method_23_code (2 : Nat) (Option.none : Option Jvm.ClassFile.FieldType)).before args0 about1 = true := code_word (m := ⟨21, 1⟩) (meth := k21m1) (c := k21c1) (by decide +kernel) rfl rfl rfl (by decide +kernel)
set_option maxRecDepth 65536 in
theorem w_c21 : (Jvm.Cond.code ({ cls := "java/lang/Number", name := "<init>", desc := "()V" } : Jvm.MethodName) jdk_18_method_1_code (1 : Nat) (Option.none : Option Jvm.ClassFile.FieldType)).before args0 about1 = true := code_word (m := ⟨17, 0⟩) (meth := k17m0) (c := k17c0) (by decide +kernel) rfl rfl rfl (by decide +kernel)
def codes1 : List Jvm.Cond := [Jvm.Cond.code x code maxLocals ret, Jvm.Cond.code ({ cls := "java/util/ArrayList", name := "<init>", desc := "()V" } : Jvm.MethodName) jdk_38_method_2_code (1 : Nat) (Option.none : Option Jvm.ClassFile.FieldType), Jvm.Cond.code ({ cls := "java/util/AbstractList", name := "<init>", desc := "()V" } : Jvm.MethodName) jdk_39_method_1_code (1 : Nat) (Option.none : Option Jvm.ClassFile.FieldType), Jvm.Cond.code ({ cls := "java/util/AbstractCollection", name := "<init>", desc := "()V" } : Jvm.MethodName) jdk_22_method_1_code (1 : Nat) (Option.none : Option Jvm.ClassFile.FieldType), Jvm.Cond.code ({ cls := "java/lang/Object", name := "<init>", desc := "()V" } : Jvm.MethodName) object_method_1_code (1 : Nat) (Option.none : Option Jvm.ClassFile.FieldType), Jvm.Cond.code ({ cls := "com/example/raised_flags/raisedflags/document/Defaults", name := "list", desc := "(Ljava/util/List;)Ljava/util/List;" } : Jvm.MethodName) prog_9_method_2_code (1 : Nat) (Option.some (Jvm.ClassFile.FieldType.object "java/util/List")), Jvm.Cond.code ({ cls := "java/util/ArrayList", name := "size", desc := "()I" } : Jvm.MethodName) jdk_38_method_8_code (1 : Nat) (Option.some Jvm.ClassFile.FieldType.int), Jvm.Cond.code ({ cls := "java/util/List", name := "of", desc := "()Ljava/util/List;" } : Jvm.MethodName) jdk_40_method_36_code (0 : Nat) (Option.some (Jvm.ClassFile.FieldType.object "java/util/List")), Jvm.Cond.code ({ cls := "java/util/ImmutableCollections$ListN", name := "size", desc := "()I" } : Jvm.MethodName) jdk_45_method_3_code (1 : Nat) (Option.some Jvm.ClassFile.FieldType.int), Jvm.Cond.code ({ cls := "java/lang/Integer", name := "valueOf", desc := "(I)Ljava/lang/Integer;" } : Jvm.MethodName) jdk_33_method_22_code (1 : Nat) (Option.some (Jvm.ClassFile.FieldType.object "java/lang/Integer")), Jvm.Cond.code ({ cls := "java/util/ArrayList", name := "add", desc := "(Ljava/lang/Object;)Z" } : Jvm.MethodName) jdk_38_method_25_code (2 : Nat) (Option.some Jvm.ClassFile.FieldType.boolean), Jvm.Cond.code ({ cls := "java/util/ArrayList", name := "add", desc := "(Ljava/lang/Object;[Ljava/lang/Object;I)V" } : Jvm.MethodName) jdk_38_method_24_code (4 : Nat) (Option.none : Option Jvm.ClassFile.FieldType), Jvm.Cond.code ({ cls := "java/util/ArrayList", name := "grow", desc := "()[Ljava/lang/Object;" } : Jvm.MethodName) jdk_38_method_7_code (1 : Nat) (Option.some (Jvm.ClassFile.FieldType.array (Jvm.ClassFile.FieldType.object "java/lang/Object"))), Jvm.Cond.code ({ cls := "java/util/ArrayList", name := "grow", desc := "(I)[Ljava/lang/Object;" } : Jvm.MethodName) jdk_38_method_6_code (4 : Nat) (Option.some (Jvm.ClassFile.FieldType.array (Jvm.ClassFile.FieldType.object "java/lang/Object"))), Jvm.Cond.code ({ cls := "java/lang/Math", name := "max", desc := "(II)I" } : Jvm.MethodName) jdk_29_method_65_code (2 : Nat) (Option.some Jvm.ClassFile.FieldType.int), Jvm.Cond.code ({ cls := "java/util/ArrayList", name := "get", desc := "(I)Ljava/lang/Object;" } : Jvm.MethodName) jdk_38_method_20_code (2 : Nat) (Option.some (Jvm.ClassFile.FieldType.object "java/lang/Object")), Jvm.Cond.code ({ cls := "java/util/Objects", name := "checkIndex", desc := "(II)I" } : Jvm.MethodName) jdk_31_method_17_code (2 : Nat) (Option.some Jvm.ClassFile.FieldType.int), Jvm.Cond.code ({ cls := "jdk/internal/util/Preconditions", name := "checkIndex", desc := "(IILjava/util/function/BiFunction;)I" } : Jvm.MethodName) jdk_41_method_11_code (3 : Nat) (Option.some Jvm.ClassFile.FieldType.int), Jvm.Cond.code ({ cls := "java/util/ArrayList", name := "elementData", desc := "(I)Ljava/lang/Object;" } : Jvm.MethodName) jdk_38_method_18_code (2 : Nat) (Option.some (Jvm.ClassFile.FieldType.object "java/lang/Object")), Jvm.Cond.code ({ cls := "java/lang/Integer", name := "intValue", desc := "()I" } : Jvm.MethodName) jdk_33_method_27_code (1 : Nat) (Option.some Jvm.ClassFile.FieldType.int), Jvm.Cond.code ({ cls := "java/lang/Integer", name := "<init>", desc := "(I)V" } : Jvm.MethodName) jdk_33_method_23_code (2 : Nat) (Option.none : Option Jvm.ClassFile.FieldType), Jvm.Cond.code ({ cls := "java/lang/Number", name := "<init>", desc := "()V" } : Jvm.MethodName) jdk_18_method_1_code (1 : Nat) (Option.none : Option Jvm.ClassFile.FieldType)]
set_option maxRecDepth 65536 in
theorem codes_eq : words1.filter isCode = codes1 := rfl
theorem w_codes : ∀ c ∈ words1.filter isCode, c.before args0 about1 = true := by
  rw [codes_eq]
  intro c hc
  simp only [codes1, List.mem_cons, List.not_mem_nil, or_false] at hc
  rcases hc with rfl | rfl | rfl | rfl | rfl | rfl | rfl | rfl | rfl | rfl | rfl | rfl | rfl | rfl | rfl | rfl | rfl | rfl | rfl | rfl | rfl | rfl
  · exact w_c0
  · exact w_c1
  · exact w_c2
  · exact w_c3
  · exact w_c4
  · exact w_c5
  · exact w_c6
  · exact w_c7
  · exact w_c8
  · exact w_c9
  · exact w_c10
  · exact w_c11
  · exact w_c12
  · exact w_c13
  · exact w_c14
  · exact w_c15
  · exact w_c16
  · exact w_c17
  · exact w_c18
  · exact w_c19
  · exact w_c20
  · exact w_c21
set_option maxRecDepth 65536 in
theorem w_t1 : (words1.take 24).all (fun c => isCode c || c.before args0 about1) = true := by decide +kernel
set_option maxRecDepth 65536 in
theorem w_t2 : ((words1.drop 24).take 24).all (fun c => isCode c || c.before args0 about1) = true := by decide +kernel
set_option maxRecDepth 65536 in
theorem w_t3 : (((words1.drop 24).drop 24).take 24).all (fun c => isCode c || c.before args0 about1) = true := by decide +kernel
set_option maxRecDepth 65536 in
theorem w_t4 : ((((words1.drop 24).drop 24).drop 24).take 24).all (fun c => isCode c || c.before args0 about1) = true := by decide +kernel
set_option maxRecDepth 65536 in
theorem w_t5 : (((((words1.drop 24).drop 24).drop 24).drop 24).take 24).all (fun c => isCode c || c.before args0 about1) = true := by decide +kernel
set_option maxRecDepth 65536 in
theorem w_t6 : (((((words1.drop 24).drop 24).drop 24).drop 24).drop 24).all (fun c => isCode c || c.before args0 about1) = true := by decide +kernel
theorem w_tables : (allAtoms (Jvm.Cond.code x code maxLocals ret :: tables_1)).before args0 about1 = true := by
  rw [allAtoms_all]
  show words1.all (fun c => c.before args0 about1) = true
  refine all_split ?_ w_codes
  rw [← List.take_append_drop 24 words1, List.all_append, w_t1, ← List.take_append_drop 24 (words1.drop 24), List.all_append, w_t2, ← List.take_append_drop 24 ((words1.drop 24).drop 24), List.all_append, w_t3, ← List.take_append_drop 24 (((words1.drop 24).drop 24).drop 24), List.all_append, w_t4, ← List.take_append_drop 24 ((((words1.drop 24).drop 24).drop 24).drop 24), List.all_append, w_t5, w_t6]
  rfl
theorem own_wand {c d : Jvm.Cond} {a : Array Value} {s : State} (h1 : c.before a s = true) (h2 : d.before a s = true) : (Jvm.Cond.and c d).before a s = true := by rw [Cond.before_and, h1, h2]; rfl
set_option maxRecDepth 65536 in
theorem w_r0 : ((Jvm.Cond.laysStatic "java/util/ArrayList" "EMPTY_ELEMENTDATA" "[Ljava/lang/Object;") : Jvm.Cond).before args0 about1 = true := by decide +kernel
set_option maxRecDepth 65536 in
theorem w_r1 : ((Jvm.Cond.initializedFor "java/util/ArrayList" "EMPTY_ELEMENTDATA" "[Ljava/lang/Object;") : Jvm.Cond).before args0 about1 = true := by decide +kernel
set_option maxRecDepth 65536 in
theorem w_r2 : ((Jvm.Cond.laysStatic "java/util/ArrayList" "DEFAULTCAPACITY_EMPTY_ELEMENTDATA" "[Ljava/lang/Object;") : Jvm.Cond).before args0 about1 = true := by decide +kernel
set_option maxRecDepth 65536 in
theorem w_r3 : ((Jvm.Cond.arrayOf (Jvm.Term.static "java/util/ArrayList" "EMPTY_ELEMENTDATA" "[Ljava/lang/Object;") (Jvm.ClassFile.FieldType.object "java/lang/Object")) : Jvm.Cond).before args0 about1 = true := by decide +kernel
set_option maxRecDepth 65536 in
theorem w_r4 : ((Jvm.Cond.exactly (Jvm.Term.static "java/util/ArrayList" "EMPTY_ELEMENTDATA" "[Ljava/lang/Object;") "[Ljava/lang/Object;") : Jvm.Cond).before args0 about1 = true := by decide +kernel
set_option maxRecDepth 65536 in
theorem w_r5 : ((Jvm.Cond.eq (Jvm.Term.length (Jvm.Term.static "java/util/ArrayList" "EMPTY_ELEMENTDATA" "[Ljava/lang/Object;")) (Jvm.Term.int (0 : Int32))) : Jvm.Cond).before args0 about1 = true := by decide +kernel
set_option maxRecDepth 65536 in
theorem w_r6 : ((Jvm.Cond.arrayOf (Jvm.Term.static "java/util/ArrayList" "DEFAULTCAPACITY_EMPTY_ELEMENTDATA" "[Ljava/lang/Object;") (Jvm.ClassFile.FieldType.object "java/lang/Object")) : Jvm.Cond).before args0 about1 = true := by decide +kernel
set_option maxRecDepth 65536 in
theorem w_r7 : ((Jvm.Cond.exactly (Jvm.Term.static "java/util/ArrayList" "DEFAULTCAPACITY_EMPTY_ELEMENTDATA" "[Ljava/lang/Object;") "[Ljava/lang/Object;") : Jvm.Cond).before args0 about1 = true := by decide +kernel
set_option maxRecDepth 65536 in
theorem w_r8 : ((Jvm.Cond.eq (Jvm.Term.length (Jvm.Term.static "java/util/ArrayList" "DEFAULTCAPACITY_EMPTY_ELEMENTDATA" "[Ljava/lang/Object;")) (Jvm.Term.int (0 : Int32))) : Jvm.Cond).before args0 about1 = true := by decide +kernel
set_option maxRecDepth 65536 in
theorem w_r9 : ((Jvm.Cond.laysStatic "java/util/ImmutableCollections" "EMPTY_LIST" "Ljava/util/ImmutableCollections$ListN;") : Jvm.Cond).before args0 about1 = true := by decide +kernel
set_option maxRecDepth 65536 in
theorem w_r10 : ((Jvm.Cond.initializedFor "java/util/ImmutableCollections" "EMPTY_LIST" "Ljava/util/ImmutableCollections$ListN;") : Jvm.Cond).before args0 about1 = true := by decide +kernel
set_option maxRecDepth 65536 in
theorem w_r11 : ((Jvm.Cond.exactly (Jvm.Term.static "java/util/ImmutableCollections" "EMPTY_LIST" "Ljava/util/ImmutableCollections$ListN;") "java/util/ImmutableCollections$ListN") : Jvm.Cond).before args0 about1 = true := by decide +kernel
set_option maxRecDepth 65536 in
theorem w_r12 : ((Jvm.Cond.arrayOf (Jvm.Term.field (Jvm.Term.static "java/util/ImmutableCollections" "EMPTY_LIST" "Ljava/util/ImmutableCollections$ListN;") "java/util/ImmutableCollections$ListN" "elements" "[Ljava/lang/Object;") (Jvm.ClassFile.FieldType.object "java/lang/Object")) : Jvm.Cond).before args0 about1 = true := by decide +kernel
set_option maxRecDepth 65536 in
theorem w_r13 : ((Jvm.Cond.exactly (Jvm.Term.field (Jvm.Term.static "java/util/ImmutableCollections" "EMPTY_LIST" "Ljava/util/ImmutableCollections$ListN;") "java/util/ImmutableCollections$ListN" "elements" "[Ljava/lang/Object;") "[Ljava/lang/Object;") : Jvm.Cond).before args0 about1 = true := by decide +kernel
set_option maxRecDepth 65536 in
theorem w_r14 : ((Jvm.Cond.eq (Jvm.Term.length (Jvm.Term.field (Jvm.Term.static "java/util/ImmutableCollections" "EMPTY_LIST" "Ljava/util/ImmutableCollections$ListN;") "java/util/ImmutableCollections$ListN" "elements" "[Ljava/lang/Object;")) (Jvm.Term.int (0 : Int32))) : Jvm.Cond).before args0 about1 = true := by decide +kernel
set_option maxRecDepth 65536 in
theorem w_r15 : ((Jvm.Cond.eq (Jvm.Term.field (Jvm.Term.static "java/util/ImmutableCollections" "EMPTY_LIST" "Ljava/util/ImmutableCollections$ListN;") "java/util/ImmutableCollections$ListN" "allowNulls" "Z") (Jvm.Term.int (0 : Int32))) : Jvm.Cond).before args0 about1 = true := by decide +kernel
set_option maxRecDepth 65536 in
theorem w_r16 : ((Jvm.Cond.laysStatic "java/lang/Integer$IntegerCache" "high" "I") : Jvm.Cond).before args0 about1 = true := by decide +kernel
set_option maxRecDepth 65536 in
theorem w_r17 : ((Jvm.Cond.initializedFor "java/lang/Integer$IntegerCache" "high" "I") : Jvm.Cond).before args0 about1 = true := by decide +kernel
set_option maxRecDepth 65536 in
theorem w_r18 : ((Jvm.Cond.laysStatic "java/lang/Integer$IntegerCache" "cache" "[Ljava/lang/Integer;") : Jvm.Cond).before args0 about1 = true := by decide +kernel
set_option maxRecDepth 65536 in
theorem w_r19 : ((Jvm.Cond.eq (Jvm.Term.static "java/lang/Integer$IntegerCache" "high" "I") (Jvm.Term.int (127 : Int32))) : Jvm.Cond).before args0 about1 = true := by decide +kernel
set_option maxRecDepth 65536 in
theorem w_r20 : ((Jvm.Cond.arrayOf (Jvm.Term.static "java/lang/Integer$IntegerCache" "cache" "[Ljava/lang/Integer;") (Jvm.ClassFile.FieldType.object "java/lang/Integer")) : Jvm.Cond).before args0 about1 = true := by decide +kernel
set_option maxRecDepth 65536 in
theorem w_r21 : ((Jvm.Cond.exactly (Jvm.Term.static "java/lang/Integer$IntegerCache" "cache" "[Ljava/lang/Integer;") "[Ljava/lang/Integer;") : Jvm.Cond).before args0 about1 = true := by decide +kernel
set_option maxRecDepth 65536 in
theorem w_r22 : ((Jvm.Cond.eq (Jvm.Term.length (Jvm.Term.static "java/lang/Integer$IntegerCache" "cache" "[Ljava/lang/Integer;")) (Jvm.Term.int (256 : Int32))) : Jvm.Cond).before args0 about1 = true := by decide +kernel
set_option maxRecDepth 65536 in
theorem w_r23 : ((Jvm.Cond.all (Jvm.Term.static "java/lang/Integer$IntegerCache" "cache" "[Ljava/lang/Integer;") (Jvm.Cond.and (Jvm.Cond.exactly (Jvm.Term.elem (Jvm.Term.static "java/lang/Integer$IntegerCache" "cache" "[Ljava/lang/Integer;") (Jvm.Term.index (0 : Nat))) "java/lang/Integer") (Jvm.Cond.eq (Jvm.Term.field (Jvm.Term.elem (Jvm.Term.static "java/lang/Integer$IntegerCache" "cache" "[Ljava/lang/Integer;") (Jvm.Term.index (0 : Nat))) "java/lang/Integer" "value" "I") (Jvm.Term.sub (Jvm.Term.index (0 : Nat)) (Jvm.Term.int (128 : Int32)))))) : Jvm.Cond).before args0 about1 = true := by decide +kernel
set_option maxRecDepth 65536 in
theorem w_r24 : (Jvm.Cond.tt : Jvm.Cond).before args0 about1 = true := by decide +kernel
theorem w_rest : rest_1_c.before args0 about1 = true := show rest_1_c.before args0 about1 = true from (own_wand w_r0 (own_wand w_r1 (own_wand w_r2 (own_wand w_r3 (own_wand w_r4 (own_wand w_r5 (own_wand w_r6 (own_wand w_r7 (own_wand w_r8 (own_wand w_r9 (own_wand w_r10 (own_wand w_r11 (own_wand w_r12 (own_wand w_r13 (own_wand w_r14 (own_wand w_r15 (own_wand w_r16 (own_wand w_r17 (own_wand w_r18 (own_wand w_r19 (own_wand w_r20 (own_wand w_r21 (own_wand w_r22 (own_wand w_r23 w_r24))))))))))))))))))))))))
set_option maxRecDepth 65536 in
theorem w_case : (Jvm.Cond.and given_1 narrow_1).before args0 about1 = true := by decide +kernel
theorem w_applies : (headSpec (Jvm.Cond.code x code maxLocals ret :: tables_1) room_1).applies x e0.platform about1 = true :=
  (Spec.applies_iff w_frames).mpr ⟨w_running, w_runnable, w_alone, w_named, w_hears, w_ripe, w_room, w_tables⟩
theorem atStart : AtStart classFile x code maxLocals ret World_1 tables_1 room_1 Calls_1 rest_1 Pre_1 launch0 p0 e0 about1 theMethod args0 below0 :=
  ⟨lists_1, trivial, launch0.admits_env _ _ _, launch0.least_env, fairChoices_fair.cas, fairChoices_fair.clock, w_frames, w_args, w_heap, w_applies, trivial, w_rest, w_case⟩
end start1
theorem witness_1 : WitnessClaimed_1 := ⟨start1.p0, start1.e0, start1.about1, start1.theMethod, start1.args0, start1.below0, start1.atStart⟩
end Jvm.Pilot.@@N@@
