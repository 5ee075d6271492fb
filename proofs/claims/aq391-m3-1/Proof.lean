import JvmDerived
import JvmDerived.Pilot.@@N@@Statement
import JvmDerived.Pilot.@@N@@Code
set_option linter.unusedVariables false
set_option linter.unusedSimpArgs false

namespace Jvm.Pilot.@@N@@
open Jvm Jvm.ClassFile Sem Op Lib Jvm.Free Jvm.Stand Jvm.LawKit Jvm.RoadKit Bundle Jvm.Pilot.@@N@@.Jvm.D
section OwnLayer
variable {p : Program} {l : Launch} {e : Env} {R : Room} {s : State} {m : MethodId} {args : Array Value} {below : List Frame} {meth : Method} {c : Code} {T : State} {locs : List Loc} {cells slots : Nat} {Z : State} {a0 : Array Value} {h : Heap} {K : State → Prop}
/-- the run from the frame g at T comes to a state of which K holds -/
def own_Go (p : Program) (e : Env) (below : List Frame) (K : State → Prop) (T : State) (g : JFrame) : Prop := ∃ t, Steps p.tables e below (T.setTop g) t ∧ K t
theorem own_go {T' : State} {g g' : JFrame} (st : ∀ t, Steps p.tables e below (T'.setTop g') t → Steps p.tables e below (T.setTop g) t) (k : own_Go p e below K T' g') : own_Go p e below K T g := by
  obtain ⟨t, h1, h2⟩ := k
  exact ⟨t, st t h1, h2⟩
/-- the method has returned, Q says what, and the frame is kept -/
def own_End (s : State) (below : List Frame) (Q : Option Value → Heap → List Loc → Prop) (C N : Nat) (t : State) : Prop :=
  ∃ o, t.status = .running ∧ Ended t below o ∧ ∃ v L, o = .returned v ∧ Q v t.heap L ∧ FrameEnd s o t L C N
/-- a contract, as the callers of this family ask it -/
abbrev own_Met (l : Launch) (Z : State) (y : MethodName) (bytes : ByteArray) (maxL : Nat) (ret : Option FieldType) (ws : List Jvm.Cond) (rm : Room) (as' : Array Value) (h : Heap) (Q : Option Value → Heap → List Loc → Prop) : Prop :=
  MetFree l y (head1 (Jvm.Cond.code y bytes maxL ret :: ws) rm) (fun a U => a = as' ∧ Z.Warmed39 U.vm ∧ U.heap = h) (fun _ _ _ _ _ => True) (fun _ U o U' => ∃ v L, o = .returned v ∧ Q v U'.heap L ∧ FrameEnd U o U' L rm.cells rm.slots)
theorem own_body {y : MethodName} {bytes : ByteArray} {maxL : Nat} {ret : Option FieldType} {ws : List Jvm.Cond} {rm : Room} {as' : Array Value} {h0 : Heap} {Q : Option Value → Heap → List Loc → Prop} {g : MethodId → JFrame}
    (hp : plainFor y = true) (hef : ∀ m, entryFrame m as' maxL = g m)
    (H : ∀ (p : Program) (e : Env) (s : State) (m : MethodId) (A : Array Value) (below : List Frame) (meth : Method) (c : Code) (T : State) (K : State → Prop), Stand p l e rm s m A below meth c T [] 0 0 → p.tables.exec = Jvm.exec → c.code = bytes → c.maxLocals = maxL → s.vm.findClass y.cls = some m.cls → meth.name = y.name → meth.sig.returnType = ret → meth.locks = false → Z.Warmed39 s.vm → T.heap = h0 → (∀ t, own_End s below Q rm.cells rm.slots t → K t) → own_Go p e below K T (g m)) :
    own_Met l Z y bytes maxL ret ws rm as' h0 Q := by
  refine MetFree.of_bodySF hp hisR ?_
  intro p e s m args below meth c s₁ Bd hml0 hP hK
  obtain ⟨rfl, hZ, hh⟩ := hP
  have e0 : s₁.heap = h0 := by rw [← hh, Bd.state]; rfl
  obtain ⟨t, h1, o, h2, h3, h4⟩ := H p e s m args below meth c s₁ _ (Stand.of_body Bd) Bd.exec Bd.bytes hml0 (findClass_of_methodNamed Bd.named) (name_of_methodNamed Bd.named Bd.method).1 Bd.returns Bd.notSynchronized hZ e0 (fun _ q => q)
  exact ⟨t, o, castTop (hef m) h1, h2, h3, h4⟩
theorem own_ret {Q : Option Value → Heap → List Loc → Prop} {C N : Nat} (X : Stand p l e R s m args below meth c T locs cells slots) (hx : p.tables.exec = Jvm.exec) (hlk : meth.locks = false) (hK : ∀ t, own_End s below Q C N t → K t) {pc : Nat} {Ls : Array Slot} {w : Value} {t : FieldType} {i : Instr} {rest : List Value} (hret : meth.sig.returnType = some t) (hn : narrow t w = w)
    (hi : (i = .ireturn ∧ (t = .int ∨ t = .boolean ∨ t = .byte ∨ t = .char ∨ t = .short) ∧ ∃ z, w = .int z) ∨ (i = .lreturn ∧ t = .long ∧ ∃ z, w = .long z) ∨ (i = .dreturn ∧ t = .double ∧ ∃ z, w = .double z) ∨ (i = .freturn ∧ t = .float ∧ ∃ z, w = .float z) ∨ (i = .areturn ∧ t.isReference = true ∧ w.isRef = true))
    (hd : decode c.code pc = .ok (i, 1)) (hC : cells ≤ C) (hN : slots ≤ N) (hQ : Q (some w) T.heap locs) : own_Go p e below K T (mkF m pc Ls (w :: rest)) := by
  obtain ⟨fs, hr, hrun, hended, hW, hsame⟩ := X.leave (v := some w) (fun h => by rw [hret] at h; cases h) hlk
  exact ⟨_, retOut X hx hret hn hi hd hr, hK _ ⟨_, hrun, hended, _, _, rfl, hQ, ⟨_, rfl⟩, hW, hsame.mono hC hN⟩⟩
theorem own_retI {Q : Option Value → Heap → List Loc → Prop} {C N : Nat} (X : Stand p l e R s m args below meth c T locs cells slots) (hx : p.tables.exec = Jvm.exec) (hlk : meth.locks = false) (hK : ∀ t, own_End s below Q C N t → K t) {pc : Nat} {Ls : Array Slot} {z : Int32} {rest : List Value} (hret : meth.sig.returnType = some .int)
    (hd : decode c.code pc = .ok (.ireturn, 1)) (hC : cells ≤ C) (hN : slots ≤ N) (hQ : Q (some (.int z)) T.heap locs) : own_Go p e below K T (mkF m pc Ls (.int z :: rest)) :=
  own_ret X hx hlk hK hret rfl (Or.inl ⟨rfl, Or.inl rfl, z, rfl⟩) hd hC hN hQ
theorem own_retZ {Q : Option Value → Heap → List Loc → Prop} {C N : Nat} (X : Stand p l e R s m args below meth c T locs cells slots) (hx : p.tables.exec = Jvm.exec) (hlk : meth.locks = false) (hK : ∀ t, own_End s below Q C N t → K t) {pc : Nat} {Ls : Array Slot} {z : Int32} {rest : List Value} (hret : meth.sig.returnType = some .boolean) (hz : z &&& 1 = z)
    (hd : decode c.code pc = .ok (.ireturn, 1)) (hC : cells ≤ C) (hN : slots ≤ N) (hQ : Q (some (.int z)) T.heap locs) : own_Go p e below K T (mkF m pc Ls (.int z :: rest)) :=
  own_ret X hx hlk hK hret (by show Value.int (z &&& 1) = _; rw [hz]) (Or.inl ⟨rfl, Or.inr (Or.inl rfl), z, rfl⟩) hd hC hN hQ
theorem own_retR {Q : Option Value → Heap → List Loc → Prop} {C N : Nat} (X : Stand p l e R s m args below meth c T locs cells slots) (hx : p.tables.exec = Jvm.exec) (hlk : meth.locks = false) (hK : ∀ t, own_End s below Q C N t → K t) {pc : Nat} {Ls : Array Slot} {w : Value} {t : FieldType} {rest : List Value} (hret : meth.sig.returnType = some t) (ht : t.isReference = true) (hw : w.isRef = true)
    (hd : decode c.code pc = .ok (.areturn, 1)) (hC : cells ≤ C) (hN : slots ≤ N) (hQ : Q (some w) T.heap locs) : own_Go p e below K T (mkF m pc Ls (w :: rest)) :=
  own_ret X hx hlk hK hret (by cases t <;> first | (cases ht; done) | rfl) (Or.inr (Or.inr (Or.inr (Or.inr ⟨rfl, ht, hw⟩)))) hd hC hN hQ
theorem own_retV {Q : Option Value → Heap → List Loc → Prop} {C N : Nat} (X : Stand p l e R s m args below meth c T locs cells slots) (hx : p.tables.exec = Jvm.exec) (hlk : meth.locks = false) (hK : ∀ t, own_End s below Q C N t → K t) {pc : Nat} {Ls : Array Slot} (hret : meth.sig.returnType = none)
    (hd : decode c.code pc = .ok (.return_, 1)) (hC : cells ≤ C) (hN : slots ≤ N) (hQ : Q none T.heap locs) : own_Go p e below K T (mkF m pc Ls []) := by
  obtain ⟨fs, hr, hrun, hended, hW, hsame⟩ := X.leave (v := none) (fun _ => rfl) hlk
  exact ⟨_, X.returnOut hx hret hd hr, hK _ ⟨_, hrun, hended, _, _, rfl, hQ, ⟨_, rfl⟩, hW, hsame.mono hC hN⟩⟩
theorem own_callS (X : Stand p l e R s m args below meth c T locs cells slots) (hx : p.tables.exec = Jvm.exec) (hZ : Z.Warmed39 s.vm) {own : String} {index : Nat} {y : MethodName} {bytes : ByteArray} {maxL : Nat} {ret : Option FieldType}
    (hown : s.vm.findClass own = some m.cls) (wl : (Jvm.Cond.methodLink own index y).before a0 Z = true) (wt : (Jvm.Cond.static y).before a0 Z = true) (wz : (Jvm.Cond.initialized y.cls).before a0 Z = true) (wc : (Jvm.Cond.code y bytes maxL ret).before a0 Z = true)
    (hy : y.cls ≠ "java/lang/invoke/MethodHandle" ∧ y.cls ≠ "java/lang/invoke/VarHandle") (eT : T.heap = h) {rm : Room} {Q : Option Value → Heap → List Loc → Prop} {argsL rest : List Value} (hM : own_Met l Z y bytes maxL ret [] rm argsL.toArray h Q)
    {W : Nat} (hf : rm.frames + 1 ≤ R.frames) (hl : W + (maxL + 11) + rm.locals ≤ R.locals) (hc : cells + rm.cells ≤ R.cells) (hs : slots + rm.slots ≤ R.slots)
    {g : JFrame} (hg : g.method = m) (hsize : g.locals.size = c.maxLocals) (hlen : ∀ sig, parseMethodDescriptor y.desc = some sig → argsL.length = sig.parameters.length)
    (hstack : g.stack = argsL.reverse ++ rest) (hW : 2 * g.monitorRoom + (rest.map fun v => v.category).sum ≤ W) (hd : decode c.code g.pc = .ok (.invokestatic index, 3))
    (k : ∀ (v : Option Value) (T' : State) (L : List Loc), Stand p l e R s m args below meth c T' (locs ++ L) (cells + rm.cells) (slots + rm.slots) → Q v T'.heap L → own_Go p e below K T' { g with pc := g.pc + 3, stack := v.toList ++ rest }) : own_Go p e below K T g := by
  obtain ⟨v, vm₁, ⟨T', L', k', n'⟩, -, X', ⟨L, hQ, hl', hk', hn'⟩, st⟩ := Jvm.LawKit.callS X hx (y := y) hown (mvT hZ wl) (mvT hZ wt) (mvT hZ wz) (mvT hZ wc) hy (backOf (W := W) hM hZ wc wz hf hl) (g := g) hg hsize (argsL := argsL) (rest := rest) hlen hstack hW hd (fun _ _ => ⟨rfl, eT, hc, hs⟩)
  dsimp only [Pt.U, Pt.locs, Pt.cells, Pt.slots] at X' hl' hk' hn' st hQ
  subst hl' hk' hn'
  exact own_go st (k v T' L X' hQ)
theorem own_callI (X : Stand p l e R s m args below meth c T locs cells slots) (hx : p.tables.exec = Jvm.exec) (hZ : Z.Warmed39 s.vm) {own : String} {index : Nat} {y : MethodName} (hy1 : y.name = "<init>") {bytes : ByteArray} {maxL : Nat}
    (hown : s.vm.findClass own = some m.cls) (wl : (Jvm.Cond.methodLink own index y).before a0 Z = true) (wt : (Jvm.Cond.instanceMethod y).before a0 Z = true) (wz : (Jvm.Cond.initialized y.cls).before a0 Z = true) (wc : (Jvm.Cond.code y bytes maxL none).before a0 Z = true)
    (hy : y.cls ≠ "java/lang/invoke/MethodHandle" ∧ y.cls ≠ "java/lang/invoke/VarHandle") (eT : T.heap = h) {rm : Room} {Q : Option Value → Heap → List Loc → Prop} {a : Addr} {argsL rest : List Value} (hM : own_Met l Z y bytes maxL none [] rm (.ref a :: argsL).toArray h Q)
    {W : Nat} (hf : rm.frames + 1 ≤ R.frames) (hl : W + (maxL + 11) + rm.locals ≤ R.locals) (hc : cells + rm.cells ≤ R.cells) (hs : slots + rm.slots ≤ R.slots)
    {g : JFrame} (hg : g.method = m) (hsize : g.locals.size = c.maxLocals) (hlen : ∀ sig, parseMethodDescriptor y.desc = some sig → argsL.length = sig.parameters.length)
    (hstack : g.stack = argsL.reverse ++ .ref a :: rest) (hW : 2 * g.monitorRoom + (rest.map fun v => v.category).sum ≤ W) (hd : decode c.code g.pc = .ok (.invokespecial index, 3))
    (k : ∀ (v : Option Value) (T' : State) (L : List Loc), Stand p l e R s m args below meth c T' (locs ++ L) (cells + rm.cells) (slots + rm.slots) → Q v T'.heap L → own_Go p e below K T' { g with pc := g.pc + 3, stack := v.toList ++ rest }) : own_Go p e below K T g := by
  obtain ⟨v, vm₁, ⟨T', L', k', n'⟩, -, X', ⟨L, hQ, hl', hk', hn'⟩, st⟩ := X.specialBack hx (y := y) hy1 hown (mvT hZ wl) (mvT hZ wt) (mvT hZ wc) hy (backOf (W := W) hM hZ wc wz hf hl) (g := g) hg hsize (Steps.refl _) (a := a) (argsL := argsL) (rest := rest) hlen hstack hW hd (fun _ _ => ⟨rfl, eT, hc, hs⟩)
  dsimp only [Pt.U, Pt.locs, Pt.cells, Pt.slots] at X' hl' hk' hn' st hQ
  subst hl' hk' hn'
  exact own_go (fun _ q => st.trans q) (k v T' L X' hQ)
theorem own_callV (X : Stand p l e R s m args below meth c T locs cells slots) (hx : p.tables.exec = Jvm.exec) (hZ : Z.Warmed39 s.vm) {own C : String} {index : Nat} {y z : MethodName} {bytes : ByteArray} {maxL : Nat} {ret : Option FieldType}
    (hown : s.vm.findClass own = some m.cls) (wl : (Jvm.Cond.methodLink own index y).before a0 Z = true) (wd : (Jvm.Cond.declares y).before a0 Z = true) (hnf : NotFace s y) (wsel : (Jvm.Cond.selects C y z).before a0 Z = true) (wt : (Jvm.Cond.instanceMethod z).before a0 Z = true) (wz : (Jvm.Cond.initialized z.cls).before a0 Z = true) (wc : (Jvm.Cond.code z bytes maxL ret).before a0 Z = true)
    (hy : y.cls ≠ "java/lang/invoke/MethodHandle" ∧ y.cls ≠ "java/lang/invoke/VarHandle") (eT : T.heap = h) {rm : Room} {Q : Option Value → Heap → List Loc → Prop} {a : Addr} (E : Exa Z h a C) {argsL rest : List Value} (hM : own_Met l Z z bytes maxL ret [] rm (.ref a :: argsL).toArray h Q)
    {W : Nat} (hf : rm.frames + 1 ≤ R.frames) (hl : W + (maxL + 11) + rm.locals ≤ R.locals) (hc : cells + rm.cells ≤ R.cells) (hs : slots + rm.slots ≤ R.slots)
    {g : JFrame} (hg : g.method = m) (hsize : g.locals.size = c.maxLocals) (hlen : ∀ sig, parseMethodDescriptor y.desc = some sig → argsL.length = sig.parameters.length)
    (hstack : g.stack = argsL.reverse ++ .ref a :: rest) (hW : 2 * g.monitorRoom + (rest.map fun v => v.category).sum ≤ W) (hd : decode c.code g.pc = .ok (.invokevirtual index, 3))
    (k : ∀ (v : Option Value) (T' : State) (L : List Loc), Stand p l e R s m args below meth c T' (locs ++ L) (cells + rm.cells) (slots + rm.slots) → Q v T'.heap L → own_Go p e below K T' { g with pc := g.pc + 3, stack := v.toList ++ rest }) : own_Go p e below K T g := by
  obtain ⟨cq, kq, qa, qb, qc⟩ := isOf hZ eT E
  obtain ⟨v, vm₁, ⟨T', L', k', n'⟩, -, X', ⟨L, hQ, hl', hk', hn'⟩, st⟩ := X.virtualBack hx (y := y) (z := z) hown (mvT hZ wl) (mvT hZ wd) hnf (mvT hZ wsel) (mvT hZ wt) hy (backOf (W := W) hM hZ wc wz hf hl) qa qc (g := g) hg hsize (Steps.refl _) (argsL := argsL) (rest := rest) hlen hstack hW hd (fun _ _ => ⟨rfl, eT, hc, hs⟩)
  dsimp only [Pt.U, Pt.locs, Pt.cells, Pt.slots] at X' hl' hk' hn' st hQ
  subst hl' hk' hn'
  exact own_go (fun _ q => st.trans q) (k v T' L X' hQ)
theorem own_callF (X : Stand p l e R s m args below meth c T locs cells slots) (hx : p.tables.exec = Jvm.exec) (hZ : Z.Warmed39 s.vm) {own C : String} {index count : Nat} {xi z : MethodName} {bytes : ByteArray} {maxL : Nat} {ret : Option FieldType}
    (hown : s.vm.findClass own = some m.cls) (wl : (Jvm.Cond.methodLink own index xi).before a0 Z = true) (wd : (Jvm.Cond.declares xi).before a0 Z = true) (wf : (Jvm.Cond.interfaceMethod xi.cls xi.cls xi.name xi.desc).before args s = true) (wsel : (Jvm.Cond.selects C xi z).before a0 Z = true) (wt : (Jvm.Cond.instanceMethod z).before a0 Z = true)
    (wp : (Jvm.Cond.publicMethod z).before a0 Z = true) (wu : (Jvm.Cond.unhidden C xi.name xi.desc).before a0 Z = true) (wk : (Jvm.Cond.castable C xi.cls).before a0 Z = true) (wz : (Jvm.Cond.initialized z.cls).before a0 Z = true) (wc : (Jvm.Cond.code z bytes maxL ret).before a0 Z = true)
    (hy : xi.cls ≠ "java/lang/invoke/MethodHandle" ∧ xi.cls ≠ "java/lang/invoke/VarHandle") (eT : T.heap = h) {rm : Room} {Q : Option Value → Heap → List Loc → Prop} {a : Addr} (E : Exa Z h a C) {argsL rest : List Value} (hM : own_Met l Z z bytes maxL ret [] rm (.ref a :: argsL).toArray h Q)
    {W : Nat} (hf : rm.frames + 1 ≤ R.frames) (hl : W + (maxL + 11) + rm.locals ≤ R.locals) (hc : cells + rm.cells ≤ R.cells) (hs : slots + rm.slots ≤ R.slots)
    {g : JFrame} (hg : g.method = m) (hsize : g.locals.size = c.maxLocals) (hlen : ∀ sig, parseMethodDescriptor xi.desc = some sig → argsL.length = sig.parameters.length)
    (hstack : g.stack = argsL.reverse ++ .ref a :: rest) (hW : 2 * g.monitorRoom + (rest.map fun v => v.category).sum ≤ W) (hd : decode c.code g.pc = .ok (.invokeinterface index count, 5))
    (k : ∀ (v : Option Value) (T' : State) (L : List Loc), Stand p l e R s m args below meth c T' (locs ++ L) (cells + rm.cells) (slots + rm.slots) → Q v T'.heap L → own_Go p e below K T' { g with pc := g.pc + 5, stack := v.toList ++ rest }) : own_Go p e below K T g := by
  obtain ⟨cq, kq, qa, qb, qc⟩ := isOf hZ eT E
  obtain ⟨v, vm₁, ⟨T', L', k', n'⟩, -, X', ⟨L, hQ, hl', hk', hn'⟩, st⟩ := X.interfaceBack hx (xi := xi) (y := z) hown (mvT hZ wl) (mvT hZ wd) wf (mvT hZ wsel) (mvT hZ wt) (mvT hZ wp) (mvT hZ wu) (mvT hZ wk) hy (backOf (W := W) hM hZ wc wz hf hl) qa qb qc (g := g) hg hsize (Steps.refl _) (argsL := argsL) (rest := rest) hlen hstack hW hd (fun _ _ => ⟨rfl, eT, hc, hs⟩)
  dsimp only [Pt.U, Pt.locs, Pt.cells, Pt.slots] at X' hl' hk' hn' st hQ
  subst hl' hk' hn'
  exact own_go (fun _ q => st.trans q) (k v T' L X' hQ)
theorem own_callP (X : Stand p l e R s m args below meth c T locs cells slots) (hx : p.tables.exec = Jvm.exec) (hZ : Z.Warmed39 s.vm) {own : String} {index : Nat} {y : MethodName} {bytes : ByteArray} {maxL : Nat} {ret : Option FieldType}
    (hown : s.vm.findClass own = some m.cls) (wl : (Jvm.Cond.methodLink own index y).before a0 Z = true) (wt : (Jvm.Cond.instanceMethod y).before a0 Z = true) (wsel : (Jvm.Cond.selects y.cls y y).before a0 Z = true) (wp : (Jvm.Cond.privateMethod y).before a0 Z = true) (wz : (Jvm.Cond.initialized y.cls).before a0 Z = true) (wc : (Jvm.Cond.code y bytes maxL ret).before a0 Z = true)
    (hy : y.cls ≠ "java/lang/invoke/MethodHandle" ∧ y.cls ≠ "java/lang/invoke/VarHandle") (eT : T.heap = h) {rm : Room} {Q : Option Value → Heap → List Loc → Prop} {a : Addr} {C : String} (E : Exa Z h a C) {argsL rest : List Value} (hM : own_Met l Z y bytes maxL ret [] rm (.ref a :: argsL).toArray h Q)
    {W : Nat} (hf : rm.frames + 1 ≤ R.frames) (hl : W + (maxL + 11) + rm.locals ≤ R.locals) (hc : cells + rm.cells ≤ R.cells) (hs : slots + rm.slots ≤ R.slots)
    {g : JFrame} (hg : g.method = m) (hsize : g.locals.size = c.maxLocals) (hlen : ∀ sig, parseMethodDescriptor y.desc = some sig → argsL.length = sig.parameters.length)
    (hstack : g.stack = argsL.reverse ++ .ref a :: rest) (hW : 2 * g.monitorRoom + (rest.map fun v => v.category).sum ≤ W) (hd : decode c.code g.pc = .ok (.invokevirtual index, 3))
    (k : ∀ (v : Option Value) (T' : State) (L : List Loc), Stand p l e R s m args below meth c T' (locs ++ L) (cells + rm.cells) (slots + rm.slots) → Q v T'.heap L → own_Go p e below K T' { g with pc := g.pc + 3, stack := v.toList ++ rest }) : own_Go p e below K T g := by
  obtain ⟨cq, q1, q2⟩ := E.cell
  obtain ⟨v, vm₁, ⟨T', L', k', n'⟩, -, X', ⟨L, hQ, hl', hk', hn'⟩, st⟩ := X.privateBack hx (y := y) hown (mvT hZ wl) (mvT hZ wt) (mvT hZ wsel) (Cond.privateMethod_at (mvP hZ wp (args := #[]))) (mvT hZ wc) hy (backOf (W := W) hM hZ wc wz hf hl) (g := g) hg hsize (Steps.refl _) (a := a) (by rw [eT]; exact q1) q2 (argsL := argsL) (rest := rest) hlen hstack hW hd (fun _ _ => ⟨rfl, eT, hc, hs⟩)
  dsimp only [Pt.U, Pt.locs, Pt.cells, Pt.slots] at X' hl' hk' hn' st hQ
  subst hl' hk' hn'
  exact own_go (fun _ q => st.trans q) (k v T' L X' hQ)
theorem own_ins_keep {h h' : Heap} {a : Addr} {C : String} {b : Bool} {ws : List Addr} (F : Ins Z h a C b) (K : Keep h h' ws) : Ins Z h' a C b := by
  obtain ⟨cell, cT, h1, h2, h3⟩ := F
  obtain ⟨c', q1, q2, q3, -⟩ := K.2.2 _ _ h1
  exact ⟨c', cT, q1, h2, by rw [q2, q3]; exact h3⟩
theorem own_ne_arv {h : Heap} {a b : Addr} {C : String} {n : Nat} {k : ClassId} {ty : FieldType} {z : Int32} {vs : List Value} {d : Value} (F : Exa Z h a C) (wi : (Jvm.Cond.instantiable C n).before a0 Z = true) (G : Arv Z h b k ty z vs d) : a ≠ b := by
  obtain ⟨c, A, -⟩ := G
  exact ne_arr F wi A
end OwnLayer
theorem own_d1_0 : decode prog_38_method_5_code 0 = .ok (.iload_n 1, 1) := by decide +kernel
theorem own_d1_1 : decode prog_38_method_5_code 1 = .ok (.bipush 10, 2) := by decide +kernel
theorem own_d1_3 : decode prog_38_method_5_code 3 = .ok (.if_icmp .eq 37, 3) := by decide +kernel
theorem own_d1_6 : decode prog_38_method_5_code 6 = .ok (.iload_n 1, 1) := by decide +kernel
theorem own_d1_7 : decode prog_38_method_5_code 7 = .ok (.bipush 13, 2) := by decide +kernel
theorem own_d1_9 : decode prog_38_method_5_code 9 = .ok (.if_icmp .ne 10, 3) := by decide +kernel
theorem own_d1_12 : decode prog_38_method_5_code 12 = .ok (.aload_n 0, 1) := by decide +kernel
theorem own_d1_13 : decode prog_38_method_5_code 13 = .ok (.getfield 32, 3) := by decide +kernel
theorem own_d1_16 : decode prog_38_method_5_code 16 = .ok (.ifCond .ne 24, 3) := by decide +kernel
theorem own_d1_19 : decode prog_38_method_5_code 19 = .ok (.iload_n 1, 1) := by decide +kernel
theorem own_d1_20 : decode prog_38_method_5_code 20 = .ok (.sipush 133, 3) := by decide +kernel
theorem own_d1_23 : decode prog_38_method_5_code 23 = .ok (.if_icmp .eq 10, 3) := by decide +kernel
theorem own_d1_26 : decode prog_38_method_5_code 26 = .ok (.iload_n 1, 1) := by decide +kernel
theorem own_d1_27 : decode prog_38_method_5_code 27 = .ok (.sipush 8232, 3) := by decide +kernel
theorem own_d1_30 : decode prog_38_method_5_code 30 = .ok (.if_icmp .ne 14, 3) := by decide +kernel
theorem own_d1_33 : decode prog_38_method_5_code 33 = .ok (.aload_n 0, 1) := by decide +kernel
theorem own_d1_34 : decode prog_38_method_5_code 34 = .ok (.getfield 36, 3) := by decide +kernel
theorem own_d1_37 : decode prog_38_method_5_code 37 = .ok (.ifCond .eq 7, 3) := by decide +kernel
theorem own_d1_40 : decode prog_38_method_5_code 40 = .ok (.iconst 1, 1) := by decide +kernel
theorem own_d1_41 : decode prog_38_method_5_code 41 = .ok (.goto 4, 3) := by decide +kernel
theorem own_d1_44 : decode prog_38_method_5_code 44 = .ok (.iconst 0, 1) := by decide +kernel
theorem own_d1_45 : decode prog_38_method_5_code 45 = .ok (.ireturn, 1) := by decide +kernel
def own_tail (nel t : Int32) : Int32 := if t = 133 then (if nel = 0 then 0 else 1) else if t = 8232 then (if nel = 0 then 0 else 1) else 0
def own_ends (cr nel t : Int32) : Int32 := if t = 10 then 1 else if t = 13 then (if cr = 0 then own_tail nel t else 1) else own_tail nel t
def own_Qe (cr nel t : Int32) (h0 : Heap) (n0 : Nat) (v : Option Value) (h : Heap) (L : List Loc) : Prop := v = some (.int (own_ends cr nel t)) ∧ Fr n0 L ∧ h = h0
abbrev own_rme : Room := { frames := 0, cells := 0, slots := 0, locals := 0 }
set_option maxRecDepth 65536 in
set_option maxHeartbeats 40000000 in
theorem own_me (l : Launch) (Z : State) (a0 : Array Value) (hw : ∀ d ∈ tables_1, d.before a0 Z = true) (a : Addr) (t cr nel : Int32) (h0 : Heap) (n0 : Nat) (Z0 : n0 ≤ h0.size) (F1 : Fld Z h0 a "com/example/copista/copista/io/ReferenceScanner$LineEnds" "endsAtCarriageReturn" "Z" (.int cr)) (F2 : Fld Z h0 a "com/example/copista/copista/io/ReferenceScanner$LineEnds" "endsAtNelAndU2028" "Z" (.int nel)) :
    own_Met l Z (⟨"com/example/copista/copista/io/ReferenceScanner$LineEnds", "endsLine", "(C)Z"⟩ : MethodName) prog_38_method_5_code 2 (some .boolean) [] own_rme #[(.ref a), (.int t)] h0 (own_Qe cr nel t h0 n0) := by
  refine own_body (plainFor_of_name (by first | (simp [plainName, overriddenIn]; done) | decide +kernel)) (g := fun m => mkF m 0 #[.val (.ref a), .val (.int t)] []) (fun m => by first | (simp [entryFrame, mkF, argsToLocals, Value.category]; done) | rfl) ?_
  intro p e s m A below meth c T0 K X0 hx hby hml hown hnm hret hlk hZ e0 hK
  have N0 := Fr.nil n0
  show own_Go p e below K T0 (mkF m 0 #[.val (.ref a), .val (.int t)] [])
  refine own_go (fun _ kk' => XS.iloadN X0.here hx rfl (hb hby own_d1_0) rfl  kk') ?_
  show own_Go p e below K T0 (mkF m 1 #[.val (.ref a), .val (.int t)] [(.int t)])
  refine own_go (fun _ kk' => XS.bipush X0.here hx rfl (hb hby own_d1_1) kk') ?_
  show own_Go p e below K T0 (mkF m 3 #[.val (.ref a), .val (.int t)] [(.int (10 : Int32)), (.int t)])
  by_cases hc3_1 : t = (10 : Int32)
  · refine own_go (fun _ kk' => XS.icmpYes X0.here hx rfl (pc0 := 3) (pc' := 40) rfl (hb hby own_d1_3) rfl (teq (hc3_1 : t = (10 : Int32))).1 (by decide) (by decide) kk') ?_
    show own_Go p e below K T0 (mkF m 40 #[.val (.ref a), .val (.int t)] [])
    refine own_go (fun _ kk' => XS.iconst X0.here hx rfl (hb hby own_d1_40) kk') ?_
    show own_Go p e below K T0 (mkF m 41 #[.val (.ref a), .val (.int t)] [(.int (1 : Int32))])
    refine own_go (fun _ kk' => XS.goto X0.here hx rfl (pc0 := 41) (pc' := 45) rfl (hb hby own_d1_41) (by decide) (by decide) kk') ?_
    show own_Go p e below K T0 (mkF m 45 #[.val (.ref a), .val (.int t)] [(.int (1 : Int32))])
    exact own_retZ X0 hx hlk hK hret (by decide) (hb hby own_d1_45) (by decide) (by decide) ⟨by rw [show own_ends cr nel t = (1 : Int32) from (if_pos hc3_1)], N0, e0⟩
  · refine own_go (fun _ kk' => XS.icmpNo X0.here hx rfl (hb hby own_d1_3) rfl (feq (hc3_1 : ¬ (t = (10 : Int32)))).1 kk') ?_
    show own_Go p e below K T0 (mkF m 6 #[.val (.ref a), .val (.int t)] [])
    refine own_go (fun _ kk' => XS.iloadN X0.here hx rfl (hb hby own_d1_6) rfl  kk') ?_
    show own_Go p e below K T0 (mkF m 7 #[.val (.ref a), .val (.int t)] [(.int t)])
    refine own_go (fun _ kk' => XS.bipush X0.here hx rfl (hb hby own_d1_7) kk') ?_
    show own_Go p e below K T0 (mkF m 9 #[.val (.ref a), .val (.int t)] [(.int (13 : Int32)), (.int t)])
    by_cases hc9_2 : t = (13 : Int32)
    · refine own_go (fun _ kk' => XS.icmpNo X0.here hx rfl (hb hby own_d1_9) rfl (teq (hc9_2 : t = (13 : Int32))).2 kk') ?_
      show own_Go p e below K T0 (mkF m 12 #[.val (.ref a), .val (.int t)] [])
      refine own_go (fun _ kk' => XS.aloadN X0.here hx rfl (hb hby own_d1_12) rfl rfl  kk') ?_
      show own_Go p e below K T0 (mkF m 13 #[.val (.ref a), .val (.int t)] [(.ref a)])
      obtain ⟨T3, X3, e3, st3⟩ := getF X0 hx hZ hown (host := "") (Or.inl (hw _ (List.mem_of_getElem? (i := 16) rfl))) Via.refl e0 F1 (g := (mkF m 13 #[.val (.ref a), .val (.int t)] [(.ref a)])) rfl rfl (hb hby own_d1_13)
      refine own_go st3 ?_
      show own_Go p e below K T3 (mkF m 16 #[.val (.ref a), .val (.int t)] [(.int cr)])
      by_cases hc16_4 : cr = (0 : Int32)
      · refine own_go (fun _ kk' => XS.ifNo X3.here hx rfl (hb hby own_d1_16) rfl ((if0 _ _).trans (teq (hc16_4 : cr = (0 : Int32))).2) kk') ?_
        show own_Go p e below K T3 (mkF m 19 #[.val (.ref a), .val (.int t)] [])
        refine own_go (fun _ kk' => XS.iloadN X3.here hx rfl (hb hby own_d1_19) rfl  kk') ?_
        show own_Go p e below K T3 (mkF m 20 #[.val (.ref a), .val (.int t)] [(.int t)])
        refine own_go (fun _ kk' => XS.sipush X3.here hx rfl (hb hby own_d1_20) kk') ?_
        show own_Go p e below K T3 (mkF m 23 #[.val (.ref a), .val (.int t)] [(.int (133 : Int32)), (.int t)])
        by_cases hc23_5 : t = (133 : Int32)
        · refine own_go (fun _ kk' => XS.icmpYes X3.here hx rfl (pc0 := 23) (pc' := 33) rfl (hb hby own_d1_23) rfl (teq (hc23_5 : t = (133 : Int32))).1 (by decide) (by decide) kk') ?_
          show own_Go p e below K T3 (mkF m 33 #[.val (.ref a), .val (.int t)] [])
          refine own_go (fun _ kk' => XS.aloadN X3.here hx rfl (hb hby own_d1_33) rfl rfl  kk') ?_
          show own_Go p e below K T3 (mkF m 34 #[.val (.ref a), .val (.int t)] [(.ref a)])
          obtain ⟨T6, X6, e6, st6⟩ := getF X3 hx hZ hown (host := "") (Or.inl (hw _ (List.mem_of_getElem? (i := 9) rfl))) Via.refl e3 F2 (g := (mkF m 34 #[.val (.ref a), .val (.int t)] [(.ref a)])) rfl rfl (hb hby own_d1_34)
          refine own_go st6 ?_
          show own_Go p e below K T6 (mkF m 37 #[.val (.ref a), .val (.int t)] [(.int nel)])
          by_cases hc37_7 : nel = (0 : Int32)
          · refine own_go (fun _ kk' => XS.ifYes X6.here hx rfl (pc0 := 37) (pc' := 44) rfl (hb hby own_d1_37) rfl ((if0 _ _).trans (teq (hc37_7 : nel = (0 : Int32))).1) (by decide) (by decide) kk') ?_
            show own_Go p e below K T6 (mkF m 44 #[.val (.ref a), .val (.int t)] [])
            refine own_go (fun _ kk' => XS.iconst X6.here hx rfl (hb hby own_d1_44) kk') ?_
            show own_Go p e below K T6 (mkF m 45 #[.val (.ref a), .val (.int t)] [(.int (0 : Int32))])
            exact own_retZ X6 hx hlk hK hret (by decide) (hb hby own_d1_45) (by decide) (by decide) ⟨by rw [show own_ends cr nel t = (0 : Int32) from ((if_neg hc3_1).trans ((if_pos hc9_2).trans ((if_pos hc16_4).trans ((if_pos hc23_5).trans (if_pos hc37_7)))))], N0, e6⟩
          · refine own_go (fun _ kk' => XS.ifNo X6.here hx rfl (hb hby own_d1_37) rfl ((if0 _ _).trans (feq (hc37_7 : ¬ (nel = (0 : Int32)))).1) kk') ?_
            show own_Go p e below K T6 (mkF m 40 #[.val (.ref a), .val (.int t)] [])
            refine own_go (fun _ kk' => XS.iconst X6.here hx rfl (hb hby own_d1_40) kk') ?_
            show own_Go p e below K T6 (mkF m 41 #[.val (.ref a), .val (.int t)] [(.int (1 : Int32))])
            refine own_go (fun _ kk' => XS.goto X6.here hx rfl (pc0 := 41) (pc' := 45) rfl (hb hby own_d1_41) (by decide) (by decide) kk') ?_
            show own_Go p e below K T6 (mkF m 45 #[.val (.ref a), .val (.int t)] [(.int (1 : Int32))])
            exact own_retZ X6 hx hlk hK hret (by decide) (hb hby own_d1_45) (by decide) (by decide) ⟨by rw [show own_ends cr nel t = (1 : Int32) from ((if_neg hc3_1).trans ((if_pos hc9_2).trans ((if_pos hc16_4).trans ((if_pos hc23_5).trans (if_neg hc37_7)))))], N0, e6⟩
        · refine own_go (fun _ kk' => XS.icmpNo X3.here hx rfl (hb hby own_d1_23) rfl (feq (hc23_5 : ¬ (t = (133 : Int32)))).1 kk') ?_
          show own_Go p e below K T3 (mkF m 26 #[.val (.ref a), .val (.int t)] [])
          refine own_go (fun _ kk' => XS.iloadN X3.here hx rfl (hb hby own_d1_26) rfl  kk') ?_
          show own_Go p e below K T3 (mkF m 27 #[.val (.ref a), .val (.int t)] [(.int t)])
          refine own_go (fun _ kk' => XS.sipush X3.here hx rfl (hb hby own_d1_27) kk') ?_
          show own_Go p e below K T3 (mkF m 30 #[.val (.ref a), .val (.int t)] [(.int (8232 : Int32)), (.int t)])
          by_cases hc30_8 : t = (8232 : Int32)
          · refine own_go (fun _ kk' => XS.icmpNo X3.here hx rfl (hb hby own_d1_30) rfl (teq (hc30_8 : t = (8232 : Int32))).2 kk') ?_
            show own_Go p e below K T3 (mkF m 33 #[.val (.ref a), .val (.int t)] [])
            refine own_go (fun _ kk' => XS.aloadN X3.here hx rfl (hb hby own_d1_33) rfl rfl  kk') ?_
            show own_Go p e below K T3 (mkF m 34 #[.val (.ref a), .val (.int t)] [(.ref a)])
            obtain ⟨T9, X9, e9, st9⟩ := getF X3 hx hZ hown (host := "") (Or.inl (hw _ (List.mem_of_getElem? (i := 9) rfl))) Via.refl e3 F2 (g := (mkF m 34 #[.val (.ref a), .val (.int t)] [(.ref a)])) rfl rfl (hb hby own_d1_34)
            refine own_go st9 ?_
            show own_Go p e below K T9 (mkF m 37 #[.val (.ref a), .val (.int t)] [(.int nel)])
            by_cases hc37_10 : nel = (0 : Int32)
            · refine own_go (fun _ kk' => XS.ifYes X9.here hx rfl (pc0 := 37) (pc' := 44) rfl (hb hby own_d1_37) rfl ((if0 _ _).trans (teq (hc37_10 : nel = (0 : Int32))).1) (by decide) (by decide) kk') ?_
              show own_Go p e below K T9 (mkF m 44 #[.val (.ref a), .val (.int t)] [])
              refine own_go (fun _ kk' => XS.iconst X9.here hx rfl (hb hby own_d1_44) kk') ?_
              show own_Go p e below K T9 (mkF m 45 #[.val (.ref a), .val (.int t)] [(.int (0 : Int32))])
              exact own_retZ X9 hx hlk hK hret (by decide) (hb hby own_d1_45) (by decide) (by decide) ⟨by rw [show own_ends cr nel t = (0 : Int32) from ((if_neg hc3_1).trans ((if_pos hc9_2).trans ((if_pos hc16_4).trans ((if_neg hc23_5).trans ((if_pos hc30_8).trans (if_pos hc37_10))))))], N0, e9⟩
            · refine own_go (fun _ kk' => XS.ifNo X9.here hx rfl (hb hby own_d1_37) rfl ((if0 _ _).trans (feq (hc37_10 : ¬ (nel = (0 : Int32)))).1) kk') ?_
              show own_Go p e below K T9 (mkF m 40 #[.val (.ref a), .val (.int t)] [])
              refine own_go (fun _ kk' => XS.iconst X9.here hx rfl (hb hby own_d1_40) kk') ?_
              show own_Go p e below K T9 (mkF m 41 #[.val (.ref a), .val (.int t)] [(.int (1 : Int32))])
              refine own_go (fun _ kk' => XS.goto X9.here hx rfl (pc0 := 41) (pc' := 45) rfl (hb hby own_d1_41) (by decide) (by decide) kk') ?_
              show own_Go p e below K T9 (mkF m 45 #[.val (.ref a), .val (.int t)] [(.int (1 : Int32))])
              exact own_retZ X9 hx hlk hK hret (by decide) (hb hby own_d1_45) (by decide) (by decide) ⟨by rw [show own_ends cr nel t = (1 : Int32) from ((if_neg hc3_1).trans ((if_pos hc9_2).trans ((if_pos hc16_4).trans ((if_neg hc23_5).trans ((if_pos hc30_8).trans (if_neg hc37_10))))))], N0, e9⟩
          · refine own_go (fun _ kk' => XS.icmpYes X3.here hx rfl (pc0 := 30) (pc' := 44) rfl (hb hby own_d1_30) rfl (feq (hc30_8 : ¬ (t = (8232 : Int32)))).2 (by decide) (by decide) kk') ?_
            show own_Go p e below K T3 (mkF m 44 #[.val (.ref a), .val (.int t)] [])
            refine own_go (fun _ kk' => XS.iconst X3.here hx rfl (hb hby own_d1_44) kk') ?_
            show own_Go p e below K T3 (mkF m 45 #[.val (.ref a), .val (.int t)] [(.int (0 : Int32))])
            exact own_retZ X3 hx hlk hK hret (by decide) (hb hby own_d1_45) (by decide) (by decide) ⟨by rw [show own_ends cr nel t = (0 : Int32) from ((if_neg hc3_1).trans ((if_pos hc9_2).trans ((if_pos hc16_4).trans ((if_neg hc23_5).trans (if_neg hc30_8)))))], N0, e3⟩
      · refine own_go (fun _ kk' => XS.ifYes X3.here hx rfl (pc0 := 16) (pc' := 40) rfl (hb hby own_d1_16) rfl ((if0 _ _).trans (feq (hc16_4 : ¬ (cr = (0 : Int32)))).2) (by decide) (by decide) kk') ?_
        show own_Go p e below K T3 (mkF m 40 #[.val (.ref a), .val (.int t)] [])
        refine own_go (fun _ kk' => XS.iconst X3.here hx rfl (hb hby own_d1_40) kk') ?_
        show own_Go p e below K T3 (mkF m 41 #[.val (.ref a), .val (.int t)] [(.int (1 : Int32))])
        refine own_go (fun _ kk' => XS.goto X3.here hx rfl (pc0 := 41) (pc' := 45) rfl (hb hby own_d1_41) (by decide) (by decide) kk') ?_
        show own_Go p e below K T3 (mkF m 45 #[.val (.ref a), .val (.int t)] [(.int (1 : Int32))])
        exact own_retZ X3 hx hlk hK hret (by decide) (hb hby own_d1_45) (by decide) (by decide) ⟨by rw [show own_ends cr nel t = (1 : Int32) from ((if_neg hc3_1).trans ((if_pos hc9_2).trans (if_neg hc16_4)))], N0, e3⟩
    · refine own_go (fun _ kk' => XS.icmpYes X0.here hx rfl (pc0 := 9) (pc' := 19) rfl (hb hby own_d1_9) rfl (feq (hc9_2 : ¬ (t = (13 : Int32)))).2 (by decide) (by decide) kk') ?_
      show own_Go p e below K T0 (mkF m 19 #[.val (.ref a), .val (.int t)] [])
      refine own_go (fun _ kk' => XS.iloadN X0.here hx rfl (hb hby own_d1_19) rfl  kk') ?_
      show own_Go p e below K T0 (mkF m 20 #[.val (.ref a), .val (.int t)] [(.int t)])
      refine own_go (fun _ kk' => XS.sipush X0.here hx rfl (hb hby own_d1_20) kk') ?_
      show own_Go p e below K T0 (mkF m 23 #[.val (.ref a), .val (.int t)] [(.int (133 : Int32)), (.int t)])
      by_cases hc23_11 : t = (133 : Int32)
      · refine own_go (fun _ kk' => XS.icmpYes X0.here hx rfl (pc0 := 23) (pc' := 33) rfl (hb hby own_d1_23) rfl (teq (hc23_11 : t = (133 : Int32))).1 (by decide) (by decide) kk') ?_
        show own_Go p e below K T0 (mkF m 33 #[.val (.ref a), .val (.int t)] [])
        refine own_go (fun _ kk' => XS.aloadN X0.here hx rfl (hb hby own_d1_33) rfl rfl  kk') ?_
        show own_Go p e below K T0 (mkF m 34 #[.val (.ref a), .val (.int t)] [(.ref a)])
        obtain ⟨T12, X12, e12, st12⟩ := getF X0 hx hZ hown (host := "") (Or.inl (hw _ (List.mem_of_getElem? (i := 9) rfl))) Via.refl e0 F2 (g := (mkF m 34 #[.val (.ref a), .val (.int t)] [(.ref a)])) rfl rfl (hb hby own_d1_34)
        refine own_go st12 ?_
        show own_Go p e below K T12 (mkF m 37 #[.val (.ref a), .val (.int t)] [(.int nel)])
        by_cases hc37_13 : nel = (0 : Int32)
        · refine own_go (fun _ kk' => XS.ifYes X12.here hx rfl (pc0 := 37) (pc' := 44) rfl (hb hby own_d1_37) rfl ((if0 _ _).trans (teq (hc37_13 : nel = (0 : Int32))).1) (by decide) (by decide) kk') ?_
          show own_Go p e below K T12 (mkF m 44 #[.val (.ref a), .val (.int t)] [])
          refine own_go (fun _ kk' => XS.iconst X12.here hx rfl (hb hby own_d1_44) kk') ?_
          show own_Go p e below K T12 (mkF m 45 #[.val (.ref a), .val (.int t)] [(.int (0 : Int32))])
          exact own_retZ X12 hx hlk hK hret (by decide) (hb hby own_d1_45) (by decide) (by decide) ⟨by rw [show own_ends cr nel t = (0 : Int32) from ((if_neg hc3_1).trans ((if_neg hc9_2).trans ((if_pos hc23_11).trans (if_pos hc37_13))))], N0, e12⟩
        · refine own_go (fun _ kk' => XS.ifNo X12.here hx rfl (hb hby own_d1_37) rfl ((if0 _ _).trans (feq (hc37_13 : ¬ (nel = (0 : Int32)))).1) kk') ?_
          show own_Go p e below K T12 (mkF m 40 #[.val (.ref a), .val (.int t)] [])
          refine own_go (fun _ kk' => XS.iconst X12.here hx rfl (hb hby own_d1_40) kk') ?_
          show own_Go p e below K T12 (mkF m 41 #[.val (.ref a), .val (.int t)] [(.int (1 : Int32))])
          refine own_go (fun _ kk' => XS.goto X12.here hx rfl (pc0 := 41) (pc' := 45) rfl (hb hby own_d1_41) (by decide) (by decide) kk') ?_
          show own_Go p e below K T12 (mkF m 45 #[.val (.ref a), .val (.int t)] [(.int (1 : Int32))])
          exact own_retZ X12 hx hlk hK hret (by decide) (hb hby own_d1_45) (by decide) (by decide) ⟨by rw [show own_ends cr nel t = (1 : Int32) from ((if_neg hc3_1).trans ((if_neg hc9_2).trans ((if_pos hc23_11).trans (if_neg hc37_13))))], N0, e12⟩
      · refine own_go (fun _ kk' => XS.icmpNo X0.here hx rfl (hb hby own_d1_23) rfl (feq (hc23_11 : ¬ (t = (133 : Int32)))).1 kk') ?_
        show own_Go p e below K T0 (mkF m 26 #[.val (.ref a), .val (.int t)] [])
        refine own_go (fun _ kk' => XS.iloadN X0.here hx rfl (hb hby own_d1_26) rfl  kk') ?_
        show own_Go p e below K T0 (mkF m 27 #[.val (.ref a), .val (.int t)] [(.int t)])
        refine own_go (fun _ kk' => XS.sipush X0.here hx rfl (hb hby own_d1_27) kk') ?_
        show own_Go p e below K T0 (mkF m 30 #[.val (.ref a), .val (.int t)] [(.int (8232 : Int32)), (.int t)])
        by_cases hc30_14 : t = (8232 : Int32)
        · refine own_go (fun _ kk' => XS.icmpNo X0.here hx rfl (hb hby own_d1_30) rfl (teq (hc30_14 : t = (8232 : Int32))).2 kk') ?_
          show own_Go p e below K T0 (mkF m 33 #[.val (.ref a), .val (.int t)] [])
          refine own_go (fun _ kk' => XS.aloadN X0.here hx rfl (hb hby own_d1_33) rfl rfl  kk') ?_
          show own_Go p e below K T0 (mkF m 34 #[.val (.ref a), .val (.int t)] [(.ref a)])
          obtain ⟨T15, X15, e15, st15⟩ := getF X0 hx hZ hown (host := "") (Or.inl (hw _ (List.mem_of_getElem? (i := 9) rfl))) Via.refl e0 F2 (g := (mkF m 34 #[.val (.ref a), .val (.int t)] [(.ref a)])) rfl rfl (hb hby own_d1_34)
          refine own_go st15 ?_
          show own_Go p e below K T15 (mkF m 37 #[.val (.ref a), .val (.int t)] [(.int nel)])
          by_cases hc37_16 : nel = (0 : Int32)
          · refine own_go (fun _ kk' => XS.ifYes X15.here hx rfl (pc0 := 37) (pc' := 44) rfl (hb hby own_d1_37) rfl ((if0 _ _).trans (teq (hc37_16 : nel = (0 : Int32))).1) (by decide) (by decide) kk') ?_
            show own_Go p e below K T15 (mkF m 44 #[.val (.ref a), .val (.int t)] [])
            refine own_go (fun _ kk' => XS.iconst X15.here hx rfl (hb hby own_d1_44) kk') ?_
            show own_Go p e below K T15 (mkF m 45 #[.val (.ref a), .val (.int t)] [(.int (0 : Int32))])
            exact own_retZ X15 hx hlk hK hret (by decide) (hb hby own_d1_45) (by decide) (by decide) ⟨by rw [show own_ends cr nel t = (0 : Int32) from ((if_neg hc3_1).trans ((if_neg hc9_2).trans ((if_neg hc23_11).trans ((if_pos hc30_14).trans (if_pos hc37_16)))))], N0, e15⟩
          · refine own_go (fun _ kk' => XS.ifNo X15.here hx rfl (hb hby own_d1_37) rfl ((if0 _ _).trans (feq (hc37_16 : ¬ (nel = (0 : Int32)))).1) kk') ?_
            show own_Go p e below K T15 (mkF m 40 #[.val (.ref a), .val (.int t)] [])
            refine own_go (fun _ kk' => XS.iconst X15.here hx rfl (hb hby own_d1_40) kk') ?_
            show own_Go p e below K T15 (mkF m 41 #[.val (.ref a), .val (.int t)] [(.int (1 : Int32))])
            refine own_go (fun _ kk' => XS.goto X15.here hx rfl (pc0 := 41) (pc' := 45) rfl (hb hby own_d1_41) (by decide) (by decide) kk') ?_
            show own_Go p e below K T15 (mkF m 45 #[.val (.ref a), .val (.int t)] [(.int (1 : Int32))])
            exact own_retZ X15 hx hlk hK hret (by decide) (hb hby own_d1_45) (by decide) (by decide) ⟨by rw [show own_ends cr nel t = (1 : Int32) from ((if_neg hc3_1).trans ((if_neg hc9_2).trans ((if_neg hc23_11).trans ((if_pos hc30_14).trans (if_neg hc37_16)))))], N0, e15⟩
        · refine own_go (fun _ kk' => XS.icmpYes X0.here hx rfl (pc0 := 30) (pc' := 44) rfl (hb hby own_d1_30) rfl (feq (hc30_14 : ¬ (t = (8232 : Int32)))).2 (by decide) (by decide) kk') ?_
          show own_Go p e below K T0 (mkF m 44 #[.val (.ref a), .val (.int t)] [])
          refine own_go (fun _ kk' => XS.iconst X0.here hx rfl (hb hby own_d1_44) kk') ?_
          show own_Go p e below K T0 (mkF m 45 #[.val (.ref a), .val (.int t)] [(.int (0 : Int32))])
          exact own_retZ X0 hx hlk hK hret (by decide) (hb hby own_d1_45) (by decide) (by decide) ⟨by rw [show own_ends cr nel t = (0 : Int32) from ((if_neg hc3_1).trans ((if_neg hc9_2).trans ((if_neg hc23_11).trans (if_neg hc30_14))))], N0, e0⟩
def own_Q (n0 : Nat) (v : Option Value) (h : Heap) (L : List Loc) : Prop := v = some (.int 1) ∧ Fr n0 L
theorem own_pd0 : parseMethodDescriptor "(C)Z" = some ⟨[.char], some .boolean⟩ := by decide +kernel
/- the law needs frames 1, cells 0, slots 0, locals 13 -/
set_option maxRecDepth 65536 in
set_option maxHeartbeats 40000000 in
theorem own_law (l : Launch) (Z : State) (a0 : Array Value) (hw : ∀ d ∈ tables_1, d.before a0 Z = true) (x0 y0 z0 : Int32) (a1 a2 a3 : Addr) (h0 : Heap) (n0 : Nat) (Z0 : n0 ≤ h0.size) (S1 : Sta Z h0 "com/example/copista/copista/io/ReferenceScanner$LineEnds" "XML_1_0" "Lcom/example/copista/copista/io/ReferenceScanner$LineEnds;" (.ref a1)) (E1 : Exa Z h0 a1 "com/example/copista/copista/io/ReferenceScanner$LineEnds") (F1c : Fld Z h0 a1 "com/example/copista/copista/io/ReferenceScanner$LineEnds" "endsAtCarriageReturn" "Z" (.int (1 : Int32))) (F1n : Fld Z h0 a1 "com/example/copista/copista/io/ReferenceScanner$LineEnds" "endsAtNelAndU2028" "Z" (.int (0 : Int32))) (S2 : Sta Z h0 "com/example/copista/copista/io/ReferenceScanner$LineEnds" "XML_1_1" "Lcom/example/copista/copista/io/ReferenceScanner$LineEnds;" (.ref a2)) (E2 : Exa Z h0 a2 "com/example/copista/copista/io/ReferenceScanner$LineEnds") (F2c : Fld Z h0 a2 "com/example/copista/copista/io/ReferenceScanner$LineEnds" "endsAtCarriageReturn" "Z" (.int (1 : Int32))) (F2n : Fld Z h0 a2 "com/example/copista/copista/io/ReferenceScanner$LineEnds" "endsAtNelAndU2028" "Z" (.int (1 : Int32))) (S3 : Sta Z h0 "com/example/copista/copista/io/ReferenceScanner$LineEnds" "REPLACEMENT_TEXT" "Lcom/example/copista/copista/io/ReferenceScanner$LineEnds;" (.ref a3)) (E3 : Exa Z h0 a3 "com/example/copista/copista/io/ReferenceScanner$LineEnds") (F3c : Fld Z h0 a3 "com/example/copista/copista/io/ReferenceScanner$LineEnds" "endsAtCarriageReturn" "Z" (.int (0 : Int32))) (F3n : Fld Z h0 a3 "com/example/copista/copista/io/ReferenceScanner$LineEnds" "endsAtNelAndU2028" "Z" (.int (0 : Int32))) :
    own_Met l Z x code maxLocals ret tables_1 room_1 #[(.int x0), (.int y0), (.int z0)] h0 (own_Q n0) := by
  refine own_body (plainFor_of_name (by first | (simp [plainName, overriddenIn]; done) | decide +kernel)) (g := fun m => mkF m 0 #[.val (.int x0), .val (.int y0), .val (.int z0), .unset, .unset, .unset, .unset, .unset, .unset, .unset, .unset, .unset] []) (fun m => by first | (simp [entryFrame, mkF, argsToLocals, Value.category, maxLocals]; done) | rfl) ?_
  intro p e s m A below meth c T0 K X0 hx hby hml hown hnm hret hlk hZ e0 hK
  have N0 := Fr.nil n0
  show own_Go p e below K T0 (mkF m 0 #[.val (.int x0), .val (.int y0), .val (.int z0), .unset, .unset, .unset, .unset, .unset, .unset, .unset, .unset, .unset] [])
  refine own_go (fun _ kk' => XS.iloadN X0.here hx rfl (hb hby at_0) rfl  kk') ?_
  show own_Go p e below K T0 (mkF m 1 #[.val (.int x0), .val (.int y0), .val (.int z0), .unset, .unset, .unset, .unset, .unset, .unset, .unset, .unset, .unset] [(.int x0)])
  refine own_go (fun tt' kk' => X0.ldcInt hx hown (mvT hZ (hw _ (List.mem_of_getElem? (i := 0) rfl))) (g := (mkF m 1 #[.val (.int x0), .val (.int y0), .val (.int z0), .unset, .unset, .unset, .unset, .unset, .unset, .unset, .unset, .unset] [(.int x0)])) rfl (hb hby at_1) tt' kk') ?_
  show own_Go p e below K T0 (mkF m 3 #[.val (.int x0), .val (.int y0), .val (.int z0), .unset, .unset, .unset, .unset, .unset, .unset, .unset, .unset, .unset] [(.int (2147483647 : Int32)), (.int x0)])
  refine own_go (fun _ kk' => XS.iand X0.here hx rfl (hb hby at_3) rfl kk') ?_
  show own_Go p e below K T0 (mkF m 4 #[.val (.int x0), .val (.int y0), .val (.int z0), .unset, .unset, .unset, .unset, .unset, .unset, .unset, .unset, .unset] [(.int (x0 &&& (2147483647 : Int32)))])
  refine own_go (fun _ kk' => XS.iconst X0.here hx rfl (hb hby at_4) kk') ?_
  show own_Go p e below K T0 (mkF m 5 #[.val (.int x0), .val (.int y0), .val (.int z0), .unset, .unset, .unset, .unset, .unset, .unset, .unset, .unset, .unset] [(.int (3 : Int32)), (.int (x0 &&& (2147483647 : Int32)))])
  refine own_go (fun _ kk' => XS.irem X0.here hx rfl (hb hby at_5) rfl (by decide) kk') ?_
  show own_Go p e below K T0 (mkF m 6 #[.val (.int x0), .val (.int y0), .val (.int z0), .unset, .unset, .unset, .unset, .unset, .unset, .unset, .unset, .unset] [(.int ((x0 &&& (2147483647 : Int32)) - (x0 &&& (2147483647 : Int32)) / (3 : Int32) * (3 : Int32)))])
  rw [irem_eq_mod]
  show own_Go p e below K T0 (mkF m 6 #[.val (.int x0), .val (.int y0), .val (.int z0), .unset, .unset, .unset, .unset, .unset, .unset, .unset, .unset, .unset] [(.int ((x0 &&& (2147483647 : Int32)) % (3 : Int32)))])
  refine own_go (fun _ kk' => XS.istoreN X0.here hx rfl (hb hby at_6) rfl (l' := #[.val (.int x0), .val (.int y0), .val (.int z0), .val (.int ((x0 &&& (2147483647 : Int32)) % (3 : Int32))), .unset, .unset, .unset, .unset, .unset, .unset, .unset, .unset]) rfl kk') ?_
  show own_Go p e below K T0 (mkF m 7 #[.val (.int x0), .val (.int y0), .val (.int z0), .val (.int ((x0 &&& (2147483647 : Int32)) % (3 : Int32))), .unset, .unset, .unset, .unset, .unset, .unset, .unset, .unset] [])
  refine own_go (fun _ kk' => XS.iloadN X0.here hx rfl (hb hby at_7) rfl  kk') ?_
  show own_Go p e below K T0 (mkF m 8 #[.val (.int x0), .val (.int y0), .val (.int z0), .val (.int ((x0 &&& (2147483647 : Int32)) % (3 : Int32))), .unset, .unset, .unset, .unset, .unset, .unset, .unset, .unset] [(.int ((x0 &&& (2147483647 : Int32)) % (3 : Int32)))])
  by_cases hc8_17 : ((x0 &&& (2147483647 : Int32)) % (3 : Int32)) = (0 : Int32)
  · refine own_go (fun _ kk' => XS.ifNo X0.here hx rfl (hb hby at_8) rfl ((if0 _ _).trans (teq (hc8_17 : ((x0 &&& (2147483647 : Int32)) % (3 : Int32)) = (0 : Int32))).2) kk') ?_
    show own_Go p e below K T0 (mkF m 11 #[.val (.int x0), .val (.int y0), .val (.int z0), .val (.int ((x0 &&& (2147483647 : Int32)) % (3 : Int32))), .unset, .unset, .unset, .unset, .unset, .unset, .unset, .unset] [])
    obtain ⟨T18, X18, e18, st18⟩ := getS2 X0 hx hZ hown (host := "") (Or.inl (hw _ (List.mem_of_getElem? (i := 1) rfl))) Via.refl e0 S1 (g := (mkF m 11 #[.val (.int x0), .val (.int y0), .val (.int z0), .val (.int ((x0 &&& (2147483647 : Int32)) % (3 : Int32))), .unset, .unset, .unset, .unset, .unset, .unset, .unset, .unset] [])) rfl (hb hby at_11)
    refine own_go st18 ?_
    show own_Go p e below K T18 (mkF m 14 #[.val (.int x0), .val (.int y0), .val (.int z0), .val (.int ((x0 &&& (2147483647 : Int32)) % (3 : Int32))), .unset, .unset, .unset, .unset, .unset, .unset, .unset, .unset] [(.ref a1)])
    refine own_go (fun _ kk' => XS.astore X18.here hx rfl (hb hby at_14) rfl rfl (l' := #[.val (.int x0), .val (.int y0), .val (.int z0), .val (.int ((x0 &&& (2147483647 : Int32)) % (3 : Int32))), .val (.ref a1), .unset, .unset, .unset, .unset, .unset, .unset, .unset]) rfl kk') ?_
    show own_Go p e below K T18 (mkF m 16 #[.val (.int x0), .val (.int y0), .val (.int z0), .val (.int ((x0 &&& (2147483647 : Int32)) % (3 : Int32))), .val (.ref a1), .unset, .unset, .unset, .unset, .unset, .unset, .unset] [])
    refine own_go (fun _ kk' => XS.goto X18.here hx rfl (pc0 := 16) (pc' := 37) rfl (hb hby at_16) (by decide) (by decide) kk') ?_
    show own_Go p e below K T18 (mkF m 37 #[.val (.int x0), .val (.int y0), .val (.int z0), .val (.int ((x0 &&& (2147483647 : Int32)) % (3 : Int32))), .val (.ref a1), .unset, .unset, .unset, .unset, .unset, .unset, .unset] [])
    have j120_1 : ∀ (k5 ch : Int32), own_Go p e below K T18 (mkF m 120 #[.val (.int x0), .val (.int y0), .val (.int z0), .val (.int ((x0 &&& (2147483647 : Int32)) % (3 : Int32))), .val (.ref a1), .val (.int k5), .val (.int ch), .unset, .unset, .unset, .unset, .unset] []) := by
      intro k5 ch
      refine own_go (fun _ kk' => XS.iload X18.here hx rfl (hb hby at_120) rfl  kk') ?_
      show own_Go p e below K T18 (mkF m 122 #[.val (.int x0), .val (.int y0), .val (.int z0), .val (.int ((x0 &&& (2147483647 : Int32)) % (3 : Int32))), .val (.ref a1), .val (.int k5), .val (.int ch), .unset, .unset, .unset, .unset, .unset] [(.int ch)])
      refine own_go (fun _ kk' => XS.bipush X18.here hx rfl (hb hby at_122) kk') ?_
      show own_Go p e below K T18 (mkF m 124 #[.val (.int x0), .val (.int y0), .val (.int z0), .val (.int ((x0 &&& (2147483647 : Int32)) % (3 : Int32))), .val (.ref a1), .val (.int k5), .val (.int ch), .unset, .unset, .unset, .unset, .unset] [(.int (10 : Int32)), (.int ch)])
      by_cases hc124_19 : ch = (10 : Int32)
      · refine own_go (fun _ kk' => XS.icmpNo X18.here hx rfl (hb hby at_124) rfl (teq (hc124_19 : ch = (10 : Int32))).2 kk') ?_
        show own_Go p e below K T18 (mkF m 127 #[.val (.int x0), .val (.int y0), .val (.int z0), .val (.int ((x0 &&& (2147483647 : Int32)) % (3 : Int32))), .val (.ref a1), .val (.int k5), .val (.int ch), .unset, .unset, .unset, .unset, .unset] [])
        refine own_go (fun _ kk' => XS.iconst X18.here hx rfl (hb hby at_127) kk') ?_
        show own_Go p e below K T18 (mkF m 128 #[.val (.int x0), .val (.int y0), .val (.int z0), .val (.int ((x0 &&& (2147483647 : Int32)) % (3 : Int32))), .val (.ref a1), .val (.int k5), .val (.int ch), .unset, .unset, .unset, .unset, .unset] [(.int (1 : Int32))])
        refine own_go (fun _ kk' => XS.goto X18.here hx rfl (pc0 := 128) (pc' := 132) rfl (hb hby at_128) (by decide) (by decide) kk') ?_
        show own_Go p e below K T18 (mkF m 132 #[.val (.int x0), .val (.int y0), .val (.int z0), .val (.int ((x0 &&& (2147483647 : Int32)) % (3 : Int32))), .val (.ref a1), .val (.int k5), .val (.int ch), .unset, .unset, .unset, .unset, .unset] [(.int (1 : Int32))])
        refine own_go (fun _ kk' => XS.istore X18.here hx rfl (hb hby at_132) rfl (l' := #[.val (.int x0), .val (.int y0), .val (.int z0), .val (.int ((x0 &&& (2147483647 : Int32)) % (3 : Int32))), .val (.ref a1), .val (.int k5), .val (.int ch), .val (.int (1 : Int32)), .unset, .unset, .unset, .unset]) rfl kk') ?_
        show own_Go p e below K T18 (mkF m 134 #[.val (.int x0), .val (.int y0), .val (.int z0), .val (.int ((x0 &&& (2147483647 : Int32)) % (3 : Int32))), .val (.ref a1), .val (.int k5), .val (.int ch), .val (.int (1 : Int32)), .unset, .unset, .unset, .unset] [])
        refine own_go (fun _ kk' => XS.iload X18.here hx rfl (hb hby at_134) rfl  kk') ?_
        show own_Go p e below K T18 (mkF m 136 #[.val (.int x0), .val (.int y0), .val (.int z0), .val (.int ((x0 &&& (2147483647 : Int32)) % (3 : Int32))), .val (.ref a1), .val (.int k5), .val (.int ch), .val (.int (1 : Int32)), .unset, .unset, .unset, .unset] [(.int ch)])
        refine own_go (fun _ kk' => XS.bipush X18.here hx rfl (hb hby at_136) kk') ?_
        show own_Go p e below K T18 (mkF m 138 #[.val (.int x0), .val (.int y0), .val (.int z0), .val (.int ((x0 &&& (2147483647 : Int32)) % (3 : Int32))), .val (.ref a1), .val (.int k5), .val (.int ch), .val (.int (1 : Int32)), .unset, .unset, .unset, .unset] [(.int (13 : Int32)), (.int ch)])
        refine own_go (fun _ kk' => XS.icmpYes X18.here hx rfl (pc0 := 138) (pc' := 145) rfl (hb hby at_138) rfl (feq ((fun q => absurd (hc124_19.symm.trans q) (by decide)) : ¬ (ch = (13 : Int32)))).2 (by decide) (by decide) kk') ?_
        show own_Go p e below K T18 (mkF m 145 #[.val (.int x0), .val (.int y0), .val (.int z0), .val (.int ((x0 &&& (2147483647 : Int32)) % (3 : Int32))), .val (.ref a1), .val (.int k5), .val (.int ch), .val (.int (1 : Int32)), .unset, .unset, .unset, .unset] [])
        refine own_go (fun _ kk' => XS.iconst X18.here hx rfl (hb hby at_145) kk') ?_
        show own_Go p e below K T18 (mkF m 146 #[.val (.int x0), .val (.int y0), .val (.int z0), .val (.int ((x0 &&& (2147483647 : Int32)) % (3 : Int32))), .val (.ref a1), .val (.int k5), .val (.int ch), .val (.int (1 : Int32)), .unset, .unset, .unset, .unset] [(.int (0 : Int32))])
        refine own_go (fun _ kk' => XS.istore X18.here hx rfl (hb hby at_146) rfl (l' := #[.val (.int x0), .val (.int y0), .val (.int z0), .val (.int ((x0 &&& (2147483647 : Int32)) % (3 : Int32))), .val (.ref a1), .val (.int k5), .val (.int ch), .val (.int (1 : Int32)), .val (.int (0 : Int32)), .unset, .unset, .unset]) rfl kk') ?_
        show own_Go p e below K T18 (mkF m 148 #[.val (.int x0), .val (.int y0), .val (.int z0), .val (.int ((x0 &&& (2147483647 : Int32)) % (3 : Int32))), .val (.ref a1), .val (.int k5), .val (.int ch), .val (.int (1 : Int32)), .val (.int (0 : Int32)), .unset, .unset, .unset] [])
        refine own_go (fun _ kk' => XS.iload X18.here hx rfl (hb hby at_148) rfl  kk') ?_
        show own_Go p e below K T18 (mkF m 150 #[.val (.int x0), .val (.int y0), .val (.int z0), .val (.int ((x0 &&& (2147483647 : Int32)) % (3 : Int32))), .val (.ref a1), .val (.int k5), .val (.int ch), .val (.int (1 : Int32)), .val (.int (0 : Int32)), .unset, .unset, .unset] [(.int ch)])
        refine own_go (fun _ kk' => XS.sipush X18.here hx rfl (hb hby at_150) kk') ?_
        show own_Go p e below K T18 (mkF m 153 #[.val (.int x0), .val (.int y0), .val (.int z0), .val (.int ((x0 &&& (2147483647 : Int32)) % (3 : Int32))), .val (.ref a1), .val (.int k5), .val (.int ch), .val (.int (1 : Int32)), .val (.int (0 : Int32)), .unset, .unset, .unset] [(.int (133 : Int32)), (.int ch)])
        refine own_go (fun _ kk' => XS.icmpYes X18.here hx rfl (pc0 := 153) (pc' := 160) rfl (hb hby at_153) rfl (feq ((fun q => absurd (hc124_19.symm.trans q) (by decide)) : ¬ (ch = (133 : Int32)))).2 (by decide) (by decide) kk') ?_
        show own_Go p e below K T18 (mkF m 160 #[.val (.int x0), .val (.int y0), .val (.int z0), .val (.int ((x0 &&& (2147483647 : Int32)) % (3 : Int32))), .val (.ref a1), .val (.int k5), .val (.int ch), .val (.int (1 : Int32)), .val (.int (0 : Int32)), .unset, .unset, .unset] [])
        refine own_go (fun _ kk' => XS.iconst X18.here hx rfl (hb hby at_160) kk') ?_
        show own_Go p e below K T18 (mkF m 161 #[.val (.int x0), .val (.int y0), .val (.int z0), .val (.int ((x0 &&& (2147483647 : Int32)) % (3 : Int32))), .val (.ref a1), .val (.int k5), .val (.int ch), .val (.int (1 : Int32)), .val (.int (0 : Int32)), .unset, .unset, .unset] [(.int (0 : Int32))])
        refine own_go (fun _ kk' => XS.istore X18.here hx rfl (hb hby at_161) rfl (l' := #[.val (.int x0), .val (.int y0), .val (.int z0), .val (.int ((x0 &&& (2147483647 : Int32)) % (3 : Int32))), .val (.ref a1), .val (.int k5), .val (.int ch), .val (.int (1 : Int32)), .val (.int (0 : Int32)), .val (.int (0 : Int32)), .unset, .unset]) rfl kk') ?_
        show own_Go p e below K T18 (mkF m 163 #[.val (.int x0), .val (.int y0), .val (.int z0), .val (.int ((x0 &&& (2147483647 : Int32)) % (3 : Int32))), .val (.ref a1), .val (.int k5), .val (.int ch), .val (.int (1 : Int32)), .val (.int (0 : Int32)), .val (.int (0 : Int32)), .unset, .unset] [])
        refine own_go (fun _ kk' => XS.iload X18.here hx rfl (hb hby at_163) rfl  kk') ?_
        show own_Go p e below K T18 (mkF m 165 #[.val (.int x0), .val (.int y0), .val (.int z0), .val (.int ((x0 &&& (2147483647 : Int32)) % (3 : Int32))), .val (.ref a1), .val (.int k5), .val (.int ch), .val (.int (1 : Int32)), .val (.int (0 : Int32)), .val (.int (0 : Int32)), .unset, .unset] [(.int ch)])
        refine own_go (fun _ kk' => XS.sipush X18.here hx rfl (hb hby at_165) kk') ?_
        show own_Go p e below K T18 (mkF m 168 #[.val (.int x0), .val (.int y0), .val (.int z0), .val (.int ((x0 &&& (2147483647 : Int32)) % (3 : Int32))), .val (.ref a1), .val (.int k5), .val (.int ch), .val (.int (1 : Int32)), .val (.int (0 : Int32)), .val (.int (0 : Int32)), .unset, .unset] [(.int (8232 : Int32)), (.int ch)])
        refine own_go (fun _ kk' => XS.icmpYes X18.here hx rfl (pc0 := 168) (pc' := 175) rfl (hb hby at_168) rfl (feq ((fun q => absurd (hc124_19.symm.trans q) (by decide)) : ¬ (ch = (8232 : Int32)))).2 (by decide) (by decide) kk') ?_
        show own_Go p e below K T18 (mkF m 175 #[.val (.int x0), .val (.int y0), .val (.int z0), .val (.int ((x0 &&& (2147483647 : Int32)) % (3 : Int32))), .val (.ref a1), .val (.int k5), .val (.int ch), .val (.int (1 : Int32)), .val (.int (0 : Int32)), .val (.int (0 : Int32)), .unset, .unset] [])
        refine own_go (fun _ kk' => XS.iconst X18.here hx rfl (hb hby at_175) kk') ?_
        show own_Go p e below K T18 (mkF m 176 #[.val (.int x0), .val (.int y0), .val (.int z0), .val (.int ((x0 &&& (2147483647 : Int32)) % (3 : Int32))), .val (.ref a1), .val (.int k5), .val (.int ch), .val (.int (1 : Int32)), .val (.int (0 : Int32)), .val (.int (0 : Int32)), .unset, .unset] [(.int (0 : Int32))])
        refine own_go (fun _ kk' => XS.istore X18.here hx rfl (hb hby at_176) rfl (l' := #[.val (.int x0), .val (.int y0), .val (.int z0), .val (.int ((x0 &&& (2147483647 : Int32)) % (3 : Int32))), .val (.ref a1), .val (.int k5), .val (.int ch), .val (.int (1 : Int32)), .val (.int (0 : Int32)), .val (.int (0 : Int32)), .val (.int (0 : Int32)), .unset]) rfl kk') ?_
        show own_Go p e below K T18 (mkF m 178 #[.val (.int x0), .val (.int y0), .val (.int z0), .val (.int ((x0 &&& (2147483647 : Int32)) % (3 : Int32))), .val (.ref a1), .val (.int k5), .val (.int ch), .val (.int (1 : Int32)), .val (.int (0 : Int32)), .val (.int (0 : Int32)), .val (.int (0 : Int32)), .unset] [])
        refine own_go (fun _ kk' => XS.iloadN X18.here hx rfl (hb hby at_178) rfl  kk') ?_
        show own_Go p e below K T18 (mkF m 179 #[.val (.int x0), .val (.int y0), .val (.int z0), .val (.int ((x0 &&& (2147483647 : Int32)) % (3 : Int32))), .val (.ref a1), .val (.int k5), .val (.int ch), .val (.int (1 : Int32)), .val (.int (0 : Int32)), .val (.int (0 : Int32)), .val (.int (0 : Int32)), .unset] [(.int ((x0 &&& (2147483647 : Int32)) % (3 : Int32)))])
        refine own_go (fun _ kk' => XS.ifNo X18.here hx rfl (hb hby at_179) rfl ((if0 _ _).trans (teq (hc8_17 : ((x0 &&& (2147483647 : Int32)) % (3 : Int32)) = (0 : Int32))).2) kk') ?_
        show own_Go p e below K T18 (mkF m 182 #[.val (.int x0), .val (.int y0), .val (.int z0), .val (.int ((x0 &&& (2147483647 : Int32)) % (3 : Int32))), .val (.ref a1), .val (.int k5), .val (.int ch), .val (.int (1 : Int32)), .val (.int (0 : Int32)), .val (.int (0 : Int32)), .val (.int (0 : Int32)), .unset] [])
        refine own_go (fun _ kk' => XS.iload X18.here hx rfl (hb hby at_182) rfl  kk') ?_
        show own_Go p e below K T18 (mkF m 184 #[.val (.int x0), .val (.int y0), .val (.int z0), .val (.int ((x0 &&& (2147483647 : Int32)) % (3 : Int32))), .val (.ref a1), .val (.int k5), .val (.int ch), .val (.int (1 : Int32)), .val (.int (0 : Int32)), .val (.int (0 : Int32)), .val (.int (0 : Int32)), .unset] [(.int (1 : Int32))])
        refine own_go (fun _ kk' => XS.ifYes X18.here hx rfl (pc0 := 184) (pc' := 192) rfl (hb hby at_184) rfl ((if0 _ _).trans (feq ((by decide) : ¬ ((1 : Int32) = (0 : Int32)))).2) (by decide) (by decide) kk') ?_
        show own_Go p e below K T18 (mkF m 192 #[.val (.int x0), .val (.int y0), .val (.int z0), .val (.int ((x0 &&& (2147483647 : Int32)) % (3 : Int32))), .val (.ref a1), .val (.int k5), .val (.int ch), .val (.int (1 : Int32)), .val (.int (0 : Int32)), .val (.int (0 : Int32)), .val (.int (0 : Int32)), .unset] [])
        refine own_go (fun _ kk' => XS.iconst X18.here hx rfl (hb hby at_192) kk') ?_
        show own_Go p e below K T18 (mkF m 193 #[.val (.int x0), .val (.int y0), .val (.int z0), .val (.int ((x0 &&& (2147483647 : Int32)) % (3 : Int32))), .val (.ref a1), .val (.int k5), .val (.int ch), .val (.int (1 : Int32)), .val (.int (0 : Int32)), .val (.int (0 : Int32)), .val (.int (0 : Int32)), .unset] [(.int (1 : Int32))])
        refine own_go (fun _ kk' => XS.goto X18.here hx rfl (pc0 := 193) (pc' := 197) rfl (hb hby at_193) (by decide) (by decide) kk') ?_
        show own_Go p e below K T18 (mkF m 197 #[.val (.int x0), .val (.int y0), .val (.int z0), .val (.int ((x0 &&& (2147483647 : Int32)) % (3 : Int32))), .val (.ref a1), .val (.int k5), .val (.int ch), .val (.int (1 : Int32)), .val (.int (0 : Int32)), .val (.int (0 : Int32)), .val (.int (0 : Int32)), .unset] [(.int (1 : Int32))])
        refine own_go (fun _ kk' => XS.istore X18.here hx rfl (hb hby at_197) rfl (l' := #[.val (.int x0), .val (.int y0), .val (.int z0), .val (.int ((x0 &&& (2147483647 : Int32)) % (3 : Int32))), .val (.ref a1), .val (.int k5), .val (.int ch), .val (.int (1 : Int32)), .val (.int (0 : Int32)), .val (.int (0 : Int32)), .val (.int (0 : Int32)), .val (.int (1 : Int32))]) rfl kk') ?_
        show own_Go p e below K T18 (mkF m 199 #[.val (.int x0), .val (.int y0), .val (.int z0), .val (.int ((x0 &&& (2147483647 : Int32)) % (3 : Int32))), .val (.ref a1), .val (.int k5), .val (.int ch), .val (.int (1 : Int32)), .val (.int (0 : Int32)), .val (.int (0 : Int32)), .val (.int (0 : Int32)), .val (.int (1 : Int32))] [])
        refine own_go (fun _ kk' => XS.goto X18.here hx rfl (pc0 := 199) (pc' := 241) rfl (hb hby at_199) (by decide) (by decide) kk') ?_
        show own_Go p e below K T18 (mkF m 241 #[.val (.int x0), .val (.int y0), .val (.int z0), .val (.int ((x0 &&& (2147483647 : Int32)) % (3 : Int32))), .val (.ref a1), .val (.int k5), .val (.int ch), .val (.int (1 : Int32)), .val (.int (0 : Int32)), .val (.int (0 : Int32)), .val (.int (0 : Int32)), .val (.int (1 : Int32))] [])
        refine own_go (fun _ kk' => XS.aload X18.here hx rfl (hb hby at_241) rfl rfl  kk') ?_
        show own_Go p e below K T18 (mkF m 243 #[.val (.int x0), .val (.int y0), .val (.int z0), .val (.int ((x0 &&& (2147483647 : Int32)) % (3 : Int32))), .val (.ref a1), .val (.int k5), .val (.int ch), .val (.int (1 : Int32)), .val (.int (0 : Int32)), .val (.int (0 : Int32)), .val (.int (0 : Int32)), .val (.int (1 : Int32))] [(.ref a1)])
        refine own_go (fun _ kk' => XS.iload X18.here hx rfl (hb hby at_243) rfl  kk') ?_
        show own_Go p e below K T18 (mkF m 245 #[.val (.int x0), .val (.int y0), .val (.int z0), .val (.int ((x0 &&& (2147483647 : Int32)) % (3 : Int32))), .val (.ref a1), .val (.int k5), .val (.int ch), .val (.int (1 : Int32)), .val (.int (0 : Int32)), .val (.int (0 : Int32)), .val (.int (0 : Int32)), .val (.int (1 : Int32))] [(.int ch), (.ref a1)])
        refine own_callV X18 hx hZ (C := "com/example/copista/copista/io/ReferenceScanner$LineEnds") (y := (⟨"com/example/copista/copista/io/ReferenceScanner$LineEnds", "endsLine", "(C)Z"⟩ : MethodName)) (z := (⟨"com/example/copista/copista/io/ReferenceScanner$LineEnds", "endsLine", "(C)Z"⟩ : MethodName)) hown (hw _ (List.mem_of_getElem? (i := 4) rfl)) (hw _ (List.mem_of_getElem? (i := 5) rfl)) (notFace_of_selects (args := #[]) (mvT hZ (hw _ (List.mem_of_getElem? (i := 7) rfl)))) (hw _ (List.mem_of_getElem? (i := 7) rfl)) (hw _ (List.mem_of_getElem? (i := 6) rfl)) (hw _ (List.mem_of_getElem? (i := 2) rfl)) (hw _ (List.mem_of_getElem? (i := 8) rfl)) (by decide) e18 (rm := own_rme) (a := a1) E1 (argsL := [(.int ch)]) (rest := []) (own_me l Z a0 hw a1 ch (1 : Int32) (0 : Int32) h0 n0 Z0 F1c F1n) (W := 0) (by decide) (by decide) (by decide) (by decide) (g := (mkF m 245 #[.val (.int x0), .val (.int y0), .val (.int z0), .val (.int ((x0 &&& (2147483647 : Int32)) % (3 : Int32))), .val (.ref a1), .val (.int k5), .val (.int ch), .val (.int (1 : Int32)), .val (.int (0 : Int32)), .val (.int (0 : Int32)), .val (.int (0 : Int32)), .val (.int (1 : Int32))] [(.int ch), (.ref a1)])) rfl (by rw [hml]; rfl) (lenOf own_pd0 rfl) rfl (by show 2 * 0 + _ ≤ _; exact Nat.le_of_eq rfl) (hb hby at_245) ?_
        intro v20 T20 L20 X20 hQ20
        obtain ⟨rfl, Nq20, e20⟩ := hQ20
        have N20 := Fr.app N0 Nq20
        show own_Go p e below K T20 (mkF m 248 #[.val (.int x0), .val (.int y0), .val (.int z0), .val (.int ((x0 &&& (2147483647 : Int32)) % (3 : Int32))), .val (.ref a1), .val (.int k5), .val (.int ch), .val (.int (1 : Int32)), .val (.int (0 : Int32)), .val (.int (0 : Int32)), .val (.int (0 : Int32)), .val (.int (1 : Int32))] [(.int (own_ends (1 : Int32) (0 : Int32) ch))])
        refine own_go (fun _ kk' => XS.iload X20.here hx rfl (hb hby at_248) rfl  kk') ?_
        show own_Go p e below K T20 (mkF m 250 #[.val (.int x0), .val (.int y0), .val (.int z0), .val (.int ((x0 &&& (2147483647 : Int32)) % (3 : Int32))), .val (.ref a1), .val (.int k5), .val (.int ch), .val (.int (1 : Int32)), .val (.int (0 : Int32)), .val (.int (0 : Int32)), .val (.int (0 : Int32)), .val (.int (1 : Int32))] [(.int (1 : Int32)), (.int (own_ends (1 : Int32) (0 : Int32) ch))])
        refine own_go (fun _ kk' => XS.icmpNo X20.here hx rfl (hb hby at_250) rfl (teq ((by rw [hc124_19]; decide) : (own_ends (1 : Int32) (0 : Int32) ch) = (1 : Int32))).2 kk') ?_
        show own_Go p e below K T20 (mkF m 253 #[.val (.int x0), .val (.int y0), .val (.int z0), .val (.int ((x0 &&& (2147483647 : Int32)) % (3 : Int32))), .val (.ref a1), .val (.int k5), .val (.int ch), .val (.int (1 : Int32)), .val (.int (0 : Int32)), .val (.int (0 : Int32)), .val (.int (0 : Int32)), .val (.int (1 : Int32))] [])
        refine own_go (fun _ kk' => XS.iconst X20.here hx rfl (hb hby at_253) kk') ?_
        show own_Go p e below K T20 (mkF m 254 #[.val (.int x0), .val (.int y0), .val (.int z0), .val (.int ((x0 &&& (2147483647 : Int32)) % (3 : Int32))), .val (.ref a1), .val (.int k5), .val (.int ch), .val (.int (1 : Int32)), .val (.int (0 : Int32)), .val (.int (0 : Int32)), .val (.int (0 : Int32)), .val (.int (1 : Int32))] [(.int (1 : Int32))])
        refine own_go (fun _ kk' => XS.goto X20.here hx rfl (pc0 := 254) (pc' := 258) rfl (hb hby at_254) (by decide) (by decide) kk') ?_
        show own_Go p e below K T20 (mkF m 258 #[.val (.int x0), .val (.int y0), .val (.int z0), .val (.int ((x0 &&& (2147483647 : Int32)) % (3 : Int32))), .val (.ref a1), .val (.int k5), .val (.int ch), .val (.int (1 : Int32)), .val (.int (0 : Int32)), .val (.int (0 : Int32)), .val (.int (0 : Int32)), .val (.int (1 : Int32))] [(.int (1 : Int32))])
        exact own_retZ X20 hx hlk hK hret (by decide) (hb hby at_258) (by decide) (by decide) ⟨rfl, N20⟩
      · refine own_go (fun _ kk' => XS.icmpYes X18.here hx rfl (pc0 := 124) (pc' := 131) rfl (hb hby at_124) rfl (feq (hc124_19 : ¬ (ch = (10 : Int32)))).2 (by decide) (by decide) kk') ?_
        show own_Go p e below K T18 (mkF m 131 #[.val (.int x0), .val (.int y0), .val (.int z0), .val (.int ((x0 &&& (2147483647 : Int32)) % (3 : Int32))), .val (.ref a1), .val (.int k5), .val (.int ch), .unset, .unset, .unset, .unset, .unset] [])
        refine own_go (fun _ kk' => XS.iconst X18.here hx rfl (hb hby at_131) kk') ?_
        show own_Go p e below K T18 (mkF m 132 #[.val (.int x0), .val (.int y0), .val (.int z0), .val (.int ((x0 &&& (2147483647 : Int32)) % (3 : Int32))), .val (.ref a1), .val (.int k5), .val (.int ch), .unset, .unset, .unset, .unset, .unset] [(.int (0 : Int32))])
        refine own_go (fun _ kk' => XS.istore X18.here hx rfl (hb hby at_132) rfl (l' := #[.val (.int x0), .val (.int y0), .val (.int z0), .val (.int ((x0 &&& (2147483647 : Int32)) % (3 : Int32))), .val (.ref a1), .val (.int k5), .val (.int ch), .val (.int (0 : Int32)), .unset, .unset, .unset, .unset]) rfl kk') ?_
        show own_Go p e below K T18 (mkF m 134 #[.val (.int x0), .val (.int y0), .val (.int z0), .val (.int ((x0 &&& (2147483647 : Int32)) % (3 : Int32))), .val (.ref a1), .val (.int k5), .val (.int ch), .val (.int (0 : Int32)), .unset, .unset, .unset, .unset] [])
        refine own_go (fun _ kk' => XS.iload X18.here hx rfl (hb hby at_134) rfl  kk') ?_
        show own_Go p e below K T18 (mkF m 136 #[.val (.int x0), .val (.int y0), .val (.int z0), .val (.int ((x0 &&& (2147483647 : Int32)) % (3 : Int32))), .val (.ref a1), .val (.int k5), .val (.int ch), .val (.int (0 : Int32)), .unset, .unset, .unset, .unset] [(.int ch)])
        refine own_go (fun _ kk' => XS.bipush X18.here hx rfl (hb hby at_136) kk') ?_
        show own_Go p e below K T18 (mkF m 138 #[.val (.int x0), .val (.int y0), .val (.int z0), .val (.int ((x0 &&& (2147483647 : Int32)) % (3 : Int32))), .val (.ref a1), .val (.int k5), .val (.int ch), .val (.int (0 : Int32)), .unset, .unset, .unset, .unset] [(.int (13 : Int32)), (.int ch)])
        by_cases hc138_21 : ch = (13 : Int32)
        · refine own_go (fun _ kk' => XS.icmpNo X18.here hx rfl (hb hby at_138) rfl (teq (hc138_21 : ch = (13 : Int32))).2 kk') ?_
          show own_Go p e below K T18 (mkF m 141 #[.val (.int x0), .val (.int y0), .val (.int z0), .val (.int ((x0 &&& (2147483647 : Int32)) % (3 : Int32))), .val (.ref a1), .val (.int k5), .val (.int ch), .val (.int (0 : Int32)), .unset, .unset, .unset, .unset] [])
          refine own_go (fun _ kk' => XS.iconst X18.here hx rfl (hb hby at_141) kk') ?_
          show own_Go p e below K T18 (mkF m 142 #[.val (.int x0), .val (.int y0), .val (.int z0), .val (.int ((x0 &&& (2147483647 : Int32)) % (3 : Int32))), .val (.ref a1), .val (.int k5), .val (.int ch), .val (.int (0 : Int32)), .unset, .unset, .unset, .unset] [(.int (1 : Int32))])
          refine own_go (fun _ kk' => XS.goto X18.here hx rfl (pc0 := 142) (pc' := 146) rfl (hb hby at_142) (by decide) (by decide) kk') ?_
          show own_Go p e below K T18 (mkF m 146 #[.val (.int x0), .val (.int y0), .val (.int z0), .val (.int ((x0 &&& (2147483647 : Int32)) % (3 : Int32))), .val (.ref a1), .val (.int k5), .val (.int ch), .val (.int (0 : Int32)), .unset, .unset, .unset, .unset] [(.int (1 : Int32))])
          refine own_go (fun _ kk' => XS.istore X18.here hx rfl (hb hby at_146) rfl (l' := #[.val (.int x0), .val (.int y0), .val (.int z0), .val (.int ((x0 &&& (2147483647 : Int32)) % (3 : Int32))), .val (.ref a1), .val (.int k5), .val (.int ch), .val (.int (0 : Int32)), .val (.int (1 : Int32)), .unset, .unset, .unset]) rfl kk') ?_
          show own_Go p e below K T18 (mkF m 148 #[.val (.int x0), .val (.int y0), .val (.int z0), .val (.int ((x0 &&& (2147483647 : Int32)) % (3 : Int32))), .val (.ref a1), .val (.int k5), .val (.int ch), .val (.int (0 : Int32)), .val (.int (1 : Int32)), .unset, .unset, .unset] [])
          refine own_go (fun _ kk' => XS.iload X18.here hx rfl (hb hby at_148) rfl  kk') ?_
          show own_Go p e below K T18 (mkF m 150 #[.val (.int x0), .val (.int y0), .val (.int z0), .val (.int ((x0 &&& (2147483647 : Int32)) % (3 : Int32))), .val (.ref a1), .val (.int k5), .val (.int ch), .val (.int (0 : Int32)), .val (.int (1 : Int32)), .unset, .unset, .unset] [(.int ch)])
          refine own_go (fun _ kk' => XS.sipush X18.here hx rfl (hb hby at_150) kk') ?_
          show own_Go p e below K T18 (mkF m 153 #[.val (.int x0), .val (.int y0), .val (.int z0), .val (.int ((x0 &&& (2147483647 : Int32)) % (3 : Int32))), .val (.ref a1), .val (.int k5), .val (.int ch), .val (.int (0 : Int32)), .val (.int (1 : Int32)), .unset, .unset, .unset] [(.int (133 : Int32)), (.int ch)])
          refine own_go (fun _ kk' => XS.icmpYes X18.here hx rfl (pc0 := 153) (pc' := 160) rfl (hb hby at_153) rfl (feq ((fun q => absurd (hc138_21.symm.trans q) (by decide)) : ¬ (ch = (133 : Int32)))).2 (by decide) (by decide) kk') ?_
          show own_Go p e below K T18 (mkF m 160 #[.val (.int x0), .val (.int y0), .val (.int z0), .val (.int ((x0 &&& (2147483647 : Int32)) % (3 : Int32))), .val (.ref a1), .val (.int k5), .val (.int ch), .val (.int (0 : Int32)), .val (.int (1 : Int32)), .unset, .unset, .unset] [])
          refine own_go (fun _ kk' => XS.iconst X18.here hx rfl (hb hby at_160) kk') ?_
          show own_Go p e below K T18 (mkF m 161 #[.val (.int x0), .val (.int y0), .val (.int z0), .val (.int ((x0 &&& (2147483647 : Int32)) % (3 : Int32))), .val (.ref a1), .val (.int k5), .val (.int ch), .val (.int (0 : Int32)), .val (.int (1 : Int32)), .unset, .unset, .unset] [(.int (0 : Int32))])
          refine own_go (fun _ kk' => XS.istore X18.here hx rfl (hb hby at_161) rfl (l' := #[.val (.int x0), .val (.int y0), .val (.int z0), .val (.int ((x0 &&& (2147483647 : Int32)) % (3 : Int32))), .val (.ref a1), .val (.int k5), .val (.int ch), .val (.int (0 : Int32)), .val (.int (1 : Int32)), .val (.int (0 : Int32)), .unset, .unset]) rfl kk') ?_
          show own_Go p e below K T18 (mkF m 163 #[.val (.int x0), .val (.int y0), .val (.int z0), .val (.int ((x0 &&& (2147483647 : Int32)) % (3 : Int32))), .val (.ref a1), .val (.int k5), .val (.int ch), .val (.int (0 : Int32)), .val (.int (1 : Int32)), .val (.int (0 : Int32)), .unset, .unset] [])
          refine own_go (fun _ kk' => XS.iload X18.here hx rfl (hb hby at_163) rfl  kk') ?_
          show own_Go p e below K T18 (mkF m 165 #[.val (.int x0), .val (.int y0), .val (.int z0), .val (.int ((x0 &&& (2147483647 : Int32)) % (3 : Int32))), .val (.ref a1), .val (.int k5), .val (.int ch), .val (.int (0 : Int32)), .val (.int (1 : Int32)), .val (.int (0 : Int32)), .unset, .unset] [(.int ch)])
          refine own_go (fun _ kk' => XS.sipush X18.here hx rfl (hb hby at_165) kk') ?_
          show own_Go p e below K T18 (mkF m 168 #[.val (.int x0), .val (.int y0), .val (.int z0), .val (.int ((x0 &&& (2147483647 : Int32)) % (3 : Int32))), .val (.ref a1), .val (.int k5), .val (.int ch), .val (.int (0 : Int32)), .val (.int (1 : Int32)), .val (.int (0 : Int32)), .unset, .unset] [(.int (8232 : Int32)), (.int ch)])
          refine own_go (fun _ kk' => XS.icmpYes X18.here hx rfl (pc0 := 168) (pc' := 175) rfl (hb hby at_168) rfl (feq ((fun q => absurd (hc138_21.symm.trans q) (by decide)) : ¬ (ch = (8232 : Int32)))).2 (by decide) (by decide) kk') ?_
          show own_Go p e below K T18 (mkF m 175 #[.val (.int x0), .val (.int y0), .val (.int z0), .val (.int ((x0 &&& (2147483647 : Int32)) % (3 : Int32))), .val (.ref a1), .val (.int k5), .val (.int ch), .val (.int (0 : Int32)), .val (.int (1 : Int32)), .val (.int (0 : Int32)), .unset, .unset] [])
          refine own_go (fun _ kk' => XS.iconst X18.here hx rfl (hb hby at_175) kk') ?_
          show own_Go p e below K T18 (mkF m 176 #[.val (.int x0), .val (.int y0), .val (.int z0), .val (.int ((x0 &&& (2147483647 : Int32)) % (3 : Int32))), .val (.ref a1), .val (.int k5), .val (.int ch), .val (.int (0 : Int32)), .val (.int (1 : Int32)), .val (.int (0 : Int32)), .unset, .unset] [(.int (0 : Int32))])
          refine own_go (fun _ kk' => XS.istore X18.here hx rfl (hb hby at_176) rfl (l' := #[.val (.int x0), .val (.int y0), .val (.int z0), .val (.int ((x0 &&& (2147483647 : Int32)) % (3 : Int32))), .val (.ref a1), .val (.int k5), .val (.int ch), .val (.int (0 : Int32)), .val (.int (1 : Int32)), .val (.int (0 : Int32)), .val (.int (0 : Int32)), .unset]) rfl kk') ?_
          show own_Go p e below K T18 (mkF m 178 #[.val (.int x0), .val (.int y0), .val (.int z0), .val (.int ((x0 &&& (2147483647 : Int32)) % (3 : Int32))), .val (.ref a1), .val (.int k5), .val (.int ch), .val (.int (0 : Int32)), .val (.int (1 : Int32)), .val (.int (0 : Int32)), .val (.int (0 : Int32)), .unset] [])
          refine own_go (fun _ kk' => XS.iloadN X18.here hx rfl (hb hby at_178) rfl  kk') ?_
          show own_Go p e below K T18 (mkF m 179 #[.val (.int x0), .val (.int y0), .val (.int z0), .val (.int ((x0 &&& (2147483647 : Int32)) % (3 : Int32))), .val (.ref a1), .val (.int k5), .val (.int ch), .val (.int (0 : Int32)), .val (.int (1 : Int32)), .val (.int (0 : Int32)), .val (.int (0 : Int32)), .unset] [(.int ((x0 &&& (2147483647 : Int32)) % (3 : Int32)))])
          refine own_go (fun _ kk' => XS.ifNo X18.here hx rfl (hb hby at_179) rfl ((if0 _ _).trans (teq (hc8_17 : ((x0 &&& (2147483647 : Int32)) % (3 : Int32)) = (0 : Int32))).2) kk') ?_
          show own_Go p e below K T18 (mkF m 182 #[.val (.int x0), .val (.int y0), .val (.int z0), .val (.int ((x0 &&& (2147483647 : Int32)) % (3 : Int32))), .val (.ref a1), .val (.int k5), .val (.int ch), .val (.int (0 : Int32)), .val (.int (1 : Int32)), .val (.int (0 : Int32)), .val (.int (0 : Int32)), .unset] [])
          refine own_go (fun _ kk' => XS.iload X18.here hx rfl (hb hby at_182) rfl  kk') ?_
          show own_Go p e below K T18 (mkF m 184 #[.val (.int x0), .val (.int y0), .val (.int z0), .val (.int ((x0 &&& (2147483647 : Int32)) % (3 : Int32))), .val (.ref a1), .val (.int k5), .val (.int ch), .val (.int (0 : Int32)), .val (.int (1 : Int32)), .val (.int (0 : Int32)), .val (.int (0 : Int32)), .unset] [(.int (0 : Int32))])
          refine own_go (fun _ kk' => XS.ifNo X18.here hx rfl (hb hby at_184) rfl ((if0 _ _).trans (teq ((by decide) : (0 : Int32) = (0 : Int32))).2) kk') ?_
          show own_Go p e below K T18 (mkF m 187 #[.val (.int x0), .val (.int y0), .val (.int z0), .val (.int ((x0 &&& (2147483647 : Int32)) % (3 : Int32))), .val (.ref a1), .val (.int k5), .val (.int ch), .val (.int (0 : Int32)), .val (.int (1 : Int32)), .val (.int (0 : Int32)), .val (.int (0 : Int32)), .unset] [])
          refine own_go (fun _ kk' => XS.iload X18.here hx rfl (hb hby at_187) rfl  kk') ?_
          show own_Go p e below K T18 (mkF m 189 #[.val (.int x0), .val (.int y0), .val (.int z0), .val (.int ((x0 &&& (2147483647 : Int32)) % (3 : Int32))), .val (.ref a1), .val (.int k5), .val (.int ch), .val (.int (0 : Int32)), .val (.int (1 : Int32)), .val (.int (0 : Int32)), .val (.int (0 : Int32)), .unset] [(.int (1 : Int32))])
          refine own_go (fun _ kk' => XS.ifNo X18.here hx rfl (hb hby at_189) rfl ((if0 _ _).trans (feq ((by decide) : ¬ ((1 : Int32) = (0 : Int32)))).1) kk') ?_
          show own_Go p e below K T18 (mkF m 192 #[.val (.int x0), .val (.int y0), .val (.int z0), .val (.int ((x0 &&& (2147483647 : Int32)) % (3 : Int32))), .val (.ref a1), .val (.int k5), .val (.int ch), .val (.int (0 : Int32)), .val (.int (1 : Int32)), .val (.int (0 : Int32)), .val (.int (0 : Int32)), .unset] [])
          refine own_go (fun _ kk' => XS.iconst X18.here hx rfl (hb hby at_192) kk') ?_
          show own_Go p e below K T18 (mkF m 193 #[.val (.int x0), .val (.int y0), .val (.int z0), .val (.int ((x0 &&& (2147483647 : Int32)) % (3 : Int32))), .val (.ref a1), .val (.int k5), .val (.int ch), .val (.int (0 : Int32)), .val (.int (1 : Int32)), .val (.int (0 : Int32)), .val (.int (0 : Int32)), .unset] [(.int (1 : Int32))])
          refine own_go (fun _ kk' => XS.goto X18.here hx rfl (pc0 := 193) (pc' := 197) rfl (hb hby at_193) (by decide) (by decide) kk') ?_
          show own_Go p e below K T18 (mkF m 197 #[.val (.int x0), .val (.int y0), .val (.int z0), .val (.int ((x0 &&& (2147483647 : Int32)) % (3 : Int32))), .val (.ref a1), .val (.int k5), .val (.int ch), .val (.int (0 : Int32)), .val (.int (1 : Int32)), .val (.int (0 : Int32)), .val (.int (0 : Int32)), .unset] [(.int (1 : Int32))])
          refine own_go (fun _ kk' => XS.istore X18.here hx rfl (hb hby at_197) rfl (l' := #[.val (.int x0), .val (.int y0), .val (.int z0), .val (.int ((x0 &&& (2147483647 : Int32)) % (3 : Int32))), .val (.ref a1), .val (.int k5), .val (.int ch), .val (.int (0 : Int32)), .val (.int (1 : Int32)), .val (.int (0 : Int32)), .val (.int (0 : Int32)), .val (.int (1 : Int32))]) rfl kk') ?_
          show own_Go p e below K T18 (mkF m 199 #[.val (.int x0), .val (.int y0), .val (.int z0), .val (.int ((x0 &&& (2147483647 : Int32)) % (3 : Int32))), .val (.ref a1), .val (.int k5), .val (.int ch), .val (.int (0 : Int32)), .val (.int (1 : Int32)), .val (.int (0 : Int32)), .val (.int (0 : Int32)), .val (.int (1 : Int32))] [])
          refine own_go (fun _ kk' => XS.goto X18.here hx rfl (pc0 := 199) (pc' := 241) rfl (hb hby at_199) (by decide) (by decide) kk') ?_
          show own_Go p e below K T18 (mkF m 241 #[.val (.int x0), .val (.int y0), .val (.int z0), .val (.int ((x0 &&& (2147483647 : Int32)) % (3 : Int32))), .val (.ref a1), .val (.int k5), .val (.int ch), .val (.int (0 : Int32)), .val (.int (1 : Int32)), .val (.int (0 : Int32)), .val (.int (0 : Int32)), .val (.int (1 : Int32))] [])
          refine own_go (fun _ kk' => XS.aload X18.here hx rfl (hb hby at_241) rfl rfl  kk') ?_
          show own_Go p e below K T18 (mkF m 243 #[.val (.int x0), .val (.int y0), .val (.int z0), .val (.int ((x0 &&& (2147483647 : Int32)) % (3 : Int32))), .val (.ref a1), .val (.int k5), .val (.int ch), .val (.int (0 : Int32)), .val (.int (1 : Int32)), .val (.int (0 : Int32)), .val (.int (0 : Int32)), .val (.int (1 : Int32))] [(.ref a1)])
          refine own_go (fun _ kk' => XS.iload X18.here hx rfl (hb hby at_243) rfl  kk') ?_
          show own_Go p e below K T18 (mkF m 245 #[.val (.int x0), .val (.int y0), .val (.int z0), .val (.int ((x0 &&& (2147483647 : Int32)) % (3 : Int32))), .val (.ref a1), .val (.int k5), .val (.int ch), .val (.int (0 : Int32)), .val (.int (1 : Int32)), .val (.int (0 : Int32)), .val (.int (0 : Int32)), .val (.int (1 : Int32))] [(.int ch), (.ref a1)])
          refine own_callV X18 hx hZ (C := "com/example/copista/copista/io/ReferenceScanner$LineEnds") (y := (⟨"com/example/copista/copista/io/ReferenceScanner$LineEnds", "endsLine", "(C)Z"⟩ : MethodName)) (z := (⟨"com/example/copista/copista/io/ReferenceScanner$LineEnds", "endsLine", "(C)Z"⟩ : MethodName)) hown (hw _ (List.mem_of_getElem? (i := 4) rfl)) (hw _ (List.mem_of_getElem? (i := 5) rfl)) (notFace_of_selects (args := #[]) (mvT hZ (hw _ (List.mem_of_getElem? (i := 7) rfl)))) (hw _ (List.mem_of_getElem? (i := 7) rfl)) (hw _ (List.mem_of_getElem? (i := 6) rfl)) (hw _ (List.mem_of_getElem? (i := 2) rfl)) (hw _ (List.mem_of_getElem? (i := 8) rfl)) (by decide) e18 (rm := own_rme) (a := a1) E1 (argsL := [(.int ch)]) (rest := []) (own_me l Z a0 hw a1 ch (1 : Int32) (0 : Int32) h0 n0 Z0 F1c F1n) (W := 0) (by decide) (by decide) (by decide) (by decide) (g := (mkF m 245 #[.val (.int x0), .val (.int y0), .val (.int z0), .val (.int ((x0 &&& (2147483647 : Int32)) % (3 : Int32))), .val (.ref a1), .val (.int k5), .val (.int ch), .val (.int (0 : Int32)), .val (.int (1 : Int32)), .val (.int (0 : Int32)), .val (.int (0 : Int32)), .val (.int (1 : Int32))] [(.int ch), (.ref a1)])) rfl (by rw [hml]; rfl) (lenOf own_pd0 rfl) rfl (by show 2 * 0 + _ ≤ _; exact Nat.le_of_eq rfl) (hb hby at_245) ?_
          intro v22 T22 L22 X22 hQ22
          obtain ⟨rfl, Nq22, e22⟩ := hQ22
          have N22 := Fr.app N0 Nq22
          show own_Go p e below K T22 (mkF m 248 #[.val (.int x0), .val (.int y0), .val (.int z0), .val (.int ((x0 &&& (2147483647 : Int32)) % (3 : Int32))), .val (.ref a1), .val (.int k5), .val (.int ch), .val (.int (0 : Int32)), .val (.int (1 : Int32)), .val (.int (0 : Int32)), .val (.int (0 : Int32)), .val (.int (1 : Int32))] [(.int (own_ends (1 : Int32) (0 : Int32) ch))])
          refine own_go (fun _ kk' => XS.iload X22.here hx rfl (hb hby at_248) rfl  kk') ?_
          show own_Go p e below K T22 (mkF m 250 #[.val (.int x0), .val (.int y0), .val (.int z0), .val (.int ((x0 &&& (2147483647 : Int32)) % (3 : Int32))), .val (.ref a1), .val (.int k5), .val (.int ch), .val (.int (0 : Int32)), .val (.int (1 : Int32)), .val (.int (0 : Int32)), .val (.int (0 : Int32)), .val (.int (1 : Int32))] [(.int (1 : Int32)), (.int (own_ends (1 : Int32) (0 : Int32) ch))])
          refine own_go (fun _ kk' => XS.icmpNo X22.here hx rfl (hb hby at_250) rfl (teq ((by rw [hc138_21]; decide) : (own_ends (1 : Int32) (0 : Int32) ch) = (1 : Int32))).2 kk') ?_
          show own_Go p e below K T22 (mkF m 253 #[.val (.int x0), .val (.int y0), .val (.int z0), .val (.int ((x0 &&& (2147483647 : Int32)) % (3 : Int32))), .val (.ref a1), .val (.int k5), .val (.int ch), .val (.int (0 : Int32)), .val (.int (1 : Int32)), .val (.int (0 : Int32)), .val (.int (0 : Int32)), .val (.int (1 : Int32))] [])
          refine own_go (fun _ kk' => XS.iconst X22.here hx rfl (hb hby at_253) kk') ?_
          show own_Go p e below K T22 (mkF m 254 #[.val (.int x0), .val (.int y0), .val (.int z0), .val (.int ((x0 &&& (2147483647 : Int32)) % (3 : Int32))), .val (.ref a1), .val (.int k5), .val (.int ch), .val (.int (0 : Int32)), .val (.int (1 : Int32)), .val (.int (0 : Int32)), .val (.int (0 : Int32)), .val (.int (1 : Int32))] [(.int (1 : Int32))])
          refine own_go (fun _ kk' => XS.goto X22.here hx rfl (pc0 := 254) (pc' := 258) rfl (hb hby at_254) (by decide) (by decide) kk') ?_
          show own_Go p e below K T22 (mkF m 258 #[.val (.int x0), .val (.int y0), .val (.int z0), .val (.int ((x0 &&& (2147483647 : Int32)) % (3 : Int32))), .val (.ref a1), .val (.int k5), .val (.int ch), .val (.int (0 : Int32)), .val (.int (1 : Int32)), .val (.int (0 : Int32)), .val (.int (0 : Int32)), .val (.int (1 : Int32))] [(.int (1 : Int32))])
          exact own_retZ X22 hx hlk hK hret (by decide) (hb hby at_258) (by decide) (by decide) ⟨rfl, N22⟩
        · refine own_go (fun _ kk' => XS.icmpYes X18.here hx rfl (pc0 := 138) (pc' := 145) rfl (hb hby at_138) rfl (feq (hc138_21 : ¬ (ch = (13 : Int32)))).2 (by decide) (by decide) kk') ?_
          show own_Go p e below K T18 (mkF m 145 #[.val (.int x0), .val (.int y0), .val (.int z0), .val (.int ((x0 &&& (2147483647 : Int32)) % (3 : Int32))), .val (.ref a1), .val (.int k5), .val (.int ch), .val (.int (0 : Int32)), .unset, .unset, .unset, .unset] [])
          refine own_go (fun _ kk' => XS.iconst X18.here hx rfl (hb hby at_145) kk') ?_
          show own_Go p e below K T18 (mkF m 146 #[.val (.int x0), .val (.int y0), .val (.int z0), .val (.int ((x0 &&& (2147483647 : Int32)) % (3 : Int32))), .val (.ref a1), .val (.int k5), .val (.int ch), .val (.int (0 : Int32)), .unset, .unset, .unset, .unset] [(.int (0 : Int32))])
          refine own_go (fun _ kk' => XS.istore X18.here hx rfl (hb hby at_146) rfl (l' := #[.val (.int x0), .val (.int y0), .val (.int z0), .val (.int ((x0 &&& (2147483647 : Int32)) % (3 : Int32))), .val (.ref a1), .val (.int k5), .val (.int ch), .val (.int (0 : Int32)), .val (.int (0 : Int32)), .unset, .unset, .unset]) rfl kk') ?_
          show own_Go p e below K T18 (mkF m 148 #[.val (.int x0), .val (.int y0), .val (.int z0), .val (.int ((x0 &&& (2147483647 : Int32)) % (3 : Int32))), .val (.ref a1), .val (.int k5), .val (.int ch), .val (.int (0 : Int32)), .val (.int (0 : Int32)), .unset, .unset, .unset] [])
          refine own_go (fun _ kk' => XS.iload X18.here hx rfl (hb hby at_148) rfl  kk') ?_
          show own_Go p e below K T18 (mkF m 150 #[.val (.int x0), .val (.int y0), .val (.int z0), .val (.int ((x0 &&& (2147483647 : Int32)) % (3 : Int32))), .val (.ref a1), .val (.int k5), .val (.int ch), .val (.int (0 : Int32)), .val (.int (0 : Int32)), .unset, .unset, .unset] [(.int ch)])
          refine own_go (fun _ kk' => XS.sipush X18.here hx rfl (hb hby at_150) kk') ?_
          show own_Go p e below K T18 (mkF m 153 #[.val (.int x0), .val (.int y0), .val (.int z0), .val (.int ((x0 &&& (2147483647 : Int32)) % (3 : Int32))), .val (.ref a1), .val (.int k5), .val (.int ch), .val (.int (0 : Int32)), .val (.int (0 : Int32)), .unset, .unset, .unset] [(.int (133 : Int32)), (.int ch)])
          by_cases hc153_23 : ch = (133 : Int32)
          · refine own_go (fun _ kk' => XS.icmpNo X18.here hx rfl (hb hby at_153) rfl (teq (hc153_23 : ch = (133 : Int32))).2 kk') ?_
            show own_Go p e below K T18 (mkF m 156 #[.val (.int x0), .val (.int y0), .val (.int z0), .val (.int ((x0 &&& (2147483647 : Int32)) % (3 : Int32))), .val (.ref a1), .val (.int k5), .val (.int ch), .val (.int (0 : Int32)), .val (.int (0 : Int32)), .unset, .unset, .unset] [])
            refine own_go (fun _ kk' => XS.iconst X18.here hx rfl (hb hby at_156) kk') ?_
            show own_Go p e below K T18 (mkF m 157 #[.val (.int x0), .val (.int y0), .val (.int z0), .val (.int ((x0 &&& (2147483647 : Int32)) % (3 : Int32))), .val (.ref a1), .val (.int k5), .val (.int ch), .val (.int (0 : Int32)), .val (.int (0 : Int32)), .unset, .unset, .unset] [(.int (1 : Int32))])
            refine own_go (fun _ kk' => XS.goto X18.here hx rfl (pc0 := 157) (pc' := 161) rfl (hb hby at_157) (by decide) (by decide) kk') ?_
            show own_Go p e below K T18 (mkF m 161 #[.val (.int x0), .val (.int y0), .val (.int z0), .val (.int ((x0 &&& (2147483647 : Int32)) % (3 : Int32))), .val (.ref a1), .val (.int k5), .val (.int ch), .val (.int (0 : Int32)), .val (.int (0 : Int32)), .unset, .unset, .unset] [(.int (1 : Int32))])
            refine own_go (fun _ kk' => XS.istore X18.here hx rfl (hb hby at_161) rfl (l' := #[.val (.int x0), .val (.int y0), .val (.int z0), .val (.int ((x0 &&& (2147483647 : Int32)) % (3 : Int32))), .val (.ref a1), .val (.int k5), .val (.int ch), .val (.int (0 : Int32)), .val (.int (0 : Int32)), .val (.int (1 : Int32)), .unset, .unset]) rfl kk') ?_
            show own_Go p e below K T18 (mkF m 163 #[.val (.int x0), .val (.int y0), .val (.int z0), .val (.int ((x0 &&& (2147483647 : Int32)) % (3 : Int32))), .val (.ref a1), .val (.int k5), .val (.int ch), .val (.int (0 : Int32)), .val (.int (0 : Int32)), .val (.int (1 : Int32)), .unset, .unset] [])
            refine own_go (fun _ kk' => XS.iload X18.here hx rfl (hb hby at_163) rfl  kk') ?_
            show own_Go p e below K T18 (mkF m 165 #[.val (.int x0), .val (.int y0), .val (.int z0), .val (.int ((x0 &&& (2147483647 : Int32)) % (3 : Int32))), .val (.ref a1), .val (.int k5), .val (.int ch), .val (.int (0 : Int32)), .val (.int (0 : Int32)), .val (.int (1 : Int32)), .unset, .unset] [(.int ch)])
            refine own_go (fun _ kk' => XS.sipush X18.here hx rfl (hb hby at_165) kk') ?_
            show own_Go p e below K T18 (mkF m 168 #[.val (.int x0), .val (.int y0), .val (.int z0), .val (.int ((x0 &&& (2147483647 : Int32)) % (3 : Int32))), .val (.ref a1), .val (.int k5), .val (.int ch), .val (.int (0 : Int32)), .val (.int (0 : Int32)), .val (.int (1 : Int32)), .unset, .unset] [(.int (8232 : Int32)), (.int ch)])
            refine own_go (fun _ kk' => XS.icmpYes X18.here hx rfl (pc0 := 168) (pc' := 175) rfl (hb hby at_168) rfl (feq ((fun q => absurd (hc153_23.symm.trans q) (by decide)) : ¬ (ch = (8232 : Int32)))).2 (by decide) (by decide) kk') ?_
            show own_Go p e below K T18 (mkF m 175 #[.val (.int x0), .val (.int y0), .val (.int z0), .val (.int ((x0 &&& (2147483647 : Int32)) % (3 : Int32))), .val (.ref a1), .val (.int k5), .val (.int ch), .val (.int (0 : Int32)), .val (.int (0 : Int32)), .val (.int (1 : Int32)), .unset, .unset] [])
            refine own_go (fun _ kk' => XS.iconst X18.here hx rfl (hb hby at_175) kk') ?_
            show own_Go p e below K T18 (mkF m 176 #[.val (.int x0), .val (.int y0), .val (.int z0), .val (.int ((x0 &&& (2147483647 : Int32)) % (3 : Int32))), .val (.ref a1), .val (.int k5), .val (.int ch), .val (.int (0 : Int32)), .val (.int (0 : Int32)), .val (.int (1 : Int32)), .unset, .unset] [(.int (0 : Int32))])
            refine own_go (fun _ kk' => XS.istore X18.here hx rfl (hb hby at_176) rfl (l' := #[.val (.int x0), .val (.int y0), .val (.int z0), .val (.int ((x0 &&& (2147483647 : Int32)) % (3 : Int32))), .val (.ref a1), .val (.int k5), .val (.int ch), .val (.int (0 : Int32)), .val (.int (0 : Int32)), .val (.int (1 : Int32)), .val (.int (0 : Int32)), .unset]) rfl kk') ?_
            show own_Go p e below K T18 (mkF m 178 #[.val (.int x0), .val (.int y0), .val (.int z0), .val (.int ((x0 &&& (2147483647 : Int32)) % (3 : Int32))), .val (.ref a1), .val (.int k5), .val (.int ch), .val (.int (0 : Int32)), .val (.int (0 : Int32)), .val (.int (1 : Int32)), .val (.int (0 : Int32)), .unset] [])
            refine own_go (fun _ kk' => XS.iloadN X18.here hx rfl (hb hby at_178) rfl  kk') ?_
            show own_Go p e below K T18 (mkF m 179 #[.val (.int x0), .val (.int y0), .val (.int z0), .val (.int ((x0 &&& (2147483647 : Int32)) % (3 : Int32))), .val (.ref a1), .val (.int k5), .val (.int ch), .val (.int (0 : Int32)), .val (.int (0 : Int32)), .val (.int (1 : Int32)), .val (.int (0 : Int32)), .unset] [(.int ((x0 &&& (2147483647 : Int32)) % (3 : Int32)))])
            refine own_go (fun _ kk' => XS.ifNo X18.here hx rfl (hb hby at_179) rfl ((if0 _ _).trans (teq (hc8_17 : ((x0 &&& (2147483647 : Int32)) % (3 : Int32)) = (0 : Int32))).2) kk') ?_
            show own_Go p e below K T18 (mkF m 182 #[.val (.int x0), .val (.int y0), .val (.int z0), .val (.int ((x0 &&& (2147483647 : Int32)) % (3 : Int32))), .val (.ref a1), .val (.int k5), .val (.int ch), .val (.int (0 : Int32)), .val (.int (0 : Int32)), .val (.int (1 : Int32)), .val (.int (0 : Int32)), .unset] [])
            refine own_go (fun _ kk' => XS.iload X18.here hx rfl (hb hby at_182) rfl  kk') ?_
            show own_Go p e below K T18 (mkF m 184 #[.val (.int x0), .val (.int y0), .val (.int z0), .val (.int ((x0 &&& (2147483647 : Int32)) % (3 : Int32))), .val (.ref a1), .val (.int k5), .val (.int ch), .val (.int (0 : Int32)), .val (.int (0 : Int32)), .val (.int (1 : Int32)), .val (.int (0 : Int32)), .unset] [(.int (0 : Int32))])
            refine own_go (fun _ kk' => XS.ifNo X18.here hx rfl (hb hby at_184) rfl ((if0 _ _).trans (teq ((by decide) : (0 : Int32) = (0 : Int32))).2) kk') ?_
            show own_Go p e below K T18 (mkF m 187 #[.val (.int x0), .val (.int y0), .val (.int z0), .val (.int ((x0 &&& (2147483647 : Int32)) % (3 : Int32))), .val (.ref a1), .val (.int k5), .val (.int ch), .val (.int (0 : Int32)), .val (.int (0 : Int32)), .val (.int (1 : Int32)), .val (.int (0 : Int32)), .unset] [])
            refine own_go (fun _ kk' => XS.iload X18.here hx rfl (hb hby at_187) rfl  kk') ?_
            show own_Go p e below K T18 (mkF m 189 #[.val (.int x0), .val (.int y0), .val (.int z0), .val (.int ((x0 &&& (2147483647 : Int32)) % (3 : Int32))), .val (.ref a1), .val (.int k5), .val (.int ch), .val (.int (0 : Int32)), .val (.int (0 : Int32)), .val (.int (1 : Int32)), .val (.int (0 : Int32)), .unset] [(.int (0 : Int32))])
            refine own_go (fun _ kk' => XS.ifYes X18.here hx rfl (pc0 := 189) (pc' := 196) rfl (hb hby at_189) rfl ((if0 _ _).trans (teq ((by decide) : (0 : Int32) = (0 : Int32))).1) (by decide) (by decide) kk') ?_
            show own_Go p e below K T18 (mkF m 196 #[.val (.int x0), .val (.int y0), .val (.int z0), .val (.int ((x0 &&& (2147483647 : Int32)) % (3 : Int32))), .val (.ref a1), .val (.int k5), .val (.int ch), .val (.int (0 : Int32)), .val (.int (0 : Int32)), .val (.int (1 : Int32)), .val (.int (0 : Int32)), .unset] [])
            refine own_go (fun _ kk' => XS.iconst X18.here hx rfl (hb hby at_196) kk') ?_
            show own_Go p e below K T18 (mkF m 197 #[.val (.int x0), .val (.int y0), .val (.int z0), .val (.int ((x0 &&& (2147483647 : Int32)) % (3 : Int32))), .val (.ref a1), .val (.int k5), .val (.int ch), .val (.int (0 : Int32)), .val (.int (0 : Int32)), .val (.int (1 : Int32)), .val (.int (0 : Int32)), .unset] [(.int (0 : Int32))])
            refine own_go (fun _ kk' => XS.istore X18.here hx rfl (hb hby at_197) rfl (l' := #[.val (.int x0), .val (.int y0), .val (.int z0), .val (.int ((x0 &&& (2147483647 : Int32)) % (3 : Int32))), .val (.ref a1), .val (.int k5), .val (.int ch), .val (.int (0 : Int32)), .val (.int (0 : Int32)), .val (.int (1 : Int32)), .val (.int (0 : Int32)), .val (.int (0 : Int32))]) rfl kk') ?_
            show own_Go p e below K T18 (mkF m 199 #[.val (.int x0), .val (.int y0), .val (.int z0), .val (.int ((x0 &&& (2147483647 : Int32)) % (3 : Int32))), .val (.ref a1), .val (.int k5), .val (.int ch), .val (.int (0 : Int32)), .val (.int (0 : Int32)), .val (.int (1 : Int32)), .val (.int (0 : Int32)), .val (.int (0 : Int32))] [])
            refine own_go (fun _ kk' => XS.goto X18.here hx rfl (pc0 := 199) (pc' := 241) rfl (hb hby at_199) (by decide) (by decide) kk') ?_
            show own_Go p e below K T18 (mkF m 241 #[.val (.int x0), .val (.int y0), .val (.int z0), .val (.int ((x0 &&& (2147483647 : Int32)) % (3 : Int32))), .val (.ref a1), .val (.int k5), .val (.int ch), .val (.int (0 : Int32)), .val (.int (0 : Int32)), .val (.int (1 : Int32)), .val (.int (0 : Int32)), .val (.int (0 : Int32))] [])
            refine own_go (fun _ kk' => XS.aload X18.here hx rfl (hb hby at_241) rfl rfl  kk') ?_
            show own_Go p e below K T18 (mkF m 243 #[.val (.int x0), .val (.int y0), .val (.int z0), .val (.int ((x0 &&& (2147483647 : Int32)) % (3 : Int32))), .val (.ref a1), .val (.int k5), .val (.int ch), .val (.int (0 : Int32)), .val (.int (0 : Int32)), .val (.int (1 : Int32)), .val (.int (0 : Int32)), .val (.int (0 : Int32))] [(.ref a1)])
            refine own_go (fun _ kk' => XS.iload X18.here hx rfl (hb hby at_243) rfl  kk') ?_
            show own_Go p e below K T18 (mkF m 245 #[.val (.int x0), .val (.int y0), .val (.int z0), .val (.int ((x0 &&& (2147483647 : Int32)) % (3 : Int32))), .val (.ref a1), .val (.int k5), .val (.int ch), .val (.int (0 : Int32)), .val (.int (0 : Int32)), .val (.int (1 : Int32)), .val (.int (0 : Int32)), .val (.int (0 : Int32))] [(.int ch), (.ref a1)])
            refine own_callV X18 hx hZ (C := "com/example/copista/copista/io/ReferenceScanner$LineEnds") (y := (⟨"com/example/copista/copista/io/ReferenceScanner$LineEnds", "endsLine", "(C)Z"⟩ : MethodName)) (z := (⟨"com/example/copista/copista/io/ReferenceScanner$LineEnds", "endsLine", "(C)Z"⟩ : MethodName)) hown (hw _ (List.mem_of_getElem? (i := 4) rfl)) (hw _ (List.mem_of_getElem? (i := 5) rfl)) (notFace_of_selects (args := #[]) (mvT hZ (hw _ (List.mem_of_getElem? (i := 7) rfl)))) (hw _ (List.mem_of_getElem? (i := 7) rfl)) (hw _ (List.mem_of_getElem? (i := 6) rfl)) (hw _ (List.mem_of_getElem? (i := 2) rfl)) (hw _ (List.mem_of_getElem? (i := 8) rfl)) (by decide) e18 (rm := own_rme) (a := a1) E1 (argsL := [(.int ch)]) (rest := []) (own_me l Z a0 hw a1 ch (1 : Int32) (0 : Int32) h0 n0 Z0 F1c F1n) (W := 0) (by decide) (by decide) (by decide) (by decide) (g := (mkF m 245 #[.val (.int x0), .val (.int y0), .val (.int z0), .val (.int ((x0 &&& (2147483647 : Int32)) % (3 : Int32))), .val (.ref a1), .val (.int k5), .val (.int ch), .val (.int (0 : Int32)), .val (.int (0 : Int32)), .val (.int (1 : Int32)), .val (.int (0 : Int32)), .val (.int (0 : Int32))] [(.int ch), (.ref a1)])) rfl (by rw [hml]; rfl) (lenOf own_pd0 rfl) rfl (by show 2 * 0 + _ ≤ _; exact Nat.le_of_eq rfl) (hb hby at_245) ?_
            intro v24 T24 L24 X24 hQ24
            obtain ⟨rfl, Nq24, e24⟩ := hQ24
            have N24 := Fr.app N0 Nq24
            show own_Go p e below K T24 (mkF m 248 #[.val (.int x0), .val (.int y0), .val (.int z0), .val (.int ((x0 &&& (2147483647 : Int32)) % (3 : Int32))), .val (.ref a1), .val (.int k5), .val (.int ch), .val (.int (0 : Int32)), .val (.int (0 : Int32)), .val (.int (1 : Int32)), .val (.int (0 : Int32)), .val (.int (0 : Int32))] [(.int (own_ends (1 : Int32) (0 : Int32) ch))])
            refine own_go (fun _ kk' => XS.iload X24.here hx rfl (hb hby at_248) rfl  kk') ?_
            show own_Go p e below K T24 (mkF m 250 #[.val (.int x0), .val (.int y0), .val (.int z0), .val (.int ((x0 &&& (2147483647 : Int32)) % (3 : Int32))), .val (.ref a1), .val (.int k5), .val (.int ch), .val (.int (0 : Int32)), .val (.int (0 : Int32)), .val (.int (1 : Int32)), .val (.int (0 : Int32)), .val (.int (0 : Int32))] [(.int (0 : Int32)), (.int (own_ends (1 : Int32) (0 : Int32) ch))])
            refine own_go (fun _ kk' => XS.icmpNo X24.here hx rfl (hb hby at_250) rfl (teq ((by rw [hc153_23]; decide) : (own_ends (1 : Int32) (0 : Int32) ch) = (0 : Int32))).2 kk') ?_
            show own_Go p e below K T24 (mkF m 253 #[.val (.int x0), .val (.int y0), .val (.int z0), .val (.int ((x0 &&& (2147483647 : Int32)) % (3 : Int32))), .val (.ref a1), .val (.int k5), .val (.int ch), .val (.int (0 : Int32)), .val (.int (0 : Int32)), .val (.int (1 : Int32)), .val (.int (0 : Int32)), .val (.int (0 : Int32))] [])
            refine own_go (fun _ kk' => XS.iconst X24.here hx rfl (hb hby at_253) kk') ?_
            show own_Go p e below K T24 (mkF m 254 #[.val (.int x0), .val (.int y0), .val (.int z0), .val (.int ((x0 &&& (2147483647 : Int32)) % (3 : Int32))), .val (.ref a1), .val (.int k5), .val (.int ch), .val (.int (0 : Int32)), .val (.int (0 : Int32)), .val (.int (1 : Int32)), .val (.int (0 : Int32)), .val (.int (0 : Int32))] [(.int (1 : Int32))])
            refine own_go (fun _ kk' => XS.goto X24.here hx rfl (pc0 := 254) (pc' := 258) rfl (hb hby at_254) (by decide) (by decide) kk') ?_
            show own_Go p e below K T24 (mkF m 258 #[.val (.int x0), .val (.int y0), .val (.int z0), .val (.int ((x0 &&& (2147483647 : Int32)) % (3 : Int32))), .val (.ref a1), .val (.int k5), .val (.int ch), .val (.int (0 : Int32)), .val (.int (0 : Int32)), .val (.int (1 : Int32)), .val (.int (0 : Int32)), .val (.int (0 : Int32))] [(.int (1 : Int32))])
            exact own_retZ X24 hx hlk hK hret (by decide) (hb hby at_258) (by decide) (by decide) ⟨rfl, N24⟩
          · refine own_go (fun _ kk' => XS.icmpYes X18.here hx rfl (pc0 := 153) (pc' := 160) rfl (hb hby at_153) rfl (feq (hc153_23 : ¬ (ch = (133 : Int32)))).2 (by decide) (by decide) kk') ?_
            show own_Go p e below K T18 (mkF m 160 #[.val (.int x0), .val (.int y0), .val (.int z0), .val (.int ((x0 &&& (2147483647 : Int32)) % (3 : Int32))), .val (.ref a1), .val (.int k5), .val (.int ch), .val (.int (0 : Int32)), .val (.int (0 : Int32)), .unset, .unset, .unset] [])
            refine own_go (fun _ kk' => XS.iconst X18.here hx rfl (hb hby at_160) kk') ?_
            show own_Go p e below K T18 (mkF m 161 #[.val (.int x0), .val (.int y0), .val (.int z0), .val (.int ((x0 &&& (2147483647 : Int32)) % (3 : Int32))), .val (.ref a1), .val (.int k5), .val (.int ch), .val (.int (0 : Int32)), .val (.int (0 : Int32)), .unset, .unset, .unset] [(.int (0 : Int32))])
            refine own_go (fun _ kk' => XS.istore X18.here hx rfl (hb hby at_161) rfl (l' := #[.val (.int x0), .val (.int y0), .val (.int z0), .val (.int ((x0 &&& (2147483647 : Int32)) % (3 : Int32))), .val (.ref a1), .val (.int k5), .val (.int ch), .val (.int (0 : Int32)), .val (.int (0 : Int32)), .val (.int (0 : Int32)), .unset, .unset]) rfl kk') ?_
            show own_Go p e below K T18 (mkF m 163 #[.val (.int x0), .val (.int y0), .val (.int z0), .val (.int ((x0 &&& (2147483647 : Int32)) % (3 : Int32))), .val (.ref a1), .val (.int k5), .val (.int ch), .val (.int (0 : Int32)), .val (.int (0 : Int32)), .val (.int (0 : Int32)), .unset, .unset] [])
            refine own_go (fun _ kk' => XS.iload X18.here hx rfl (hb hby at_163) rfl  kk') ?_
            show own_Go p e below K T18 (mkF m 165 #[.val (.int x0), .val (.int y0), .val (.int z0), .val (.int ((x0 &&& (2147483647 : Int32)) % (3 : Int32))), .val (.ref a1), .val (.int k5), .val (.int ch), .val (.int (0 : Int32)), .val (.int (0 : Int32)), .val (.int (0 : Int32)), .unset, .unset] [(.int ch)])
            refine own_go (fun _ kk' => XS.sipush X18.here hx rfl (hb hby at_165) kk') ?_
            show own_Go p e below K T18 (mkF m 168 #[.val (.int x0), .val (.int y0), .val (.int z0), .val (.int ((x0 &&& (2147483647 : Int32)) % (3 : Int32))), .val (.ref a1), .val (.int k5), .val (.int ch), .val (.int (0 : Int32)), .val (.int (0 : Int32)), .val (.int (0 : Int32)), .unset, .unset] [(.int (8232 : Int32)), (.int ch)])
            by_cases hc168_25 : ch = (8232 : Int32)
            · refine own_go (fun _ kk' => XS.icmpNo X18.here hx rfl (hb hby at_168) rfl (teq (hc168_25 : ch = (8232 : Int32))).2 kk') ?_
              show own_Go p e below K T18 (mkF m 171 #[.val (.int x0), .val (.int y0), .val (.int z0), .val (.int ((x0 &&& (2147483647 : Int32)) % (3 : Int32))), .val (.ref a1), .val (.int k5), .val (.int ch), .val (.int (0 : Int32)), .val (.int (0 : Int32)), .val (.int (0 : Int32)), .unset, .unset] [])
              refine own_go (fun _ kk' => XS.iconst X18.here hx rfl (hb hby at_171) kk') ?_
              show own_Go p e below K T18 (mkF m 172 #[.val (.int x0), .val (.int y0), .val (.int z0), .val (.int ((x0 &&& (2147483647 : Int32)) % (3 : Int32))), .val (.ref a1), .val (.int k5), .val (.int ch), .val (.int (0 : Int32)), .val (.int (0 : Int32)), .val (.int (0 : Int32)), .unset, .unset] [(.int (1 : Int32))])
              refine own_go (fun _ kk' => XS.goto X18.here hx rfl (pc0 := 172) (pc' := 176) rfl (hb hby at_172) (by decide) (by decide) kk') ?_
              show own_Go p e below K T18 (mkF m 176 #[.val (.int x0), .val (.int y0), .val (.int z0), .val (.int ((x0 &&& (2147483647 : Int32)) % (3 : Int32))), .val (.ref a1), .val (.int k5), .val (.int ch), .val (.int (0 : Int32)), .val (.int (0 : Int32)), .val (.int (0 : Int32)), .unset, .unset] [(.int (1 : Int32))])
              refine own_go (fun _ kk' => XS.istore X18.here hx rfl (hb hby at_176) rfl (l' := #[.val (.int x0), .val (.int y0), .val (.int z0), .val (.int ((x0 &&& (2147483647 : Int32)) % (3 : Int32))), .val (.ref a1), .val (.int k5), .val (.int ch), .val (.int (0 : Int32)), .val (.int (0 : Int32)), .val (.int (0 : Int32)), .val (.int (1 : Int32)), .unset]) rfl kk') ?_
              show own_Go p e below K T18 (mkF m 178 #[.val (.int x0), .val (.int y0), .val (.int z0), .val (.int ((x0 &&& (2147483647 : Int32)) % (3 : Int32))), .val (.ref a1), .val (.int k5), .val (.int ch), .val (.int (0 : Int32)), .val (.int (0 : Int32)), .val (.int (0 : Int32)), .val (.int (1 : Int32)), .unset] [])
              refine own_go (fun _ kk' => XS.iloadN X18.here hx rfl (hb hby at_178) rfl  kk') ?_
              show own_Go p e below K T18 (mkF m 179 #[.val (.int x0), .val (.int y0), .val (.int z0), .val (.int ((x0 &&& (2147483647 : Int32)) % (3 : Int32))), .val (.ref a1), .val (.int k5), .val (.int ch), .val (.int (0 : Int32)), .val (.int (0 : Int32)), .val (.int (0 : Int32)), .val (.int (1 : Int32)), .unset] [(.int ((x0 &&& (2147483647 : Int32)) % (3 : Int32)))])
              refine own_go (fun _ kk' => XS.ifNo X18.here hx rfl (hb hby at_179) rfl ((if0 _ _).trans (teq (hc8_17 : ((x0 &&& (2147483647 : Int32)) % (3 : Int32)) = (0 : Int32))).2) kk') ?_
              show own_Go p e below K T18 (mkF m 182 #[.val (.int x0), .val (.int y0), .val (.int z0), .val (.int ((x0 &&& (2147483647 : Int32)) % (3 : Int32))), .val (.ref a1), .val (.int k5), .val (.int ch), .val (.int (0 : Int32)), .val (.int (0 : Int32)), .val (.int (0 : Int32)), .val (.int (1 : Int32)), .unset] [])
              refine own_go (fun _ kk' => XS.iload X18.here hx rfl (hb hby at_182) rfl  kk') ?_
              show own_Go p e below K T18 (mkF m 184 #[.val (.int x0), .val (.int y0), .val (.int z0), .val (.int ((x0 &&& (2147483647 : Int32)) % (3 : Int32))), .val (.ref a1), .val (.int k5), .val (.int ch), .val (.int (0 : Int32)), .val (.int (0 : Int32)), .val (.int (0 : Int32)), .val (.int (1 : Int32)), .unset] [(.int (0 : Int32))])
              refine own_go (fun _ kk' => XS.ifNo X18.here hx rfl (hb hby at_184) rfl ((if0 _ _).trans (teq ((by decide) : (0 : Int32) = (0 : Int32))).2) kk') ?_
              show own_Go p e below K T18 (mkF m 187 #[.val (.int x0), .val (.int y0), .val (.int z0), .val (.int ((x0 &&& (2147483647 : Int32)) % (3 : Int32))), .val (.ref a1), .val (.int k5), .val (.int ch), .val (.int (0 : Int32)), .val (.int (0 : Int32)), .val (.int (0 : Int32)), .val (.int (1 : Int32)), .unset] [])
              refine own_go (fun _ kk' => XS.iload X18.here hx rfl (hb hby at_187) rfl  kk') ?_
              show own_Go p e below K T18 (mkF m 189 #[.val (.int x0), .val (.int y0), .val (.int z0), .val (.int ((x0 &&& (2147483647 : Int32)) % (3 : Int32))), .val (.ref a1), .val (.int k5), .val (.int ch), .val (.int (0 : Int32)), .val (.int (0 : Int32)), .val (.int (0 : Int32)), .val (.int (1 : Int32)), .unset] [(.int (0 : Int32))])
              refine own_go (fun _ kk' => XS.ifYes X18.here hx rfl (pc0 := 189) (pc' := 196) rfl (hb hby at_189) rfl ((if0 _ _).trans (teq ((by decide) : (0 : Int32) = (0 : Int32))).1) (by decide) (by decide) kk') ?_
              show own_Go p e below K T18 (mkF m 196 #[.val (.int x0), .val (.int y0), .val (.int z0), .val (.int ((x0 &&& (2147483647 : Int32)) % (3 : Int32))), .val (.ref a1), .val (.int k5), .val (.int ch), .val (.int (0 : Int32)), .val (.int (0 : Int32)), .val (.int (0 : Int32)), .val (.int (1 : Int32)), .unset] [])
              refine own_go (fun _ kk' => XS.iconst X18.here hx rfl (hb hby at_196) kk') ?_
              show own_Go p e below K T18 (mkF m 197 #[.val (.int x0), .val (.int y0), .val (.int z0), .val (.int ((x0 &&& (2147483647 : Int32)) % (3 : Int32))), .val (.ref a1), .val (.int k5), .val (.int ch), .val (.int (0 : Int32)), .val (.int (0 : Int32)), .val (.int (0 : Int32)), .val (.int (1 : Int32)), .unset] [(.int (0 : Int32))])
              refine own_go (fun _ kk' => XS.istore X18.here hx rfl (hb hby at_197) rfl (l' := #[.val (.int x0), .val (.int y0), .val (.int z0), .val (.int ((x0 &&& (2147483647 : Int32)) % (3 : Int32))), .val (.ref a1), .val (.int k5), .val (.int ch), .val (.int (0 : Int32)), .val (.int (0 : Int32)), .val (.int (0 : Int32)), .val (.int (1 : Int32)), .val (.int (0 : Int32))]) rfl kk') ?_
              show own_Go p e below K T18 (mkF m 199 #[.val (.int x0), .val (.int y0), .val (.int z0), .val (.int ((x0 &&& (2147483647 : Int32)) % (3 : Int32))), .val (.ref a1), .val (.int k5), .val (.int ch), .val (.int (0 : Int32)), .val (.int (0 : Int32)), .val (.int (0 : Int32)), .val (.int (1 : Int32)), .val (.int (0 : Int32))] [])
              refine own_go (fun _ kk' => XS.goto X18.here hx rfl (pc0 := 199) (pc' := 241) rfl (hb hby at_199) (by decide) (by decide) kk') ?_
              show own_Go p e below K T18 (mkF m 241 #[.val (.int x0), .val (.int y0), .val (.int z0), .val (.int ((x0 &&& (2147483647 : Int32)) % (3 : Int32))), .val (.ref a1), .val (.int k5), .val (.int ch), .val (.int (0 : Int32)), .val (.int (0 : Int32)), .val (.int (0 : Int32)), .val (.int (1 : Int32)), .val (.int (0 : Int32))] [])
              refine own_go (fun _ kk' => XS.aload X18.here hx rfl (hb hby at_241) rfl rfl  kk') ?_
              show own_Go p e below K T18 (mkF m 243 #[.val (.int x0), .val (.int y0), .val (.int z0), .val (.int ((x0 &&& (2147483647 : Int32)) % (3 : Int32))), .val (.ref a1), .val (.int k5), .val (.int ch), .val (.int (0 : Int32)), .val (.int (0 : Int32)), .val (.int (0 : Int32)), .val (.int (1 : Int32)), .val (.int (0 : Int32))] [(.ref a1)])
              refine own_go (fun _ kk' => XS.iload X18.here hx rfl (hb hby at_243) rfl  kk') ?_
              show own_Go p e below K T18 (mkF m 245 #[.val (.int x0), .val (.int y0), .val (.int z0), .val (.int ((x0 &&& (2147483647 : Int32)) % (3 : Int32))), .val (.ref a1), .val (.int k5), .val (.int ch), .val (.int (0 : Int32)), .val (.int (0 : Int32)), .val (.int (0 : Int32)), .val (.int (1 : Int32)), .val (.int (0 : Int32))] [(.int ch), (.ref a1)])
              refine own_callV X18 hx hZ (C := "com/example/copista/copista/io/ReferenceScanner$LineEnds") (y := (⟨"com/example/copista/copista/io/ReferenceScanner$LineEnds", "endsLine", "(C)Z"⟩ : MethodName)) (z := (⟨"com/example/copista/copista/io/ReferenceScanner$LineEnds", "endsLine", "(C)Z"⟩ : MethodName)) hown (hw _ (List.mem_of_getElem? (i := 4) rfl)) (hw _ (List.mem_of_getElem? (i := 5) rfl)) (notFace_of_selects (args := #[]) (mvT hZ (hw _ (List.mem_of_getElem? (i := 7) rfl)))) (hw _ (List.mem_of_getElem? (i := 7) rfl)) (hw _ (List.mem_of_getElem? (i := 6) rfl)) (hw _ (List.mem_of_getElem? (i := 2) rfl)) (hw _ (List.mem_of_getElem? (i := 8) rfl)) (by decide) e18 (rm := own_rme) (a := a1) E1 (argsL := [(.int ch)]) (rest := []) (own_me l Z a0 hw a1 ch (1 : Int32) (0 : Int32) h0 n0 Z0 F1c F1n) (W := 0) (by decide) (by decide) (by decide) (by decide) (g := (mkF m 245 #[.val (.int x0), .val (.int y0), .val (.int z0), .val (.int ((x0 &&& (2147483647 : Int32)) % (3 : Int32))), .val (.ref a1), .val (.int k5), .val (.int ch), .val (.int (0 : Int32)), .val (.int (0 : Int32)), .val (.int (0 : Int32)), .val (.int (1 : Int32)), .val (.int (0 : Int32))] [(.int ch), (.ref a1)])) rfl (by rw [hml]; rfl) (lenOf own_pd0 rfl) rfl (by show 2 * 0 + _ ≤ _; exact Nat.le_of_eq rfl) (hb hby at_245) ?_
              intro v26 T26 L26 X26 hQ26
              obtain ⟨rfl, Nq26, e26⟩ := hQ26
              have N26 := Fr.app N0 Nq26
              show own_Go p e below K T26 (mkF m 248 #[.val (.int x0), .val (.int y0), .val (.int z0), .val (.int ((x0 &&& (2147483647 : Int32)) % (3 : Int32))), .val (.ref a1), .val (.int k5), .val (.int ch), .val (.int (0 : Int32)), .val (.int (0 : Int32)), .val (.int (0 : Int32)), .val (.int (1 : Int32)), .val (.int (0 : Int32))] [(.int (own_ends (1 : Int32) (0 : Int32) ch))])
              refine own_go (fun _ kk' => XS.iload X26.here hx rfl (hb hby at_248) rfl  kk') ?_
              show own_Go p e below K T26 (mkF m 250 #[.val (.int x0), .val (.int y0), .val (.int z0), .val (.int ((x0 &&& (2147483647 : Int32)) % (3 : Int32))), .val (.ref a1), .val (.int k5), .val (.int ch), .val (.int (0 : Int32)), .val (.int (0 : Int32)), .val (.int (0 : Int32)), .val (.int (1 : Int32)), .val (.int (0 : Int32))] [(.int (0 : Int32)), (.int (own_ends (1 : Int32) (0 : Int32) ch))])
              refine own_go (fun _ kk' => XS.icmpNo X26.here hx rfl (hb hby at_250) rfl (teq ((by rw [hc168_25]; decide) : (own_ends (1 : Int32) (0 : Int32) ch) = (0 : Int32))).2 kk') ?_
              show own_Go p e below K T26 (mkF m 253 #[.val (.int x0), .val (.int y0), .val (.int z0), .val (.int ((x0 &&& (2147483647 : Int32)) % (3 : Int32))), .val (.ref a1), .val (.int k5), .val (.int ch), .val (.int (0 : Int32)), .val (.int (0 : Int32)), .val (.int (0 : Int32)), .val (.int (1 : Int32)), .val (.int (0 : Int32))] [])
              refine own_go (fun _ kk' => XS.iconst X26.here hx rfl (hb hby at_253) kk') ?_
              show own_Go p e below K T26 (mkF m 254 #[.val (.int x0), .val (.int y0), .val (.int z0), .val (.int ((x0 &&& (2147483647 : Int32)) % (3 : Int32))), .val (.ref a1), .val (.int k5), .val (.int ch), .val (.int (0 : Int32)), .val (.int (0 : Int32)), .val (.int (0 : Int32)), .val (.int (1 : Int32)), .val (.int (0 : Int32))] [(.int (1 : Int32))])
              refine own_go (fun _ kk' => XS.goto X26.here hx rfl (pc0 := 254) (pc' := 258) rfl (hb hby at_254) (by decide) (by decide) kk') ?_
              show own_Go p e below K T26 (mkF m 258 #[.val (.int x0), .val (.int y0), .val (.int z0), .val (.int ((x0 &&& (2147483647 : Int32)) % (3 : Int32))), .val (.ref a1), .val (.int k5), .val (.int ch), .val (.int (0 : Int32)), .val (.int (0 : Int32)), .val (.int (0 : Int32)), .val (.int (1 : Int32)), .val (.int (0 : Int32))] [(.int (1 : Int32))])
              exact own_retZ X26 hx hlk hK hret (by decide) (hb hby at_258) (by decide) (by decide) ⟨rfl, N26⟩
            · refine own_go (fun _ kk' => XS.icmpYes X18.here hx rfl (pc0 := 168) (pc' := 175) rfl (hb hby at_168) rfl (feq (hc168_25 : ¬ (ch = (8232 : Int32)))).2 (by decide) (by decide) kk') ?_
              show own_Go p e below K T18 (mkF m 175 #[.val (.int x0), .val (.int y0), .val (.int z0), .val (.int ((x0 &&& (2147483647 : Int32)) % (3 : Int32))), .val (.ref a1), .val (.int k5), .val (.int ch), .val (.int (0 : Int32)), .val (.int (0 : Int32)), .val (.int (0 : Int32)), .unset, .unset] [])
              refine own_go (fun _ kk' => XS.iconst X18.here hx rfl (hb hby at_175) kk') ?_
              show own_Go p e below K T18 (mkF m 176 #[.val (.int x0), .val (.int y0), .val (.int z0), .val (.int ((x0 &&& (2147483647 : Int32)) % (3 : Int32))), .val (.ref a1), .val (.int k5), .val (.int ch), .val (.int (0 : Int32)), .val (.int (0 : Int32)), .val (.int (0 : Int32)), .unset, .unset] [(.int (0 : Int32))])
              refine own_go (fun _ kk' => XS.istore X18.here hx rfl (hb hby at_176) rfl (l' := #[.val (.int x0), .val (.int y0), .val (.int z0), .val (.int ((x0 &&& (2147483647 : Int32)) % (3 : Int32))), .val (.ref a1), .val (.int k5), .val (.int ch), .val (.int (0 : Int32)), .val (.int (0 : Int32)), .val (.int (0 : Int32)), .val (.int (0 : Int32)), .unset]) rfl kk') ?_
              show own_Go p e below K T18 (mkF m 178 #[.val (.int x0), .val (.int y0), .val (.int z0), .val (.int ((x0 &&& (2147483647 : Int32)) % (3 : Int32))), .val (.ref a1), .val (.int k5), .val (.int ch), .val (.int (0 : Int32)), .val (.int (0 : Int32)), .val (.int (0 : Int32)), .val (.int (0 : Int32)), .unset] [])
              refine own_go (fun _ kk' => XS.iloadN X18.here hx rfl (hb hby at_178) rfl  kk') ?_
              show own_Go p e below K T18 (mkF m 179 #[.val (.int x0), .val (.int y0), .val (.int z0), .val (.int ((x0 &&& (2147483647 : Int32)) % (3 : Int32))), .val (.ref a1), .val (.int k5), .val (.int ch), .val (.int (0 : Int32)), .val (.int (0 : Int32)), .val (.int (0 : Int32)), .val (.int (0 : Int32)), .unset] [(.int ((x0 &&& (2147483647 : Int32)) % (3 : Int32)))])
              refine own_go (fun _ kk' => XS.ifNo X18.here hx rfl (hb hby at_179) rfl ((if0 _ _).trans (teq (hc8_17 : ((x0 &&& (2147483647 : Int32)) % (3 : Int32)) = (0 : Int32))).2) kk') ?_
              show own_Go p e below K T18 (mkF m 182 #[.val (.int x0), .val (.int y0), .val (.int z0), .val (.int ((x0 &&& (2147483647 : Int32)) % (3 : Int32))), .val (.ref a1), .val (.int k5), .val (.int ch), .val (.int (0 : Int32)), .val (.int (0 : Int32)), .val (.int (0 : Int32)), .val (.int (0 : Int32)), .unset] [])
              refine own_go (fun _ kk' => XS.iload X18.here hx rfl (hb hby at_182) rfl  kk') ?_
              show own_Go p e below K T18 (mkF m 184 #[.val (.int x0), .val (.int y0), .val (.int z0), .val (.int ((x0 &&& (2147483647 : Int32)) % (3 : Int32))), .val (.ref a1), .val (.int k5), .val (.int ch), .val (.int (0 : Int32)), .val (.int (0 : Int32)), .val (.int (0 : Int32)), .val (.int (0 : Int32)), .unset] [(.int (0 : Int32))])
              refine own_go (fun _ kk' => XS.ifNo X18.here hx rfl (hb hby at_184) rfl ((if0 _ _).trans (teq ((by decide) : (0 : Int32) = (0 : Int32))).2) kk') ?_
              show own_Go p e below K T18 (mkF m 187 #[.val (.int x0), .val (.int y0), .val (.int z0), .val (.int ((x0 &&& (2147483647 : Int32)) % (3 : Int32))), .val (.ref a1), .val (.int k5), .val (.int ch), .val (.int (0 : Int32)), .val (.int (0 : Int32)), .val (.int (0 : Int32)), .val (.int (0 : Int32)), .unset] [])
              refine own_go (fun _ kk' => XS.iload X18.here hx rfl (hb hby at_187) rfl  kk') ?_
              show own_Go p e below K T18 (mkF m 189 #[.val (.int x0), .val (.int y0), .val (.int z0), .val (.int ((x0 &&& (2147483647 : Int32)) % (3 : Int32))), .val (.ref a1), .val (.int k5), .val (.int ch), .val (.int (0 : Int32)), .val (.int (0 : Int32)), .val (.int (0 : Int32)), .val (.int (0 : Int32)), .unset] [(.int (0 : Int32))])
              refine own_go (fun _ kk' => XS.ifYes X18.here hx rfl (pc0 := 189) (pc' := 196) rfl (hb hby at_189) rfl ((if0 _ _).trans (teq ((by decide) : (0 : Int32) = (0 : Int32))).1) (by decide) (by decide) kk') ?_
              show own_Go p e below K T18 (mkF m 196 #[.val (.int x0), .val (.int y0), .val (.int z0), .val (.int ((x0 &&& (2147483647 : Int32)) % (3 : Int32))), .val (.ref a1), .val (.int k5), .val (.int ch), .val (.int (0 : Int32)), .val (.int (0 : Int32)), .val (.int (0 : Int32)), .val (.int (0 : Int32)), .unset] [])
              refine own_go (fun _ kk' => XS.iconst X18.here hx rfl (hb hby at_196) kk') ?_
              show own_Go p e below K T18 (mkF m 197 #[.val (.int x0), .val (.int y0), .val (.int z0), .val (.int ((x0 &&& (2147483647 : Int32)) % (3 : Int32))), .val (.ref a1), .val (.int k5), .val (.int ch), .val (.int (0 : Int32)), .val (.int (0 : Int32)), .val (.int (0 : Int32)), .val (.int (0 : Int32)), .unset] [(.int (0 : Int32))])
              refine own_go (fun _ kk' => XS.istore X18.here hx rfl (hb hby at_197) rfl (l' := #[.val (.int x0), .val (.int y0), .val (.int z0), .val (.int ((x0 &&& (2147483647 : Int32)) % (3 : Int32))), .val (.ref a1), .val (.int k5), .val (.int ch), .val (.int (0 : Int32)), .val (.int (0 : Int32)), .val (.int (0 : Int32)), .val (.int (0 : Int32)), .val (.int (0 : Int32))]) rfl kk') ?_
              show own_Go p e below K T18 (mkF m 199 #[.val (.int x0), .val (.int y0), .val (.int z0), .val (.int ((x0 &&& (2147483647 : Int32)) % (3 : Int32))), .val (.ref a1), .val (.int k5), .val (.int ch), .val (.int (0 : Int32)), .val (.int (0 : Int32)), .val (.int (0 : Int32)), .val (.int (0 : Int32)), .val (.int (0 : Int32))] [])
              refine own_go (fun _ kk' => XS.goto X18.here hx rfl (pc0 := 199) (pc' := 241) rfl (hb hby at_199) (by decide) (by decide) kk') ?_
              show own_Go p e below K T18 (mkF m 241 #[.val (.int x0), .val (.int y0), .val (.int z0), .val (.int ((x0 &&& (2147483647 : Int32)) % (3 : Int32))), .val (.ref a1), .val (.int k5), .val (.int ch), .val (.int (0 : Int32)), .val (.int (0 : Int32)), .val (.int (0 : Int32)), .val (.int (0 : Int32)), .val (.int (0 : Int32))] [])
              refine own_go (fun _ kk' => XS.aload X18.here hx rfl (hb hby at_241) rfl rfl  kk') ?_
              show own_Go p e below K T18 (mkF m 243 #[.val (.int x0), .val (.int y0), .val (.int z0), .val (.int ((x0 &&& (2147483647 : Int32)) % (3 : Int32))), .val (.ref a1), .val (.int k5), .val (.int ch), .val (.int (0 : Int32)), .val (.int (0 : Int32)), .val (.int (0 : Int32)), .val (.int (0 : Int32)), .val (.int (0 : Int32))] [(.ref a1)])
              refine own_go (fun _ kk' => XS.iload X18.here hx rfl (hb hby at_243) rfl  kk') ?_
              show own_Go p e below K T18 (mkF m 245 #[.val (.int x0), .val (.int y0), .val (.int z0), .val (.int ((x0 &&& (2147483647 : Int32)) % (3 : Int32))), .val (.ref a1), .val (.int k5), .val (.int ch), .val (.int (0 : Int32)), .val (.int (0 : Int32)), .val (.int (0 : Int32)), .val (.int (0 : Int32)), .val (.int (0 : Int32))] [(.int ch), (.ref a1)])
              refine own_callV X18 hx hZ (C := "com/example/copista/copista/io/ReferenceScanner$LineEnds") (y := (⟨"com/example/copista/copista/io/ReferenceScanner$LineEnds", "endsLine", "(C)Z"⟩ : MethodName)) (z := (⟨"com/example/copista/copista/io/ReferenceScanner$LineEnds", "endsLine", "(C)Z"⟩ : MethodName)) hown (hw _ (List.mem_of_getElem? (i := 4) rfl)) (hw _ (List.mem_of_getElem? (i := 5) rfl)) (notFace_of_selects (args := #[]) (mvT hZ (hw _ (List.mem_of_getElem? (i := 7) rfl)))) (hw _ (List.mem_of_getElem? (i := 7) rfl)) (hw _ (List.mem_of_getElem? (i := 6) rfl)) (hw _ (List.mem_of_getElem? (i := 2) rfl)) (hw _ (List.mem_of_getElem? (i := 8) rfl)) (by decide) e18 (rm := own_rme) (a := a1) E1 (argsL := [(.int ch)]) (rest := []) (own_me l Z a0 hw a1 ch (1 : Int32) (0 : Int32) h0 n0 Z0 F1c F1n) (W := 0) (by decide) (by decide) (by decide) (by decide) (g := (mkF m 245 #[.val (.int x0), .val (.int y0), .val (.int z0), .val (.int ((x0 &&& (2147483647 : Int32)) % (3 : Int32))), .val (.ref a1), .val (.int k5), .val (.int ch), .val (.int (0 : Int32)), .val (.int (0 : Int32)), .val (.int (0 : Int32)), .val (.int (0 : Int32)), .val (.int (0 : Int32))] [(.int ch), (.ref a1)])) rfl (by rw [hml]; rfl) (lenOf own_pd0 rfl) rfl (by show 2 * 0 + _ ≤ _; exact Nat.le_of_eq rfl) (hb hby at_245) ?_
              intro v27 T27 L27 X27 hQ27
              obtain ⟨rfl, Nq27, e27⟩ := hQ27
              have N27 := Fr.app N0 Nq27
              show own_Go p e below K T27 (mkF m 248 #[.val (.int x0), .val (.int y0), .val (.int z0), .val (.int ((x0 &&& (2147483647 : Int32)) % (3 : Int32))), .val (.ref a1), .val (.int k5), .val (.int ch), .val (.int (0 : Int32)), .val (.int (0 : Int32)), .val (.int (0 : Int32)), .val (.int (0 : Int32)), .val (.int (0 : Int32))] [(.int (own_ends (1 : Int32) (0 : Int32) ch))])
              refine own_go (fun _ kk' => XS.iload X27.here hx rfl (hb hby at_248) rfl  kk') ?_
              show own_Go p e below K T27 (mkF m 250 #[.val (.int x0), .val (.int y0), .val (.int z0), .val (.int ((x0 &&& (2147483647 : Int32)) % (3 : Int32))), .val (.ref a1), .val (.int k5), .val (.int ch), .val (.int (0 : Int32)), .val (.int (0 : Int32)), .val (.int (0 : Int32)), .val (.int (0 : Int32)), .val (.int (0 : Int32))] [(.int (0 : Int32)), (.int (own_ends (1 : Int32) (0 : Int32) ch))])
              refine own_go (fun _ kk' => XS.icmpNo X27.here hx rfl (hb hby at_250) rfl (teq ((by simp only [own_ends, own_tail, hc124_19, hc138_21, hc153_23, hc168_25, if_false]) : (own_ends (1 : Int32) (0 : Int32) ch) = (0 : Int32))).2 kk') ?_
              show own_Go p e below K T27 (mkF m 253 #[.val (.int x0), .val (.int y0), .val (.int z0), .val (.int ((x0 &&& (2147483647 : Int32)) % (3 : Int32))), .val (.ref a1), .val (.int k5), .val (.int ch), .val (.int (0 : Int32)), .val (.int (0 : Int32)), .val (.int (0 : Int32)), .val (.int (0 : Int32)), .val (.int (0 : Int32))] [])
              refine own_go (fun _ kk' => XS.iconst X27.here hx rfl (hb hby at_253) kk') ?_
              show own_Go p e below K T27 (mkF m 254 #[.val (.int x0), .val (.int y0), .val (.int z0), .val (.int ((x0 &&& (2147483647 : Int32)) % (3 : Int32))), .val (.ref a1), .val (.int k5), .val (.int ch), .val (.int (0 : Int32)), .val (.int (0 : Int32)), .val (.int (0 : Int32)), .val (.int (0 : Int32)), .val (.int (0 : Int32))] [(.int (1 : Int32))])
              refine own_go (fun _ kk' => XS.goto X27.here hx rfl (pc0 := 254) (pc' := 258) rfl (hb hby at_254) (by decide) (by decide) kk') ?_
              show own_Go p e below K T27 (mkF m 258 #[.val (.int x0), .val (.int y0), .val (.int z0), .val (.int ((x0 &&& (2147483647 : Int32)) % (3 : Int32))), .val (.ref a1), .val (.int k5), .val (.int ch), .val (.int (0 : Int32)), .val (.int (0 : Int32)), .val (.int (0 : Int32)), .val (.int (0 : Int32)), .val (.int (0 : Int32))] [(.int (1 : Int32))])
              exact own_retZ X27 hx hlk hK hret (by decide) (hb hby at_258) (by decide) (by decide) ⟨rfl, N27⟩
    refine own_go (fun _ kk' => XS.iloadN X18.here hx rfl (hb hby at_37) rfl  kk') ?_
    show own_Go p e below K T18 (mkF m 38 #[.val (.int x0), .val (.int y0), .val (.int z0), .val (.int ((x0 &&& (2147483647 : Int32)) % (3 : Int32))), .val (.ref a1), .unset, .unset, .unset, .unset, .unset, .unset, .unset] [(.int y0)])
    refine own_go (fun _ kk' => XS.bipush X18.here hx rfl (hb hby at_38) kk') ?_
    show own_Go p e below K T18 (mkF m 40 #[.val (.int x0), .val (.int y0), .val (.int z0), .val (.int ((x0 &&& (2147483647 : Int32)) % (3 : Int32))), .val (.ref a1), .unset, .unset, .unset, .unset, .unset, .unset, .unset] [(.int (7 : Int32)), (.int y0)])
    refine own_go (fun _ kk' => XS.iand X18.here hx rfl (hb hby at_40) rfl kk') ?_
    show own_Go p e below K T18 (mkF m 41 #[.val (.int x0), .val (.int y0), .val (.int z0), .val (.int ((x0 &&& (2147483647 : Int32)) % (3 : Int32))), .val (.ref a1), .unset, .unset, .unset, .unset, .unset, .unset, .unset] [(.int (y0 &&& (7 : Int32)))])
    refine own_go (fun _ kk' => XS.istore X18.here hx rfl (hb hby at_41) rfl (l' := #[.val (.int x0), .val (.int y0), .val (.int z0), .val (.int ((x0 &&& (2147483647 : Int32)) % (3 : Int32))), .val (.ref a1), .val (.int (y0 &&& (7 : Int32))), .unset, .unset, .unset, .unset, .unset, .unset]) rfl kk') ?_
    show own_Go p e below K T18 (mkF m 43 #[.val (.int x0), .val (.int y0), .val (.int z0), .val (.int ((x0 &&& (2147483647 : Int32)) % (3 : Int32))), .val (.ref a1), .val (.int (y0 &&& (7 : Int32))), .unset, .unset, .unset, .unset, .unset, .unset] [])
    refine own_go (fun _ kk' => XS.iload X18.here hx rfl (hb hby at_43) rfl  kk') ?_
    show own_Go p e below K T18 (mkF m 45 #[.val (.int x0), .val (.int y0), .val (.int z0), .val (.int ((x0 &&& (2147483647 : Int32)) % (3 : Int32))), .val (.ref a1), .val (.int (y0 &&& (7 : Int32))), .unset, .unset, .unset, .unset, .unset, .unset] [(.int (y0 &&& (7 : Int32)))])
    by_cases hc45_28 : (y0 &&& (7 : Int32)) = (0 : Int32)
    · refine own_go (fun _ kk' => XS.ifNo X18.here hx rfl (hb hby at_45) rfl ((if0 _ _).trans (teq (hc45_28 : (y0 &&& (7 : Int32)) = (0 : Int32))).2) kk') ?_
      show own_Go p e below K T18 (mkF m 48 #[.val (.int x0), .val (.int y0), .val (.int z0), .val (.int ((x0 &&& (2147483647 : Int32)) % (3 : Int32))), .val (.ref a1), .val (.int (y0 &&& (7 : Int32))), .unset, .unset, .unset, .unset, .unset, .unset] [])
      refine own_go (fun _ kk' => XS.bipush X18.here hx rfl (hb hby at_48) kk') ?_
      show own_Go p e below K T18 (mkF m 50 #[.val (.int x0), .val (.int y0), .val (.int z0), .val (.int ((x0 &&& (2147483647 : Int32)) % (3 : Int32))), .val (.ref a1), .val (.int (y0 &&& (7 : Int32))), .unset, .unset, .unset, .unset, .unset, .unset] [(.int (10 : Int32))])
      refine own_go (fun _ kk' => XS.istore X18.here hx rfl (hb hby at_50) rfl (l' := #[.val (.int x0), .val (.int y0), .val (.int z0), .val (.int ((x0 &&& (2147483647 : Int32)) % (3 : Int32))), .val (.ref a1), .val (.int (y0 &&& (7 : Int32))), .val (.int (10 : Int32)), .unset, .unset, .unset, .unset, .unset]) rfl kk') ?_
      show own_Go p e below K T18 (mkF m 52 #[.val (.int x0), .val (.int y0), .val (.int z0), .val (.int ((x0 &&& (2147483647 : Int32)) % (3 : Int32))), .val (.ref a1), .val (.int (y0 &&& (7 : Int32))), .val (.int (10 : Int32)), .unset, .unset, .unset, .unset, .unset] [])
      refine own_go (fun _ kk' => XS.goto X18.here hx rfl (pc0 := 52) (pc' := 120) rfl (hb hby at_52) (by decide) (by decide) kk') ?_
      show own_Go p e below K T18 (mkF m 120 #[.val (.int x0), .val (.int y0), .val (.int z0), .val (.int ((x0 &&& (2147483647 : Int32)) % (3 : Int32))), .val (.ref a1), .val (.int (y0 &&& (7 : Int32))), .val (.int (10 : Int32)), .unset, .unset, .unset, .unset, .unset] [])
      exact j120_1 _ _
    · refine own_go (fun _ kk' => XS.ifYes X18.here hx rfl (pc0 := 45) (pc' := 55) rfl (hb hby at_45) rfl ((if0 _ _).trans (feq (hc45_28 : ¬ ((y0 &&& (7 : Int32)) = (0 : Int32)))).2) (by decide) (by decide) kk') ?_
      show own_Go p e below K T18 (mkF m 55 #[.val (.int x0), .val (.int y0), .val (.int z0), .val (.int ((x0 &&& (2147483647 : Int32)) % (3 : Int32))), .val (.ref a1), .val (.int (y0 &&& (7 : Int32))), .unset, .unset, .unset, .unset, .unset, .unset] [])
      refine own_go (fun _ kk' => XS.iload X18.here hx rfl (hb hby at_55) rfl  kk') ?_
      show own_Go p e below K T18 (mkF m 57 #[.val (.int x0), .val (.int y0), .val (.int z0), .val (.int ((x0 &&& (2147483647 : Int32)) % (3 : Int32))), .val (.ref a1), .val (.int (y0 &&& (7 : Int32))), .unset, .unset, .unset, .unset, .unset, .unset] [(.int (y0 &&& (7 : Int32)))])
      refine own_go (fun _ kk' => XS.iconst X18.here hx rfl (hb hby at_57) kk') ?_
      show own_Go p e below K T18 (mkF m 58 #[.val (.int x0), .val (.int y0), .val (.int z0), .val (.int ((x0 &&& (2147483647 : Int32)) % (3 : Int32))), .val (.ref a1), .val (.int (y0 &&& (7 : Int32))), .unset, .unset, .unset, .unset, .unset, .unset] [(.int (1 : Int32)), (.int (y0 &&& (7 : Int32)))])
      by_cases hc58_29 : (y0 &&& (7 : Int32)) = (1 : Int32)
      · refine own_go (fun _ kk' => XS.icmpNo X18.here hx rfl (hb hby at_58) rfl (teq (hc58_29 : (y0 &&& (7 : Int32)) = (1 : Int32))).2 kk') ?_
        show own_Go p e below K T18 (mkF m 61 #[.val (.int x0), .val (.int y0), .val (.int z0), .val (.int ((x0 &&& (2147483647 : Int32)) % (3 : Int32))), .val (.ref a1), .val (.int (y0 &&& (7 : Int32))), .unset, .unset, .unset, .unset, .unset, .unset] [])
        refine own_go (fun _ kk' => XS.bipush X18.here hx rfl (hb hby at_61) kk') ?_
        show own_Go p e below K T18 (mkF m 63 #[.val (.int x0), .val (.int y0), .val (.int z0), .val (.int ((x0 &&& (2147483647 : Int32)) % (3 : Int32))), .val (.ref a1), .val (.int (y0 &&& (7 : Int32))), .unset, .unset, .unset, .unset, .unset, .unset] [(.int (13 : Int32))])
        refine own_go (fun _ kk' => XS.istore X18.here hx rfl (hb hby at_63) rfl (l' := #[.val (.int x0), .val (.int y0), .val (.int z0), .val (.int ((x0 &&& (2147483647 : Int32)) % (3 : Int32))), .val (.ref a1), .val (.int (y0 &&& (7 : Int32))), .val (.int (13 : Int32)), .unset, .unset, .unset, .unset, .unset]) rfl kk') ?_
        show own_Go p e below K T18 (mkF m 65 #[.val (.int x0), .val (.int y0), .val (.int z0), .val (.int ((x0 &&& (2147483647 : Int32)) % (3 : Int32))), .val (.ref a1), .val (.int (y0 &&& (7 : Int32))), .val (.int (13 : Int32)), .unset, .unset, .unset, .unset, .unset] [])
        refine own_go (fun _ kk' => XS.goto X18.here hx rfl (pc0 := 65) (pc' := 120) rfl (hb hby at_65) (by decide) (by decide) kk') ?_
        show own_Go p e below K T18 (mkF m 120 #[.val (.int x0), .val (.int y0), .val (.int z0), .val (.int ((x0 &&& (2147483647 : Int32)) % (3 : Int32))), .val (.ref a1), .val (.int (y0 &&& (7 : Int32))), .val (.int (13 : Int32)), .unset, .unset, .unset, .unset, .unset] [])
        exact j120_1 _ _
      · refine own_go (fun _ kk' => XS.icmpYes X18.here hx rfl (pc0 := 58) (pc' := 68) rfl (hb hby at_58) rfl (feq (hc58_29 : ¬ ((y0 &&& (7 : Int32)) = (1 : Int32)))).2 (by decide) (by decide) kk') ?_
        show own_Go p e below K T18 (mkF m 68 #[.val (.int x0), .val (.int y0), .val (.int z0), .val (.int ((x0 &&& (2147483647 : Int32)) % (3 : Int32))), .val (.ref a1), .val (.int (y0 &&& (7 : Int32))), .unset, .unset, .unset, .unset, .unset, .unset] [])
        refine own_go (fun _ kk' => XS.iload X18.here hx rfl (hb hby at_68) rfl  kk') ?_
        show own_Go p e below K T18 (mkF m 70 #[.val (.int x0), .val (.int y0), .val (.int z0), .val (.int ((x0 &&& (2147483647 : Int32)) % (3 : Int32))), .val (.ref a1), .val (.int (y0 &&& (7 : Int32))), .unset, .unset, .unset, .unset, .unset, .unset] [(.int (y0 &&& (7 : Int32)))])
        refine own_go (fun _ kk' => XS.iconst X18.here hx rfl (hb hby at_70) kk') ?_
        show own_Go p e below K T18 (mkF m 71 #[.val (.int x0), .val (.int y0), .val (.int z0), .val (.int ((x0 &&& (2147483647 : Int32)) % (3 : Int32))), .val (.ref a1), .val (.int (y0 &&& (7 : Int32))), .unset, .unset, .unset, .unset, .unset, .unset] [(.int (2 : Int32)), (.int (y0 &&& (7 : Int32)))])
        by_cases hc71_30 : (y0 &&& (7 : Int32)) = (2 : Int32)
        · refine own_go (fun _ kk' => XS.icmpNo X18.here hx rfl (hb hby at_71) rfl (teq (hc71_30 : (y0 &&& (7 : Int32)) = (2 : Int32))).2 kk') ?_
          show own_Go p e below K T18 (mkF m 74 #[.val (.int x0), .val (.int y0), .val (.int z0), .val (.int ((x0 &&& (2147483647 : Int32)) % (3 : Int32))), .val (.ref a1), .val (.int (y0 &&& (7 : Int32))), .unset, .unset, .unset, .unset, .unset, .unset] [])
          refine own_go (fun _ kk' => XS.sipush X18.here hx rfl (hb hby at_74) kk') ?_
          show own_Go p e below K T18 (mkF m 77 #[.val (.int x0), .val (.int y0), .val (.int z0), .val (.int ((x0 &&& (2147483647 : Int32)) % (3 : Int32))), .val (.ref a1), .val (.int (y0 &&& (7 : Int32))), .unset, .unset, .unset, .unset, .unset, .unset] [(.int (133 : Int32))])
          refine own_go (fun _ kk' => XS.istore X18.here hx rfl (hb hby at_77) rfl (l' := #[.val (.int x0), .val (.int y0), .val (.int z0), .val (.int ((x0 &&& (2147483647 : Int32)) % (3 : Int32))), .val (.ref a1), .val (.int (y0 &&& (7 : Int32))), .val (.int (133 : Int32)), .unset, .unset, .unset, .unset, .unset]) rfl kk') ?_
          show own_Go p e below K T18 (mkF m 79 #[.val (.int x0), .val (.int y0), .val (.int z0), .val (.int ((x0 &&& (2147483647 : Int32)) % (3 : Int32))), .val (.ref a1), .val (.int (y0 &&& (7 : Int32))), .val (.int (133 : Int32)), .unset, .unset, .unset, .unset, .unset] [])
          refine own_go (fun _ kk' => XS.goto X18.here hx rfl (pc0 := 79) (pc' := 120) rfl (hb hby at_79) (by decide) (by decide) kk') ?_
          show own_Go p e below K T18 (mkF m 120 #[.val (.int x0), .val (.int y0), .val (.int z0), .val (.int ((x0 &&& (2147483647 : Int32)) % (3 : Int32))), .val (.ref a1), .val (.int (y0 &&& (7 : Int32))), .val (.int (133 : Int32)), .unset, .unset, .unset, .unset, .unset] [])
          exact j120_1 _ _
        · refine own_go (fun _ kk' => XS.icmpYes X18.here hx rfl (pc0 := 71) (pc' := 82) rfl (hb hby at_71) rfl (feq (hc71_30 : ¬ ((y0 &&& (7 : Int32)) = (2 : Int32)))).2 (by decide) (by decide) kk') ?_
          show own_Go p e below K T18 (mkF m 82 #[.val (.int x0), .val (.int y0), .val (.int z0), .val (.int ((x0 &&& (2147483647 : Int32)) % (3 : Int32))), .val (.ref a1), .val (.int (y0 &&& (7 : Int32))), .unset, .unset, .unset, .unset, .unset, .unset] [])
          refine own_go (fun _ kk' => XS.iload X18.here hx rfl (hb hby at_82) rfl  kk') ?_
          show own_Go p e below K T18 (mkF m 84 #[.val (.int x0), .val (.int y0), .val (.int z0), .val (.int ((x0 &&& (2147483647 : Int32)) % (3 : Int32))), .val (.ref a1), .val (.int (y0 &&& (7 : Int32))), .unset, .unset, .unset, .unset, .unset, .unset] [(.int (y0 &&& (7 : Int32)))])
          refine own_go (fun _ kk' => XS.iconst X18.here hx rfl (hb hby at_84) kk') ?_
          show own_Go p e below K T18 (mkF m 85 #[.val (.int x0), .val (.int y0), .val (.int z0), .val (.int ((x0 &&& (2147483647 : Int32)) % (3 : Int32))), .val (.ref a1), .val (.int (y0 &&& (7 : Int32))), .unset, .unset, .unset, .unset, .unset, .unset] [(.int (3 : Int32)), (.int (y0 &&& (7 : Int32)))])
          by_cases hc85_31 : (y0 &&& (7 : Int32)) = (3 : Int32)
          · refine own_go (fun _ kk' => XS.icmpNo X18.here hx rfl (hb hby at_85) rfl (teq (hc85_31 : (y0 &&& (7 : Int32)) = (3 : Int32))).2 kk') ?_
            show own_Go p e below K T18 (mkF m 88 #[.val (.int x0), .val (.int y0), .val (.int z0), .val (.int ((x0 &&& (2147483647 : Int32)) % (3 : Int32))), .val (.ref a1), .val (.int (y0 &&& (7 : Int32))), .unset, .unset, .unset, .unset, .unset, .unset] [])
            refine own_go (fun _ kk' => XS.sipush X18.here hx rfl (hb hby at_88) kk') ?_
            show own_Go p e below K T18 (mkF m 91 #[.val (.int x0), .val (.int y0), .val (.int z0), .val (.int ((x0 &&& (2147483647 : Int32)) % (3 : Int32))), .val (.ref a1), .val (.int (y0 &&& (7 : Int32))), .unset, .unset, .unset, .unset, .unset, .unset] [(.int (8232 : Int32))])
            refine own_go (fun _ kk' => XS.istore X18.here hx rfl (hb hby at_91) rfl (l' := #[.val (.int x0), .val (.int y0), .val (.int z0), .val (.int ((x0 &&& (2147483647 : Int32)) % (3 : Int32))), .val (.ref a1), .val (.int (y0 &&& (7 : Int32))), .val (.int (8232 : Int32)), .unset, .unset, .unset, .unset, .unset]) rfl kk') ?_
            show own_Go p e below K T18 (mkF m 93 #[.val (.int x0), .val (.int y0), .val (.int z0), .val (.int ((x0 &&& (2147483647 : Int32)) % (3 : Int32))), .val (.ref a1), .val (.int (y0 &&& (7 : Int32))), .val (.int (8232 : Int32)), .unset, .unset, .unset, .unset, .unset] [])
            refine own_go (fun _ kk' => XS.goto X18.here hx rfl (pc0 := 93) (pc' := 120) rfl (hb hby at_93) (by decide) (by decide) kk') ?_
            show own_Go p e below K T18 (mkF m 120 #[.val (.int x0), .val (.int y0), .val (.int z0), .val (.int ((x0 &&& (2147483647 : Int32)) % (3 : Int32))), .val (.ref a1), .val (.int (y0 &&& (7 : Int32))), .val (.int (8232 : Int32)), .unset, .unset, .unset, .unset, .unset] [])
            exact j120_1 _ _
          · refine own_go (fun _ kk' => XS.icmpYes X18.here hx rfl (pc0 := 85) (pc' := 96) rfl (hb hby at_85) rfl (feq (hc85_31 : ¬ ((y0 &&& (7 : Int32)) = (3 : Int32)))).2 (by decide) (by decide) kk') ?_
            show own_Go p e below K T18 (mkF m 96 #[.val (.int x0), .val (.int y0), .val (.int z0), .val (.int ((x0 &&& (2147483647 : Int32)) % (3 : Int32))), .val (.ref a1), .val (.int (y0 &&& (7 : Int32))), .unset, .unset, .unset, .unset, .unset, .unset] [])
            refine own_go (fun _ kk' => XS.iload X18.here hx rfl (hb hby at_96) rfl  kk') ?_
            show own_Go p e below K T18 (mkF m 98 #[.val (.int x0), .val (.int y0), .val (.int z0), .val (.int ((x0 &&& (2147483647 : Int32)) % (3 : Int32))), .val (.ref a1), .val (.int (y0 &&& (7 : Int32))), .unset, .unset, .unset, .unset, .unset, .unset] [(.int (y0 &&& (7 : Int32)))])
            refine own_go (fun _ kk' => XS.iconst X18.here hx rfl (hb hby at_98) kk') ?_
            show own_Go p e below K T18 (mkF m 99 #[.val (.int x0), .val (.int y0), .val (.int z0), .val (.int ((x0 &&& (2147483647 : Int32)) % (3 : Int32))), .val (.ref a1), .val (.int (y0 &&& (7 : Int32))), .unset, .unset, .unset, .unset, .unset, .unset] [(.int (4 : Int32)), (.int (y0 &&& (7 : Int32)))])
            by_cases hc99_32 : (y0 &&& (7 : Int32)) = (4 : Int32)
            · refine own_go (fun _ kk' => XS.icmpNo X18.here hx rfl (hb hby at_99) rfl (teq (hc99_32 : (y0 &&& (7 : Int32)) = (4 : Int32))).2 kk') ?_
              show own_Go p e below K T18 (mkF m 102 #[.val (.int x0), .val (.int y0), .val (.int z0), .val (.int ((x0 &&& (2147483647 : Int32)) % (3 : Int32))), .val (.ref a1), .val (.int (y0 &&& (7 : Int32))), .unset, .unset, .unset, .unset, .unset, .unset] [])
              refine own_go (fun _ kk' => XS.iloadN X18.here hx rfl (hb hby at_102) rfl  kk') ?_
              show own_Go p e below K T18 (mkF m 103 #[.val (.int x0), .val (.int y0), .val (.int z0), .val (.int ((x0 &&& (2147483647 : Int32)) % (3 : Int32))), .val (.ref a1), .val (.int (y0 &&& (7 : Int32))), .unset, .unset, .unset, .unset, .unset, .unset] [(.int z0)])
              refine own_go (fun _ kk' => XS.sipush X18.here hx rfl (hb hby at_103) kk') ?_
              show own_Go p e below K T18 (mkF m 106 #[.val (.int x0), .val (.int y0), .val (.int z0), .val (.int ((x0 &&& (2147483647 : Int32)) % (3 : Int32))), .val (.ref a1), .val (.int (y0 &&& (7 : Int32))), .unset, .unset, .unset, .unset, .unset, .unset] [(.int (255 : Int32)), (.int z0)])
              refine own_go (fun _ kk' => XS.iand X18.here hx rfl (hb hby at_106) rfl kk') ?_
              show own_Go p e below K T18 (mkF m 107 #[.val (.int x0), .val (.int y0), .val (.int z0), .val (.int ((x0 &&& (2147483647 : Int32)) % (3 : Int32))), .val (.ref a1), .val (.int (y0 &&& (7 : Int32))), .unset, .unset, .unset, .unset, .unset, .unset] [(.int (z0 &&& (255 : Int32)))])
              refine own_go (fun _ kk' => XS.i2c X18.here hx rfl (hb hby at_107) rfl kk') ?_
              show own_Go p e below K T18 (mkF m 108 #[.val (.int x0), .val (.int y0), .val (.int z0), .val (.int ((x0 &&& (2147483647 : Int32)) % (3 : Int32))), .val (.ref a1), .val (.int (y0 &&& (7 : Int32))), .unset, .unset, .unset, .unset, .unset, .unset] [(.int ((z0 &&& (255 : Int32)).toUInt32.toUInt16.toUInt32.toInt32))])
              refine own_go (fun _ kk' => XS.istore X18.here hx rfl (hb hby at_108) rfl (l' := #[.val (.int x0), .val (.int y0), .val (.int z0), .val (.int ((x0 &&& (2147483647 : Int32)) % (3 : Int32))), .val (.ref a1), .val (.int (y0 &&& (7 : Int32))), .val (.int ((z0 &&& (255 : Int32)).toUInt32.toUInt16.toUInt32.toInt32)), .unset, .unset, .unset, .unset, .unset]) rfl kk') ?_
              show own_Go p e below K T18 (mkF m 110 #[.val (.int x0), .val (.int y0), .val (.int z0), .val (.int ((x0 &&& (2147483647 : Int32)) % (3 : Int32))), .val (.ref a1), .val (.int (y0 &&& (7 : Int32))), .val (.int ((z0 &&& (255 : Int32)).toUInt32.toUInt16.toUInt32.toInt32)), .unset, .unset, .unset, .unset, .unset] [])
              refine own_go (fun _ kk' => XS.goto X18.here hx rfl (pc0 := 110) (pc' := 120) rfl (hb hby at_110) (by decide) (by decide) kk') ?_
              show own_Go p e below K T18 (mkF m 120 #[.val (.int x0), .val (.int y0), .val (.int z0), .val (.int ((x0 &&& (2147483647 : Int32)) % (3 : Int32))), .val (.ref a1), .val (.int (y0 &&& (7 : Int32))), .val (.int ((z0 &&& (255 : Int32)).toUInt32.toUInt16.toUInt32.toInt32)), .unset, .unset, .unset, .unset, .unset] [])
              exact j120_1 _ _
            · refine own_go (fun _ kk' => XS.icmpYes X18.here hx rfl (pc0 := 99) (pc' := 113) rfl (hb hby at_99) rfl (feq (hc99_32 : ¬ ((y0 &&& (7 : Int32)) = (4 : Int32)))).2 (by decide) (by decide) kk') ?_
              show own_Go p e below K T18 (mkF m 113 #[.val (.int x0), .val (.int y0), .val (.int z0), .val (.int ((x0 &&& (2147483647 : Int32)) % (3 : Int32))), .val (.ref a1), .val (.int (y0 &&& (7 : Int32))), .unset, .unset, .unset, .unset, .unset, .unset] [])
              refine own_go (fun _ kk' => XS.iloadN X18.here hx rfl (hb hby at_113) rfl  kk') ?_
              show own_Go p e below K T18 (mkF m 114 #[.val (.int x0), .val (.int y0), .val (.int z0), .val (.int ((x0 &&& (2147483647 : Int32)) % (3 : Int32))), .val (.ref a1), .val (.int (y0 &&& (7 : Int32))), .unset, .unset, .unset, .unset, .unset, .unset] [(.int z0)])
              refine own_go (fun tt' kk' => X18.ldcInt hx hown (mvT hZ (hw _ (List.mem_of_getElem? (i := 15) rfl))) (g := (mkF m 114 #[.val (.int x0), .val (.int y0), .val (.int z0), .val (.int ((x0 &&& (2147483647 : Int32)) % (3 : Int32))), .val (.ref a1), .val (.int (y0 &&& (7 : Int32))), .unset, .unset, .unset, .unset, .unset, .unset] [(.int z0)])) rfl (hb hby at_114) tt' kk') ?_
              show own_Go p e below K T18 (mkF m 116 #[.val (.int x0), .val (.int y0), .val (.int z0), .val (.int ((x0 &&& (2147483647 : Int32)) % (3 : Int32))), .val (.ref a1), .val (.int (y0 &&& (7 : Int32))), .unset, .unset, .unset, .unset, .unset, .unset] [(.int (65535 : Int32)), (.int z0)])
              refine own_go (fun _ kk' => XS.iand X18.here hx rfl (hb hby at_116) rfl kk') ?_
              show own_Go p e below K T18 (mkF m 117 #[.val (.int x0), .val (.int y0), .val (.int z0), .val (.int ((x0 &&& (2147483647 : Int32)) % (3 : Int32))), .val (.ref a1), .val (.int (y0 &&& (7 : Int32))), .unset, .unset, .unset, .unset, .unset, .unset] [(.int (z0 &&& (65535 : Int32)))])
              refine own_go (fun _ kk' => XS.i2c X18.here hx rfl (hb hby at_117) rfl kk') ?_
              show own_Go p e below K T18 (mkF m 118 #[.val (.int x0), .val (.int y0), .val (.int z0), .val (.int ((x0 &&& (2147483647 : Int32)) % (3 : Int32))), .val (.ref a1), .val (.int (y0 &&& (7 : Int32))), .unset, .unset, .unset, .unset, .unset, .unset] [(.int ((z0 &&& (65535 : Int32)).toUInt32.toUInt16.toUInt32.toInt32))])
              refine own_go (fun _ kk' => XS.istore X18.here hx rfl (hb hby at_118) rfl (l' := #[.val (.int x0), .val (.int y0), .val (.int z0), .val (.int ((x0 &&& (2147483647 : Int32)) % (3 : Int32))), .val (.ref a1), .val (.int (y0 &&& (7 : Int32))), .val (.int ((z0 &&& (65535 : Int32)).toUInt32.toUInt16.toUInt32.toInt32)), .unset, .unset, .unset, .unset, .unset]) rfl kk') ?_
              show own_Go p e below K T18 (mkF m 120 #[.val (.int x0), .val (.int y0), .val (.int z0), .val (.int ((x0 &&& (2147483647 : Int32)) % (3 : Int32))), .val (.ref a1), .val (.int (y0 &&& (7 : Int32))), .val (.int ((z0 &&& (65535 : Int32)).toUInt32.toUInt16.toUInt32.toInt32)), .unset, .unset, .unset, .unset, .unset] [])
              exact j120_1 _ _
  · refine own_go (fun _ kk' => XS.ifYes X0.here hx rfl (pc0 := 8) (pc' := 19) rfl (hb hby at_8) rfl ((if0 _ _).trans (feq (hc8_17 : ¬ (((x0 &&& (2147483647 : Int32)) % (3 : Int32)) = (0 : Int32)))).2) (by decide) (by decide) kk') ?_
    show own_Go p e below K T0 (mkF m 19 #[.val (.int x0), .val (.int y0), .val (.int z0), .val (.int ((x0 &&& (2147483647 : Int32)) % (3 : Int32))), .unset, .unset, .unset, .unset, .unset, .unset, .unset, .unset] [])
    refine own_go (fun _ kk' => XS.iloadN X0.here hx rfl (hb hby at_19) rfl  kk') ?_
    show own_Go p e below K T0 (mkF m 20 #[.val (.int x0), .val (.int y0), .val (.int z0), .val (.int ((x0 &&& (2147483647 : Int32)) % (3 : Int32))), .unset, .unset, .unset, .unset, .unset, .unset, .unset, .unset] [(.int ((x0 &&& (2147483647 : Int32)) % (3 : Int32)))])
    refine own_go (fun _ kk' => XS.iconst X0.here hx rfl (hb hby at_20) kk') ?_
    show own_Go p e below K T0 (mkF m 21 #[.val (.int x0), .val (.int y0), .val (.int z0), .val (.int ((x0 &&& (2147483647 : Int32)) % (3 : Int32))), .unset, .unset, .unset, .unset, .unset, .unset, .unset, .unset] [(.int (1 : Int32)), (.int ((x0 &&& (2147483647 : Int32)) % (3 : Int32)))])
    by_cases hc21_33 : ((x0 &&& (2147483647 : Int32)) % (3 : Int32)) = (1 : Int32)
    · refine own_go (fun _ kk' => XS.icmpNo X0.here hx rfl (hb hby at_21) rfl (teq (hc21_33 : ((x0 &&& (2147483647 : Int32)) % (3 : Int32)) = (1 : Int32))).2 kk') ?_
      show own_Go p e below K T0 (mkF m 24 #[.val (.int x0), .val (.int y0), .val (.int z0), .val (.int ((x0 &&& (2147483647 : Int32)) % (3 : Int32))), .unset, .unset, .unset, .unset, .unset, .unset, .unset, .unset] [])
      obtain ⟨T34, X34, e34, st34⟩ := getS2 X0 hx hZ hown (host := "") (Or.inl (hw _ (List.mem_of_getElem? (i := 11) rfl))) Via.refl e0 S2 (g := (mkF m 24 #[.val (.int x0), .val (.int y0), .val (.int z0), .val (.int ((x0 &&& (2147483647 : Int32)) % (3 : Int32))), .unset, .unset, .unset, .unset, .unset, .unset, .unset, .unset] [])) rfl (hb hby at_24)
      refine own_go st34 ?_
      show own_Go p e below K T34 (mkF m 27 #[.val (.int x0), .val (.int y0), .val (.int z0), .val (.int ((x0 &&& (2147483647 : Int32)) % (3 : Int32))), .unset, .unset, .unset, .unset, .unset, .unset, .unset, .unset] [(.ref a2)])
      refine own_go (fun _ kk' => XS.astore X34.here hx rfl (hb hby at_27) rfl rfl (l' := #[.val (.int x0), .val (.int y0), .val (.int z0), .val (.int ((x0 &&& (2147483647 : Int32)) % (3 : Int32))), .val (.ref a2), .unset, .unset, .unset, .unset, .unset, .unset, .unset]) rfl kk') ?_
      show own_Go p e below K T34 (mkF m 29 #[.val (.int x0), .val (.int y0), .val (.int z0), .val (.int ((x0 &&& (2147483647 : Int32)) % (3 : Int32))), .val (.ref a2), .unset, .unset, .unset, .unset, .unset, .unset, .unset] [])
      refine own_go (fun _ kk' => XS.goto X34.here hx rfl (pc0 := 29) (pc' := 37) rfl (hb hby at_29) (by decide) (by decide) kk') ?_
      show own_Go p e below K T34 (mkF m 37 #[.val (.int x0), .val (.int y0), .val (.int z0), .val (.int ((x0 &&& (2147483647 : Int32)) % (3 : Int32))), .val (.ref a2), .unset, .unset, .unset, .unset, .unset, .unset, .unset] [])
      have j120_2 : ∀ (k5 ch : Int32), own_Go p e below K T34 (mkF m 120 #[.val (.int x0), .val (.int y0), .val (.int z0), .val (.int ((x0 &&& (2147483647 : Int32)) % (3 : Int32))), .val (.ref a2), .val (.int k5), .val (.int ch), .unset, .unset, .unset, .unset, .unset] []) := by
        intro k5 ch
        refine own_go (fun _ kk' => XS.iload X34.here hx rfl (hb hby at_120) rfl  kk') ?_
        show own_Go p e below K T34 (mkF m 122 #[.val (.int x0), .val (.int y0), .val (.int z0), .val (.int ((x0 &&& (2147483647 : Int32)) % (3 : Int32))), .val (.ref a2), .val (.int k5), .val (.int ch), .unset, .unset, .unset, .unset, .unset] [(.int ch)])
        refine own_go (fun _ kk' => XS.bipush X34.here hx rfl (hb hby at_122) kk') ?_
        show own_Go p e below K T34 (mkF m 124 #[.val (.int x0), .val (.int y0), .val (.int z0), .val (.int ((x0 &&& (2147483647 : Int32)) % (3 : Int32))), .val (.ref a2), .val (.int k5), .val (.int ch), .unset, .unset, .unset, .unset, .unset] [(.int (10 : Int32)), (.int ch)])
        by_cases hc124_35 : ch = (10 : Int32)
        · refine own_go (fun _ kk' => XS.icmpNo X34.here hx rfl (hb hby at_124) rfl (teq (hc124_35 : ch = (10 : Int32))).2 kk') ?_
          show own_Go p e below K T34 (mkF m 127 #[.val (.int x0), .val (.int y0), .val (.int z0), .val (.int ((x0 &&& (2147483647 : Int32)) % (3 : Int32))), .val (.ref a2), .val (.int k5), .val (.int ch), .unset, .unset, .unset, .unset, .unset] [])
          refine own_go (fun _ kk' => XS.iconst X34.here hx rfl (hb hby at_127) kk') ?_
          show own_Go p e below K T34 (mkF m 128 #[.val (.int x0), .val (.int y0), .val (.int z0), .val (.int ((x0 &&& (2147483647 : Int32)) % (3 : Int32))), .val (.ref a2), .val (.int k5), .val (.int ch), .unset, .unset, .unset, .unset, .unset] [(.int (1 : Int32))])
          refine own_go (fun _ kk' => XS.goto X34.here hx rfl (pc0 := 128) (pc' := 132) rfl (hb hby at_128) (by decide) (by decide) kk') ?_
          show own_Go p e below K T34 (mkF m 132 #[.val (.int x0), .val (.int y0), .val (.int z0), .val (.int ((x0 &&& (2147483647 : Int32)) % (3 : Int32))), .val (.ref a2), .val (.int k5), .val (.int ch), .unset, .unset, .unset, .unset, .unset] [(.int (1 : Int32))])
          refine own_go (fun _ kk' => XS.istore X34.here hx rfl (hb hby at_132) rfl (l' := #[.val (.int x0), .val (.int y0), .val (.int z0), .val (.int ((x0 &&& (2147483647 : Int32)) % (3 : Int32))), .val (.ref a2), .val (.int k5), .val (.int ch), .val (.int (1 : Int32)), .unset, .unset, .unset, .unset]) rfl kk') ?_
          show own_Go p e below K T34 (mkF m 134 #[.val (.int x0), .val (.int y0), .val (.int z0), .val (.int ((x0 &&& (2147483647 : Int32)) % (3 : Int32))), .val (.ref a2), .val (.int k5), .val (.int ch), .val (.int (1 : Int32)), .unset, .unset, .unset, .unset] [])
          refine own_go (fun _ kk' => XS.iload X34.here hx rfl (hb hby at_134) rfl  kk') ?_
          show own_Go p e below K T34 (mkF m 136 #[.val (.int x0), .val (.int y0), .val (.int z0), .val (.int ((x0 &&& (2147483647 : Int32)) % (3 : Int32))), .val (.ref a2), .val (.int k5), .val (.int ch), .val (.int (1 : Int32)), .unset, .unset, .unset, .unset] [(.int ch)])
          refine own_go (fun _ kk' => XS.bipush X34.here hx rfl (hb hby at_136) kk') ?_
          show own_Go p e below K T34 (mkF m 138 #[.val (.int x0), .val (.int y0), .val (.int z0), .val (.int ((x0 &&& (2147483647 : Int32)) % (3 : Int32))), .val (.ref a2), .val (.int k5), .val (.int ch), .val (.int (1 : Int32)), .unset, .unset, .unset, .unset] [(.int (13 : Int32)), (.int ch)])
          refine own_go (fun _ kk' => XS.icmpYes X34.here hx rfl (pc0 := 138) (pc' := 145) rfl (hb hby at_138) rfl (feq ((fun q => absurd (hc124_35.symm.trans q) (by decide)) : ¬ (ch = (13 : Int32)))).2 (by decide) (by decide) kk') ?_
          show own_Go p e below K T34 (mkF m 145 #[.val (.int x0), .val (.int y0), .val (.int z0), .val (.int ((x0 &&& (2147483647 : Int32)) % (3 : Int32))), .val (.ref a2), .val (.int k5), .val (.int ch), .val (.int (1 : Int32)), .unset, .unset, .unset, .unset] [])
          refine own_go (fun _ kk' => XS.iconst X34.here hx rfl (hb hby at_145) kk') ?_
          show own_Go p e below K T34 (mkF m 146 #[.val (.int x0), .val (.int y0), .val (.int z0), .val (.int ((x0 &&& (2147483647 : Int32)) % (3 : Int32))), .val (.ref a2), .val (.int k5), .val (.int ch), .val (.int (1 : Int32)), .unset, .unset, .unset, .unset] [(.int (0 : Int32))])
          refine own_go (fun _ kk' => XS.istore X34.here hx rfl (hb hby at_146) rfl (l' := #[.val (.int x0), .val (.int y0), .val (.int z0), .val (.int ((x0 &&& (2147483647 : Int32)) % (3 : Int32))), .val (.ref a2), .val (.int k5), .val (.int ch), .val (.int (1 : Int32)), .val (.int (0 : Int32)), .unset, .unset, .unset]) rfl kk') ?_
          show own_Go p e below K T34 (mkF m 148 #[.val (.int x0), .val (.int y0), .val (.int z0), .val (.int ((x0 &&& (2147483647 : Int32)) % (3 : Int32))), .val (.ref a2), .val (.int k5), .val (.int ch), .val (.int (1 : Int32)), .val (.int (0 : Int32)), .unset, .unset, .unset] [])
          refine own_go (fun _ kk' => XS.iload X34.here hx rfl (hb hby at_148) rfl  kk') ?_
          show own_Go p e below K T34 (mkF m 150 #[.val (.int x0), .val (.int y0), .val (.int z0), .val (.int ((x0 &&& (2147483647 : Int32)) % (3 : Int32))), .val (.ref a2), .val (.int k5), .val (.int ch), .val (.int (1 : Int32)), .val (.int (0 : Int32)), .unset, .unset, .unset] [(.int ch)])
          refine own_go (fun _ kk' => XS.sipush X34.here hx rfl (hb hby at_150) kk') ?_
          show own_Go p e below K T34 (mkF m 153 #[.val (.int x0), .val (.int y0), .val (.int z0), .val (.int ((x0 &&& (2147483647 : Int32)) % (3 : Int32))), .val (.ref a2), .val (.int k5), .val (.int ch), .val (.int (1 : Int32)), .val (.int (0 : Int32)), .unset, .unset, .unset] [(.int (133 : Int32)), (.int ch)])
          refine own_go (fun _ kk' => XS.icmpYes X34.here hx rfl (pc0 := 153) (pc' := 160) rfl (hb hby at_153) rfl (feq ((fun q => absurd (hc124_35.symm.trans q) (by decide)) : ¬ (ch = (133 : Int32)))).2 (by decide) (by decide) kk') ?_
          show own_Go p e below K T34 (mkF m 160 #[.val (.int x0), .val (.int y0), .val (.int z0), .val (.int ((x0 &&& (2147483647 : Int32)) % (3 : Int32))), .val (.ref a2), .val (.int k5), .val (.int ch), .val (.int (1 : Int32)), .val (.int (0 : Int32)), .unset, .unset, .unset] [])
          refine own_go (fun _ kk' => XS.iconst X34.here hx rfl (hb hby at_160) kk') ?_
          show own_Go p e below K T34 (mkF m 161 #[.val (.int x0), .val (.int y0), .val (.int z0), .val (.int ((x0 &&& (2147483647 : Int32)) % (3 : Int32))), .val (.ref a2), .val (.int k5), .val (.int ch), .val (.int (1 : Int32)), .val (.int (0 : Int32)), .unset, .unset, .unset] [(.int (0 : Int32))])
          refine own_go (fun _ kk' => XS.istore X34.here hx rfl (hb hby at_161) rfl (l' := #[.val (.int x0), .val (.int y0), .val (.int z0), .val (.int ((x0 &&& (2147483647 : Int32)) % (3 : Int32))), .val (.ref a2), .val (.int k5), .val (.int ch), .val (.int (1 : Int32)), .val (.int (0 : Int32)), .val (.int (0 : Int32)), .unset, .unset]) rfl kk') ?_
          show own_Go p e below K T34 (mkF m 163 #[.val (.int x0), .val (.int y0), .val (.int z0), .val (.int ((x0 &&& (2147483647 : Int32)) % (3 : Int32))), .val (.ref a2), .val (.int k5), .val (.int ch), .val (.int (1 : Int32)), .val (.int (0 : Int32)), .val (.int (0 : Int32)), .unset, .unset] [])
          refine own_go (fun _ kk' => XS.iload X34.here hx rfl (hb hby at_163) rfl  kk') ?_
          show own_Go p e below K T34 (mkF m 165 #[.val (.int x0), .val (.int y0), .val (.int z0), .val (.int ((x0 &&& (2147483647 : Int32)) % (3 : Int32))), .val (.ref a2), .val (.int k5), .val (.int ch), .val (.int (1 : Int32)), .val (.int (0 : Int32)), .val (.int (0 : Int32)), .unset, .unset] [(.int ch)])
          refine own_go (fun _ kk' => XS.sipush X34.here hx rfl (hb hby at_165) kk') ?_
          show own_Go p e below K T34 (mkF m 168 #[.val (.int x0), .val (.int y0), .val (.int z0), .val (.int ((x0 &&& (2147483647 : Int32)) % (3 : Int32))), .val (.ref a2), .val (.int k5), .val (.int ch), .val (.int (1 : Int32)), .val (.int (0 : Int32)), .val (.int (0 : Int32)), .unset, .unset] [(.int (8232 : Int32)), (.int ch)])
          refine own_go (fun _ kk' => XS.icmpYes X34.here hx rfl (pc0 := 168) (pc' := 175) rfl (hb hby at_168) rfl (feq ((fun q => absurd (hc124_35.symm.trans q) (by decide)) : ¬ (ch = (8232 : Int32)))).2 (by decide) (by decide) kk') ?_
          show own_Go p e below K T34 (mkF m 175 #[.val (.int x0), .val (.int y0), .val (.int z0), .val (.int ((x0 &&& (2147483647 : Int32)) % (3 : Int32))), .val (.ref a2), .val (.int k5), .val (.int ch), .val (.int (1 : Int32)), .val (.int (0 : Int32)), .val (.int (0 : Int32)), .unset, .unset] [])
          refine own_go (fun _ kk' => XS.iconst X34.here hx rfl (hb hby at_175) kk') ?_
          show own_Go p e below K T34 (mkF m 176 #[.val (.int x0), .val (.int y0), .val (.int z0), .val (.int ((x0 &&& (2147483647 : Int32)) % (3 : Int32))), .val (.ref a2), .val (.int k5), .val (.int ch), .val (.int (1 : Int32)), .val (.int (0 : Int32)), .val (.int (0 : Int32)), .unset, .unset] [(.int (0 : Int32))])
          refine own_go (fun _ kk' => XS.istore X34.here hx rfl (hb hby at_176) rfl (l' := #[.val (.int x0), .val (.int y0), .val (.int z0), .val (.int ((x0 &&& (2147483647 : Int32)) % (3 : Int32))), .val (.ref a2), .val (.int k5), .val (.int ch), .val (.int (1 : Int32)), .val (.int (0 : Int32)), .val (.int (0 : Int32)), .val (.int (0 : Int32)), .unset]) rfl kk') ?_
          show own_Go p e below K T34 (mkF m 178 #[.val (.int x0), .val (.int y0), .val (.int z0), .val (.int ((x0 &&& (2147483647 : Int32)) % (3 : Int32))), .val (.ref a2), .val (.int k5), .val (.int ch), .val (.int (1 : Int32)), .val (.int (0 : Int32)), .val (.int (0 : Int32)), .val (.int (0 : Int32)), .unset] [])
          refine own_go (fun _ kk' => XS.iloadN X34.here hx rfl (hb hby at_178) rfl  kk') ?_
          show own_Go p e below K T34 (mkF m 179 #[.val (.int x0), .val (.int y0), .val (.int z0), .val (.int ((x0 &&& (2147483647 : Int32)) % (3 : Int32))), .val (.ref a2), .val (.int k5), .val (.int ch), .val (.int (1 : Int32)), .val (.int (0 : Int32)), .val (.int (0 : Int32)), .val (.int (0 : Int32)), .unset] [(.int ((x0 &&& (2147483647 : Int32)) % (3 : Int32)))])
          refine own_go (fun _ kk' => XS.ifYes X34.here hx rfl (pc0 := 179) (pc' := 202) rfl (hb hby at_179) rfl ((if0 _ _).trans (feq (hc8_17 : ¬ (((x0 &&& (2147483647 : Int32)) % (3 : Int32)) = (0 : Int32)))).2) (by decide) (by decide) kk') ?_
          show own_Go p e below K T34 (mkF m 202 #[.val (.int x0), .val (.int y0), .val (.int z0), .val (.int ((x0 &&& (2147483647 : Int32)) % (3 : Int32))), .val (.ref a2), .val (.int k5), .val (.int ch), .val (.int (1 : Int32)), .val (.int (0 : Int32)), .val (.int (0 : Int32)), .val (.int (0 : Int32)), .unset] [])
          refine own_go (fun _ kk' => XS.iloadN X34.here hx rfl (hb hby at_202) rfl  kk') ?_
          show own_Go p e below K T34 (mkF m 203 #[.val (.int x0), .val (.int y0), .val (.int z0), .val (.int ((x0 &&& (2147483647 : Int32)) % (3 : Int32))), .val (.ref a2), .val (.int k5), .val (.int ch), .val (.int (1 : Int32)), .val (.int (0 : Int32)), .val (.int (0 : Int32)), .val (.int (0 : Int32)), .unset] [(.int ((x0 &&& (2147483647 : Int32)) % (3 : Int32)))])
          refine own_go (fun _ kk' => XS.iconst X34.here hx rfl (hb hby at_203) kk') ?_
          show own_Go p e below K T34 (mkF m 204 #[.val (.int x0), .val (.int y0), .val (.int z0), .val (.int ((x0 &&& (2147483647 : Int32)) % (3 : Int32))), .val (.ref a2), .val (.int k5), .val (.int ch), .val (.int (1 : Int32)), .val (.int (0 : Int32)), .val (.int (0 : Int32)), .val (.int (0 : Int32)), .unset] [(.int (1 : Int32)), (.int ((x0 &&& (2147483647 : Int32)) % (3 : Int32)))])
          refine own_go (fun _ kk' => XS.icmpNo X34.here hx rfl (hb hby at_204) rfl (teq (hc21_33 : ((x0 &&& (2147483647 : Int32)) % (3 : Int32)) = (1 : Int32))).2 kk') ?_
          show own_Go p e below K T34 (mkF m 207 #[.val (.int x0), .val (.int y0), .val (.int z0), .val (.int ((x0 &&& (2147483647 : Int32)) % (3 : Int32))), .val (.ref a2), .val (.int k5), .val (.int ch), .val (.int (1 : Int32)), .val (.int (0 : Int32)), .val (.int (0 : Int32)), .val (.int (0 : Int32)), .unset] [])
          refine own_go (fun _ kk' => XS.iload X34.here hx rfl (hb hby at_207) rfl  kk') ?_
          show own_Go p e below K T34 (mkF m 209 #[.val (.int x0), .val (.int y0), .val (.int z0), .val (.int ((x0 &&& (2147483647 : Int32)) % (3 : Int32))), .val (.ref a2), .val (.int k5), .val (.int ch), .val (.int (1 : Int32)), .val (.int (0 : Int32)), .val (.int (0 : Int32)), .val (.int (0 : Int32)), .unset] [(.int (1 : Int32))])
          refine own_go (fun _ kk' => XS.ifYes X34.here hx rfl (pc0 := 209) (pc' := 227) rfl (hb hby at_209) rfl ((if0 _ _).trans (feq ((by decide) : ¬ ((1 : Int32) = (0 : Int32)))).2) (by decide) (by decide) kk') ?_
          show own_Go p e below K T34 (mkF m 227 #[.val (.int x0), .val (.int y0), .val (.int z0), .val (.int ((x0 &&& (2147483647 : Int32)) % (3 : Int32))), .val (.ref a2), .val (.int k5), .val (.int ch), .val (.int (1 : Int32)), .val (.int (0 : Int32)), .val (.int (0 : Int32)), .val (.int (0 : Int32)), .unset] [])
          refine own_go (fun _ kk' => XS.iconst X34.here hx rfl (hb hby at_227) kk') ?_
          show own_Go p e below K T34 (mkF m 228 #[.val (.int x0), .val (.int y0), .val (.int z0), .val (.int ((x0 &&& (2147483647 : Int32)) % (3 : Int32))), .val (.ref a2), .val (.int k5), .val (.int ch), .val (.int (1 : Int32)), .val (.int (0 : Int32)), .val (.int (0 : Int32)), .val (.int (0 : Int32)), .unset] [(.int (1 : Int32))])
          refine own_go (fun _ kk' => XS.goto X34.here hx rfl (pc0 := 228) (pc' := 232) rfl (hb hby at_228) (by decide) (by decide) kk') ?_
          show own_Go p e below K T34 (mkF m 232 #[.val (.int x0), .val (.int y0), .val (.int z0), .val (.int ((x0 &&& (2147483647 : Int32)) % (3 : Int32))), .val (.ref a2), .val (.int k5), .val (.int ch), .val (.int (1 : Int32)), .val (.int (0 : Int32)), .val (.int (0 : Int32)), .val (.int (0 : Int32)), .unset] [(.int (1 : Int32))])
          refine own_go (fun _ kk' => XS.istore X34.here hx rfl (hb hby at_232) rfl (l' := #[.val (.int x0), .val (.int y0), .val (.int z0), .val (.int ((x0 &&& (2147483647 : Int32)) % (3 : Int32))), .val (.ref a2), .val (.int k5), .val (.int ch), .val (.int (1 : Int32)), .val (.int (0 : Int32)), .val (.int (0 : Int32)), .val (.int (0 : Int32)), .val (.int (1 : Int32))]) rfl kk') ?_
          show own_Go p e below K T34 (mkF m 234 #[.val (.int x0), .val (.int y0), .val (.int z0), .val (.int ((x0 &&& (2147483647 : Int32)) % (3 : Int32))), .val (.ref a2), .val (.int k5), .val (.int ch), .val (.int (1 : Int32)), .val (.int (0 : Int32)), .val (.int (0 : Int32)), .val (.int (0 : Int32)), .val (.int (1 : Int32))] [])
          refine own_go (fun _ kk' => XS.goto X34.here hx rfl (pc0 := 234) (pc' := 241) rfl (hb hby at_234) (by decide) (by decide) kk') ?_
          show own_Go p e below K T34 (mkF m 241 #[.val (.int x0), .val (.int y0), .val (.int z0), .val (.int ((x0 &&& (2147483647 : Int32)) % (3 : Int32))), .val (.ref a2), .val (.int k5), .val (.int ch), .val (.int (1 : Int32)), .val (.int (0 : Int32)), .val (.int (0 : Int32)), .val (.int (0 : Int32)), .val (.int (1 : Int32))] [])
          refine own_go (fun _ kk' => XS.aload X34.here hx rfl (hb hby at_241) rfl rfl  kk') ?_
          show own_Go p e below K T34 (mkF m 243 #[.val (.int x0), .val (.int y0), .val (.int z0), .val (.int ((x0 &&& (2147483647 : Int32)) % (3 : Int32))), .val (.ref a2), .val (.int k5), .val (.int ch), .val (.int (1 : Int32)), .val (.int (0 : Int32)), .val (.int (0 : Int32)), .val (.int (0 : Int32)), .val (.int (1 : Int32))] [(.ref a2)])
          refine own_go (fun _ kk' => XS.iload X34.here hx rfl (hb hby at_243) rfl  kk') ?_
          show own_Go p e below K T34 (mkF m 245 #[.val (.int x0), .val (.int y0), .val (.int z0), .val (.int ((x0 &&& (2147483647 : Int32)) % (3 : Int32))), .val (.ref a2), .val (.int k5), .val (.int ch), .val (.int (1 : Int32)), .val (.int (0 : Int32)), .val (.int (0 : Int32)), .val (.int (0 : Int32)), .val (.int (1 : Int32))] [(.int ch), (.ref a2)])
          refine own_callV X34 hx hZ (C := "com/example/copista/copista/io/ReferenceScanner$LineEnds") (y := (⟨"com/example/copista/copista/io/ReferenceScanner$LineEnds", "endsLine", "(C)Z"⟩ : MethodName)) (z := (⟨"com/example/copista/copista/io/ReferenceScanner$LineEnds", "endsLine", "(C)Z"⟩ : MethodName)) hown (hw _ (List.mem_of_getElem? (i := 4) rfl)) (hw _ (List.mem_of_getElem? (i := 5) rfl)) (notFace_of_selects (args := #[]) (mvT hZ (hw _ (List.mem_of_getElem? (i := 7) rfl)))) (hw _ (List.mem_of_getElem? (i := 7) rfl)) (hw _ (List.mem_of_getElem? (i := 6) rfl)) (hw _ (List.mem_of_getElem? (i := 2) rfl)) (hw _ (List.mem_of_getElem? (i := 8) rfl)) (by decide) e34 (rm := own_rme) (a := a2) E2 (argsL := [(.int ch)]) (rest := []) (own_me l Z a0 hw a2 ch (1 : Int32) (1 : Int32) h0 n0 Z0 F2c F2n) (W := 0) (by decide) (by decide) (by decide) (by decide) (g := (mkF m 245 #[.val (.int x0), .val (.int y0), .val (.int z0), .val (.int ((x0 &&& (2147483647 : Int32)) % (3 : Int32))), .val (.ref a2), .val (.int k5), .val (.int ch), .val (.int (1 : Int32)), .val (.int (0 : Int32)), .val (.int (0 : Int32)), .val (.int (0 : Int32)), .val (.int (1 : Int32))] [(.int ch), (.ref a2)])) rfl (by rw [hml]; rfl) (lenOf own_pd0 rfl) rfl (by show 2 * 0 + _ ≤ _; exact Nat.le_of_eq rfl) (hb hby at_245) ?_
          intro v36 T36 L36 X36 hQ36
          obtain ⟨rfl, Nq36, e36⟩ := hQ36
          have N36 := Fr.app N0 Nq36
          show own_Go p e below K T36 (mkF m 248 #[.val (.int x0), .val (.int y0), .val (.int z0), .val (.int ((x0 &&& (2147483647 : Int32)) % (3 : Int32))), .val (.ref a2), .val (.int k5), .val (.int ch), .val (.int (1 : Int32)), .val (.int (0 : Int32)), .val (.int (0 : Int32)), .val (.int (0 : Int32)), .val (.int (1 : Int32))] [(.int (own_ends (1 : Int32) (1 : Int32) ch))])
          refine own_go (fun _ kk' => XS.iload X36.here hx rfl (hb hby at_248) rfl  kk') ?_
          show own_Go p e below K T36 (mkF m 250 #[.val (.int x0), .val (.int y0), .val (.int z0), .val (.int ((x0 &&& (2147483647 : Int32)) % (3 : Int32))), .val (.ref a2), .val (.int k5), .val (.int ch), .val (.int (1 : Int32)), .val (.int (0 : Int32)), .val (.int (0 : Int32)), .val (.int (0 : Int32)), .val (.int (1 : Int32))] [(.int (1 : Int32)), (.int (own_ends (1 : Int32) (1 : Int32) ch))])
          refine own_go (fun _ kk' => XS.icmpNo X36.here hx rfl (hb hby at_250) rfl (teq ((by rw [hc124_35]; decide) : (own_ends (1 : Int32) (1 : Int32) ch) = (1 : Int32))).2 kk') ?_
          show own_Go p e below K T36 (mkF m 253 #[.val (.int x0), .val (.int y0), .val (.int z0), .val (.int ((x0 &&& (2147483647 : Int32)) % (3 : Int32))), .val (.ref a2), .val (.int k5), .val (.int ch), .val (.int (1 : Int32)), .val (.int (0 : Int32)), .val (.int (0 : Int32)), .val (.int (0 : Int32)), .val (.int (1 : Int32))] [])
          refine own_go (fun _ kk' => XS.iconst X36.here hx rfl (hb hby at_253) kk') ?_
          show own_Go p e below K T36 (mkF m 254 #[.val (.int x0), .val (.int y0), .val (.int z0), .val (.int ((x0 &&& (2147483647 : Int32)) % (3 : Int32))), .val (.ref a2), .val (.int k5), .val (.int ch), .val (.int (1 : Int32)), .val (.int (0 : Int32)), .val (.int (0 : Int32)), .val (.int (0 : Int32)), .val (.int (1 : Int32))] [(.int (1 : Int32))])
          refine own_go (fun _ kk' => XS.goto X36.here hx rfl (pc0 := 254) (pc' := 258) rfl (hb hby at_254) (by decide) (by decide) kk') ?_
          show own_Go p e below K T36 (mkF m 258 #[.val (.int x0), .val (.int y0), .val (.int z0), .val (.int ((x0 &&& (2147483647 : Int32)) % (3 : Int32))), .val (.ref a2), .val (.int k5), .val (.int ch), .val (.int (1 : Int32)), .val (.int (0 : Int32)), .val (.int (0 : Int32)), .val (.int (0 : Int32)), .val (.int (1 : Int32))] [(.int (1 : Int32))])
          exact own_retZ X36 hx hlk hK hret (by decide) (hb hby at_258) (by decide) (by decide) ⟨rfl, N36⟩
        · refine own_go (fun _ kk' => XS.icmpYes X34.here hx rfl (pc0 := 124) (pc' := 131) rfl (hb hby at_124) rfl (feq (hc124_35 : ¬ (ch = (10 : Int32)))).2 (by decide) (by decide) kk') ?_
          show own_Go p e below K T34 (mkF m 131 #[.val (.int x0), .val (.int y0), .val (.int z0), .val (.int ((x0 &&& (2147483647 : Int32)) % (3 : Int32))), .val (.ref a2), .val (.int k5), .val (.int ch), .unset, .unset, .unset, .unset, .unset] [])
          refine own_go (fun _ kk' => XS.iconst X34.here hx rfl (hb hby at_131) kk') ?_
          show own_Go p e below K T34 (mkF m 132 #[.val (.int x0), .val (.int y0), .val (.int z0), .val (.int ((x0 &&& (2147483647 : Int32)) % (3 : Int32))), .val (.ref a2), .val (.int k5), .val (.int ch), .unset, .unset, .unset, .unset, .unset] [(.int (0 : Int32))])
          refine own_go (fun _ kk' => XS.istore X34.here hx rfl (hb hby at_132) rfl (l' := #[.val (.int x0), .val (.int y0), .val (.int z0), .val (.int ((x0 &&& (2147483647 : Int32)) % (3 : Int32))), .val (.ref a2), .val (.int k5), .val (.int ch), .val (.int (0 : Int32)), .unset, .unset, .unset, .unset]) rfl kk') ?_
          show own_Go p e below K T34 (mkF m 134 #[.val (.int x0), .val (.int y0), .val (.int z0), .val (.int ((x0 &&& (2147483647 : Int32)) % (3 : Int32))), .val (.ref a2), .val (.int k5), .val (.int ch), .val (.int (0 : Int32)), .unset, .unset, .unset, .unset] [])
          refine own_go (fun _ kk' => XS.iload X34.here hx rfl (hb hby at_134) rfl  kk') ?_
          show own_Go p e below K T34 (mkF m 136 #[.val (.int x0), .val (.int y0), .val (.int z0), .val (.int ((x0 &&& (2147483647 : Int32)) % (3 : Int32))), .val (.ref a2), .val (.int k5), .val (.int ch), .val (.int (0 : Int32)), .unset, .unset, .unset, .unset] [(.int ch)])
          refine own_go (fun _ kk' => XS.bipush X34.here hx rfl (hb hby at_136) kk') ?_
          show own_Go p e below K T34 (mkF m 138 #[.val (.int x0), .val (.int y0), .val (.int z0), .val (.int ((x0 &&& (2147483647 : Int32)) % (3 : Int32))), .val (.ref a2), .val (.int k5), .val (.int ch), .val (.int (0 : Int32)), .unset, .unset, .unset, .unset] [(.int (13 : Int32)), (.int ch)])
          by_cases hc138_37 : ch = (13 : Int32)
          · refine own_go (fun _ kk' => XS.icmpNo X34.here hx rfl (hb hby at_138) rfl (teq (hc138_37 : ch = (13 : Int32))).2 kk') ?_
            show own_Go p e below K T34 (mkF m 141 #[.val (.int x0), .val (.int y0), .val (.int z0), .val (.int ((x0 &&& (2147483647 : Int32)) % (3 : Int32))), .val (.ref a2), .val (.int k5), .val (.int ch), .val (.int (0 : Int32)), .unset, .unset, .unset, .unset] [])
            refine own_go (fun _ kk' => XS.iconst X34.here hx rfl (hb hby at_141) kk') ?_
            show own_Go p e below K T34 (mkF m 142 #[.val (.int x0), .val (.int y0), .val (.int z0), .val (.int ((x0 &&& (2147483647 : Int32)) % (3 : Int32))), .val (.ref a2), .val (.int k5), .val (.int ch), .val (.int (0 : Int32)), .unset, .unset, .unset, .unset] [(.int (1 : Int32))])
            refine own_go (fun _ kk' => XS.goto X34.here hx rfl (pc0 := 142) (pc' := 146) rfl (hb hby at_142) (by decide) (by decide) kk') ?_
            show own_Go p e below K T34 (mkF m 146 #[.val (.int x0), .val (.int y0), .val (.int z0), .val (.int ((x0 &&& (2147483647 : Int32)) % (3 : Int32))), .val (.ref a2), .val (.int k5), .val (.int ch), .val (.int (0 : Int32)), .unset, .unset, .unset, .unset] [(.int (1 : Int32))])
            refine own_go (fun _ kk' => XS.istore X34.here hx rfl (hb hby at_146) rfl (l' := #[.val (.int x0), .val (.int y0), .val (.int z0), .val (.int ((x0 &&& (2147483647 : Int32)) % (3 : Int32))), .val (.ref a2), .val (.int k5), .val (.int ch), .val (.int (0 : Int32)), .val (.int (1 : Int32)), .unset, .unset, .unset]) rfl kk') ?_
            show own_Go p e below K T34 (mkF m 148 #[.val (.int x0), .val (.int y0), .val (.int z0), .val (.int ((x0 &&& (2147483647 : Int32)) % (3 : Int32))), .val (.ref a2), .val (.int k5), .val (.int ch), .val (.int (0 : Int32)), .val (.int (1 : Int32)), .unset, .unset, .unset] [])
            refine own_go (fun _ kk' => XS.iload X34.here hx rfl (hb hby at_148) rfl  kk') ?_
            show own_Go p e below K T34 (mkF m 150 #[.val (.int x0), .val (.int y0), .val (.int z0), .val (.int ((x0 &&& (2147483647 : Int32)) % (3 : Int32))), .val (.ref a2), .val (.int k5), .val (.int ch), .val (.int (0 : Int32)), .val (.int (1 : Int32)), .unset, .unset, .unset] [(.int ch)])
            refine own_go (fun _ kk' => XS.sipush X34.here hx rfl (hb hby at_150) kk') ?_
            show own_Go p e below K T34 (mkF m 153 #[.val (.int x0), .val (.int y0), .val (.int z0), .val (.int ((x0 &&& (2147483647 : Int32)) % (3 : Int32))), .val (.ref a2), .val (.int k5), .val (.int ch), .val (.int (0 : Int32)), .val (.int (1 : Int32)), .unset, .unset, .unset] [(.int (133 : Int32)), (.int ch)])
            refine own_go (fun _ kk' => XS.icmpYes X34.here hx rfl (pc0 := 153) (pc' := 160) rfl (hb hby at_153) rfl (feq ((fun q => absurd (hc138_37.symm.trans q) (by decide)) : ¬ (ch = (133 : Int32)))).2 (by decide) (by decide) kk') ?_
            show own_Go p e below K T34 (mkF m 160 #[.val (.int x0), .val (.int y0), .val (.int z0), .val (.int ((x0 &&& (2147483647 : Int32)) % (3 : Int32))), .val (.ref a2), .val (.int k5), .val (.int ch), .val (.int (0 : Int32)), .val (.int (1 : Int32)), .unset, .unset, .unset] [])
            refine own_go (fun _ kk' => XS.iconst X34.here hx rfl (hb hby at_160) kk') ?_
            show own_Go p e below K T34 (mkF m 161 #[.val (.int x0), .val (.int y0), .val (.int z0), .val (.int ((x0 &&& (2147483647 : Int32)) % (3 : Int32))), .val (.ref a2), .val (.int k5), .val (.int ch), .val (.int (0 : Int32)), .val (.int (1 : Int32)), .unset, .unset, .unset] [(.int (0 : Int32))])
            refine own_go (fun _ kk' => XS.istore X34.here hx rfl (hb hby at_161) rfl (l' := #[.val (.int x0), .val (.int y0), .val (.int z0), .val (.int ((x0 &&& (2147483647 : Int32)) % (3 : Int32))), .val (.ref a2), .val (.int k5), .val (.int ch), .val (.int (0 : Int32)), .val (.int (1 : Int32)), .val (.int (0 : Int32)), .unset, .unset]) rfl kk') ?_
            show own_Go p e below K T34 (mkF m 163 #[.val (.int x0), .val (.int y0), .val (.int z0), .val (.int ((x0 &&& (2147483647 : Int32)) % (3 : Int32))), .val (.ref a2), .val (.int k5), .val (.int ch), .val (.int (0 : Int32)), .val (.int (1 : Int32)), .val (.int (0 : Int32)), .unset, .unset] [])
            refine own_go (fun _ kk' => XS.iload X34.here hx rfl (hb hby at_163) rfl  kk') ?_
            show own_Go p e below K T34 (mkF m 165 #[.val (.int x0), .val (.int y0), .val (.int z0), .val (.int ((x0 &&& (2147483647 : Int32)) % (3 : Int32))), .val (.ref a2), .val (.int k5), .val (.int ch), .val (.int (0 : Int32)), .val (.int (1 : Int32)), .val (.int (0 : Int32)), .unset, .unset] [(.int ch)])
            refine own_go (fun _ kk' => XS.sipush X34.here hx rfl (hb hby at_165) kk') ?_
            show own_Go p e below K T34 (mkF m 168 #[.val (.int x0), .val (.int y0), .val (.int z0), .val (.int ((x0 &&& (2147483647 : Int32)) % (3 : Int32))), .val (.ref a2), .val (.int k5), .val (.int ch), .val (.int (0 : Int32)), .val (.int (1 : Int32)), .val (.int (0 : Int32)), .unset, .unset] [(.int (8232 : Int32)), (.int ch)])
            refine own_go (fun _ kk' => XS.icmpYes X34.here hx rfl (pc0 := 168) (pc' := 175) rfl (hb hby at_168) rfl (feq ((fun q => absurd (hc138_37.symm.trans q) (by decide)) : ¬ (ch = (8232 : Int32)))).2 (by decide) (by decide) kk') ?_
            show own_Go p e below K T34 (mkF m 175 #[.val (.int x0), .val (.int y0), .val (.int z0), .val (.int ((x0 &&& (2147483647 : Int32)) % (3 : Int32))), .val (.ref a2), .val (.int k5), .val (.int ch), .val (.int (0 : Int32)), .val (.int (1 : Int32)), .val (.int (0 : Int32)), .unset, .unset] [])
            refine own_go (fun _ kk' => XS.iconst X34.here hx rfl (hb hby at_175) kk') ?_
            show own_Go p e below K T34 (mkF m 176 #[.val (.int x0), .val (.int y0), .val (.int z0), .val (.int ((x0 &&& (2147483647 : Int32)) % (3 : Int32))), .val (.ref a2), .val (.int k5), .val (.int ch), .val (.int (0 : Int32)), .val (.int (1 : Int32)), .val (.int (0 : Int32)), .unset, .unset] [(.int (0 : Int32))])
            refine own_go (fun _ kk' => XS.istore X34.here hx rfl (hb hby at_176) rfl (l' := #[.val (.int x0), .val (.int y0), .val (.int z0), .val (.int ((x0 &&& (2147483647 : Int32)) % (3 : Int32))), .val (.ref a2), .val (.int k5), .val (.int ch), .val (.int (0 : Int32)), .val (.int (1 : Int32)), .val (.int (0 : Int32)), .val (.int (0 : Int32)), .unset]) rfl kk') ?_
            show own_Go p e below K T34 (mkF m 178 #[.val (.int x0), .val (.int y0), .val (.int z0), .val (.int ((x0 &&& (2147483647 : Int32)) % (3 : Int32))), .val (.ref a2), .val (.int k5), .val (.int ch), .val (.int (0 : Int32)), .val (.int (1 : Int32)), .val (.int (0 : Int32)), .val (.int (0 : Int32)), .unset] [])
            refine own_go (fun _ kk' => XS.iloadN X34.here hx rfl (hb hby at_178) rfl  kk') ?_
            show own_Go p e below K T34 (mkF m 179 #[.val (.int x0), .val (.int y0), .val (.int z0), .val (.int ((x0 &&& (2147483647 : Int32)) % (3 : Int32))), .val (.ref a2), .val (.int k5), .val (.int ch), .val (.int (0 : Int32)), .val (.int (1 : Int32)), .val (.int (0 : Int32)), .val (.int (0 : Int32)), .unset] [(.int ((x0 &&& (2147483647 : Int32)) % (3 : Int32)))])
            refine own_go (fun _ kk' => XS.ifYes X34.here hx rfl (pc0 := 179) (pc' := 202) rfl (hb hby at_179) rfl ((if0 _ _).trans (feq (hc8_17 : ¬ (((x0 &&& (2147483647 : Int32)) % (3 : Int32)) = (0 : Int32)))).2) (by decide) (by decide) kk') ?_
            show own_Go p e below K T34 (mkF m 202 #[.val (.int x0), .val (.int y0), .val (.int z0), .val (.int ((x0 &&& (2147483647 : Int32)) % (3 : Int32))), .val (.ref a2), .val (.int k5), .val (.int ch), .val (.int (0 : Int32)), .val (.int (1 : Int32)), .val (.int (0 : Int32)), .val (.int (0 : Int32)), .unset] [])
            refine own_go (fun _ kk' => XS.iloadN X34.here hx rfl (hb hby at_202) rfl  kk') ?_
            show own_Go p e below K T34 (mkF m 203 #[.val (.int x0), .val (.int y0), .val (.int z0), .val (.int ((x0 &&& (2147483647 : Int32)) % (3 : Int32))), .val (.ref a2), .val (.int k5), .val (.int ch), .val (.int (0 : Int32)), .val (.int (1 : Int32)), .val (.int (0 : Int32)), .val (.int (0 : Int32)), .unset] [(.int ((x0 &&& (2147483647 : Int32)) % (3 : Int32)))])
            refine own_go (fun _ kk' => XS.iconst X34.here hx rfl (hb hby at_203) kk') ?_
            show own_Go p e below K T34 (mkF m 204 #[.val (.int x0), .val (.int y0), .val (.int z0), .val (.int ((x0 &&& (2147483647 : Int32)) % (3 : Int32))), .val (.ref a2), .val (.int k5), .val (.int ch), .val (.int (0 : Int32)), .val (.int (1 : Int32)), .val (.int (0 : Int32)), .val (.int (0 : Int32)), .unset] [(.int (1 : Int32)), (.int ((x0 &&& (2147483647 : Int32)) % (3 : Int32)))])
            refine own_go (fun _ kk' => XS.icmpNo X34.here hx rfl (hb hby at_204) rfl (teq (hc21_33 : ((x0 &&& (2147483647 : Int32)) % (3 : Int32)) = (1 : Int32))).2 kk') ?_
            show own_Go p e below K T34 (mkF m 207 #[.val (.int x0), .val (.int y0), .val (.int z0), .val (.int ((x0 &&& (2147483647 : Int32)) % (3 : Int32))), .val (.ref a2), .val (.int k5), .val (.int ch), .val (.int (0 : Int32)), .val (.int (1 : Int32)), .val (.int (0 : Int32)), .val (.int (0 : Int32)), .unset] [])
            refine own_go (fun _ kk' => XS.iload X34.here hx rfl (hb hby at_207) rfl  kk') ?_
            show own_Go p e below K T34 (mkF m 209 #[.val (.int x0), .val (.int y0), .val (.int z0), .val (.int ((x0 &&& (2147483647 : Int32)) % (3 : Int32))), .val (.ref a2), .val (.int k5), .val (.int ch), .val (.int (0 : Int32)), .val (.int (1 : Int32)), .val (.int (0 : Int32)), .val (.int (0 : Int32)), .unset] [(.int (0 : Int32))])
            refine own_go (fun _ kk' => XS.ifNo X34.here hx rfl (hb hby at_209) rfl ((if0 _ _).trans (teq ((by decide) : (0 : Int32) = (0 : Int32))).2) kk') ?_
            show own_Go p e below K T34 (mkF m 212 #[.val (.int x0), .val (.int y0), .val (.int z0), .val (.int ((x0 &&& (2147483647 : Int32)) % (3 : Int32))), .val (.ref a2), .val (.int k5), .val (.int ch), .val (.int (0 : Int32)), .val (.int (1 : Int32)), .val (.int (0 : Int32)), .val (.int (0 : Int32)), .unset] [])
            refine own_go (fun _ kk' => XS.iload X34.here hx rfl (hb hby at_212) rfl  kk') ?_
            show own_Go p e below K T34 (mkF m 214 #[.val (.int x0), .val (.int y0), .val (.int z0), .val (.int ((x0 &&& (2147483647 : Int32)) % (3 : Int32))), .val (.ref a2), .val (.int k5), .val (.int ch), .val (.int (0 : Int32)), .val (.int (1 : Int32)), .val (.int (0 : Int32)), .val (.int (0 : Int32)), .unset] [(.int (1 : Int32))])
            refine own_go (fun _ kk' => XS.ifYes X34.here hx rfl (pc0 := 214) (pc' := 227) rfl (hb hby at_214) rfl ((if0 _ _).trans (feq ((by decide) : ¬ ((1 : Int32) = (0 : Int32)))).2) (by decide) (by decide) kk') ?_
            show own_Go p e below K T34 (mkF m 227 #[.val (.int x0), .val (.int y0), .val (.int z0), .val (.int ((x0 &&& (2147483647 : Int32)) % (3 : Int32))), .val (.ref a2), .val (.int k5), .val (.int ch), .val (.int (0 : Int32)), .val (.int (1 : Int32)), .val (.int (0 : Int32)), .val (.int (0 : Int32)), .unset] [])
            refine own_go (fun _ kk' => XS.iconst X34.here hx rfl (hb hby at_227) kk') ?_
            show own_Go p e below K T34 (mkF m 228 #[.val (.int x0), .val (.int y0), .val (.int z0), .val (.int ((x0 &&& (2147483647 : Int32)) % (3 : Int32))), .val (.ref a2), .val (.int k5), .val (.int ch), .val (.int (0 : Int32)), .val (.int (1 : Int32)), .val (.int (0 : Int32)), .val (.int (0 : Int32)), .unset] [(.int (1 : Int32))])
            refine own_go (fun _ kk' => XS.goto X34.here hx rfl (pc0 := 228) (pc' := 232) rfl (hb hby at_228) (by decide) (by decide) kk') ?_
            show own_Go p e below K T34 (mkF m 232 #[.val (.int x0), .val (.int y0), .val (.int z0), .val (.int ((x0 &&& (2147483647 : Int32)) % (3 : Int32))), .val (.ref a2), .val (.int k5), .val (.int ch), .val (.int (0 : Int32)), .val (.int (1 : Int32)), .val (.int (0 : Int32)), .val (.int (0 : Int32)), .unset] [(.int (1 : Int32))])
            refine own_go (fun _ kk' => XS.istore X34.here hx rfl (hb hby at_232) rfl (l' := #[.val (.int x0), .val (.int y0), .val (.int z0), .val (.int ((x0 &&& (2147483647 : Int32)) % (3 : Int32))), .val (.ref a2), .val (.int k5), .val (.int ch), .val (.int (0 : Int32)), .val (.int (1 : Int32)), .val (.int (0 : Int32)), .val (.int (0 : Int32)), .val (.int (1 : Int32))]) rfl kk') ?_
            show own_Go p e below K T34 (mkF m 234 #[.val (.int x0), .val (.int y0), .val (.int z0), .val (.int ((x0 &&& (2147483647 : Int32)) % (3 : Int32))), .val (.ref a2), .val (.int k5), .val (.int ch), .val (.int (0 : Int32)), .val (.int (1 : Int32)), .val (.int (0 : Int32)), .val (.int (0 : Int32)), .val (.int (1 : Int32))] [])
            refine own_go (fun _ kk' => XS.goto X34.here hx rfl (pc0 := 234) (pc' := 241) rfl (hb hby at_234) (by decide) (by decide) kk') ?_
            show own_Go p e below K T34 (mkF m 241 #[.val (.int x0), .val (.int y0), .val (.int z0), .val (.int ((x0 &&& (2147483647 : Int32)) % (3 : Int32))), .val (.ref a2), .val (.int k5), .val (.int ch), .val (.int (0 : Int32)), .val (.int (1 : Int32)), .val (.int (0 : Int32)), .val (.int (0 : Int32)), .val (.int (1 : Int32))] [])
            refine own_go (fun _ kk' => XS.aload X34.here hx rfl (hb hby at_241) rfl rfl  kk') ?_
            show own_Go p e below K T34 (mkF m 243 #[.val (.int x0), .val (.int y0), .val (.int z0), .val (.int ((x0 &&& (2147483647 : Int32)) % (3 : Int32))), .val (.ref a2), .val (.int k5), .val (.int ch), .val (.int (0 : Int32)), .val (.int (1 : Int32)), .val (.int (0 : Int32)), .val (.int (0 : Int32)), .val (.int (1 : Int32))] [(.ref a2)])
            refine own_go (fun _ kk' => XS.iload X34.here hx rfl (hb hby at_243) rfl  kk') ?_
            show own_Go p e below K T34 (mkF m 245 #[.val (.int x0), .val (.int y0), .val (.int z0), .val (.int ((x0 &&& (2147483647 : Int32)) % (3 : Int32))), .val (.ref a2), .val (.int k5), .val (.int ch), .val (.int (0 : Int32)), .val (.int (1 : Int32)), .val (.int (0 : Int32)), .val (.int (0 : Int32)), .val (.int (1 : Int32))] [(.int ch), (.ref a2)])
            refine own_callV X34 hx hZ (C := "com/example/copista/copista/io/ReferenceScanner$LineEnds") (y := (⟨"com/example/copista/copista/io/ReferenceScanner$LineEnds", "endsLine", "(C)Z"⟩ : MethodName)) (z := (⟨"com/example/copista/copista/io/ReferenceScanner$LineEnds", "endsLine", "(C)Z"⟩ : MethodName)) hown (hw _ (List.mem_of_getElem? (i := 4) rfl)) (hw _ (List.mem_of_getElem? (i := 5) rfl)) (notFace_of_selects (args := #[]) (mvT hZ (hw _ (List.mem_of_getElem? (i := 7) rfl)))) (hw _ (List.mem_of_getElem? (i := 7) rfl)) (hw _ (List.mem_of_getElem? (i := 6) rfl)) (hw _ (List.mem_of_getElem? (i := 2) rfl)) (hw _ (List.mem_of_getElem? (i := 8) rfl)) (by decide) e34 (rm := own_rme) (a := a2) E2 (argsL := [(.int ch)]) (rest := []) (own_me l Z a0 hw a2 ch (1 : Int32) (1 : Int32) h0 n0 Z0 F2c F2n) (W := 0) (by decide) (by decide) (by decide) (by decide) (g := (mkF m 245 #[.val (.int x0), .val (.int y0), .val (.int z0), .val (.int ((x0 &&& (2147483647 : Int32)) % (3 : Int32))), .val (.ref a2), .val (.int k5), .val (.int ch), .val (.int (0 : Int32)), .val (.int (1 : Int32)), .val (.int (0 : Int32)), .val (.int (0 : Int32)), .val (.int (1 : Int32))] [(.int ch), (.ref a2)])) rfl (by rw [hml]; rfl) (lenOf own_pd0 rfl) rfl (by show 2 * 0 + _ ≤ _; exact Nat.le_of_eq rfl) (hb hby at_245) ?_
            intro v38 T38 L38 X38 hQ38
            obtain ⟨rfl, Nq38, e38⟩ := hQ38
            have N38 := Fr.app N0 Nq38
            show own_Go p e below K T38 (mkF m 248 #[.val (.int x0), .val (.int y0), .val (.int z0), .val (.int ((x0 &&& (2147483647 : Int32)) % (3 : Int32))), .val (.ref a2), .val (.int k5), .val (.int ch), .val (.int (0 : Int32)), .val (.int (1 : Int32)), .val (.int (0 : Int32)), .val (.int (0 : Int32)), .val (.int (1 : Int32))] [(.int (own_ends (1 : Int32) (1 : Int32) ch))])
            refine own_go (fun _ kk' => XS.iload X38.here hx rfl (hb hby at_248) rfl  kk') ?_
            show own_Go p e below K T38 (mkF m 250 #[.val (.int x0), .val (.int y0), .val (.int z0), .val (.int ((x0 &&& (2147483647 : Int32)) % (3 : Int32))), .val (.ref a2), .val (.int k5), .val (.int ch), .val (.int (0 : Int32)), .val (.int (1 : Int32)), .val (.int (0 : Int32)), .val (.int (0 : Int32)), .val (.int (1 : Int32))] [(.int (1 : Int32)), (.int (own_ends (1 : Int32) (1 : Int32) ch))])
            refine own_go (fun _ kk' => XS.icmpNo X38.here hx rfl (hb hby at_250) rfl (teq ((by rw [hc138_37]; decide) : (own_ends (1 : Int32) (1 : Int32) ch) = (1 : Int32))).2 kk') ?_
            show own_Go p e below K T38 (mkF m 253 #[.val (.int x0), .val (.int y0), .val (.int z0), .val (.int ((x0 &&& (2147483647 : Int32)) % (3 : Int32))), .val (.ref a2), .val (.int k5), .val (.int ch), .val (.int (0 : Int32)), .val (.int (1 : Int32)), .val (.int (0 : Int32)), .val (.int (0 : Int32)), .val (.int (1 : Int32))] [])
            refine own_go (fun _ kk' => XS.iconst X38.here hx rfl (hb hby at_253) kk') ?_
            show own_Go p e below K T38 (mkF m 254 #[.val (.int x0), .val (.int y0), .val (.int z0), .val (.int ((x0 &&& (2147483647 : Int32)) % (3 : Int32))), .val (.ref a2), .val (.int k5), .val (.int ch), .val (.int (0 : Int32)), .val (.int (1 : Int32)), .val (.int (0 : Int32)), .val (.int (0 : Int32)), .val (.int (1 : Int32))] [(.int (1 : Int32))])
            refine own_go (fun _ kk' => XS.goto X38.here hx rfl (pc0 := 254) (pc' := 258) rfl (hb hby at_254) (by decide) (by decide) kk') ?_
            show own_Go p e below K T38 (mkF m 258 #[.val (.int x0), .val (.int y0), .val (.int z0), .val (.int ((x0 &&& (2147483647 : Int32)) % (3 : Int32))), .val (.ref a2), .val (.int k5), .val (.int ch), .val (.int (0 : Int32)), .val (.int (1 : Int32)), .val (.int (0 : Int32)), .val (.int (0 : Int32)), .val (.int (1 : Int32))] [(.int (1 : Int32))])
            exact own_retZ X38 hx hlk hK hret (by decide) (hb hby at_258) (by decide) (by decide) ⟨rfl, N38⟩
          · refine own_go (fun _ kk' => XS.icmpYes X34.here hx rfl (pc0 := 138) (pc' := 145) rfl (hb hby at_138) rfl (feq (hc138_37 : ¬ (ch = (13 : Int32)))).2 (by decide) (by decide) kk') ?_
            show own_Go p e below K T34 (mkF m 145 #[.val (.int x0), .val (.int y0), .val (.int z0), .val (.int ((x0 &&& (2147483647 : Int32)) % (3 : Int32))), .val (.ref a2), .val (.int k5), .val (.int ch), .val (.int (0 : Int32)), .unset, .unset, .unset, .unset] [])
            refine own_go (fun _ kk' => XS.iconst X34.here hx rfl (hb hby at_145) kk') ?_
            show own_Go p e below K T34 (mkF m 146 #[.val (.int x0), .val (.int y0), .val (.int z0), .val (.int ((x0 &&& (2147483647 : Int32)) % (3 : Int32))), .val (.ref a2), .val (.int k5), .val (.int ch), .val (.int (0 : Int32)), .unset, .unset, .unset, .unset] [(.int (0 : Int32))])
            refine own_go (fun _ kk' => XS.istore X34.here hx rfl (hb hby at_146) rfl (l' := #[.val (.int x0), .val (.int y0), .val (.int z0), .val (.int ((x0 &&& (2147483647 : Int32)) % (3 : Int32))), .val (.ref a2), .val (.int k5), .val (.int ch), .val (.int (0 : Int32)), .val (.int (0 : Int32)), .unset, .unset, .unset]) rfl kk') ?_
            show own_Go p e below K T34 (mkF m 148 #[.val (.int x0), .val (.int y0), .val (.int z0), .val (.int ((x0 &&& (2147483647 : Int32)) % (3 : Int32))), .val (.ref a2), .val (.int k5), .val (.int ch), .val (.int (0 : Int32)), .val (.int (0 : Int32)), .unset, .unset, .unset] [])
            refine own_go (fun _ kk' => XS.iload X34.here hx rfl (hb hby at_148) rfl  kk') ?_
            show own_Go p e below K T34 (mkF m 150 #[.val (.int x0), .val (.int y0), .val (.int z0), .val (.int ((x0 &&& (2147483647 : Int32)) % (3 : Int32))), .val (.ref a2), .val (.int k5), .val (.int ch), .val (.int (0 : Int32)), .val (.int (0 : Int32)), .unset, .unset, .unset] [(.int ch)])
            refine own_go (fun _ kk' => XS.sipush X34.here hx rfl (hb hby at_150) kk') ?_
            show own_Go p e below K T34 (mkF m 153 #[.val (.int x0), .val (.int y0), .val (.int z0), .val (.int ((x0 &&& (2147483647 : Int32)) % (3 : Int32))), .val (.ref a2), .val (.int k5), .val (.int ch), .val (.int (0 : Int32)), .val (.int (0 : Int32)), .unset, .unset, .unset] [(.int (133 : Int32)), (.int ch)])
            by_cases hc153_39 : ch = (133 : Int32)
            · refine own_go (fun _ kk' => XS.icmpNo X34.here hx rfl (hb hby at_153) rfl (teq (hc153_39 : ch = (133 : Int32))).2 kk') ?_
              show own_Go p e below K T34 (mkF m 156 #[.val (.int x0), .val (.int y0), .val (.int z0), .val (.int ((x0 &&& (2147483647 : Int32)) % (3 : Int32))), .val (.ref a2), .val (.int k5), .val (.int ch), .val (.int (0 : Int32)), .val (.int (0 : Int32)), .unset, .unset, .unset] [])
              refine own_go (fun _ kk' => XS.iconst X34.here hx rfl (hb hby at_156) kk') ?_
              show own_Go p e below K T34 (mkF m 157 #[.val (.int x0), .val (.int y0), .val (.int z0), .val (.int ((x0 &&& (2147483647 : Int32)) % (3 : Int32))), .val (.ref a2), .val (.int k5), .val (.int ch), .val (.int (0 : Int32)), .val (.int (0 : Int32)), .unset, .unset, .unset] [(.int (1 : Int32))])
              refine own_go (fun _ kk' => XS.goto X34.here hx rfl (pc0 := 157) (pc' := 161) rfl (hb hby at_157) (by decide) (by decide) kk') ?_
              show own_Go p e below K T34 (mkF m 161 #[.val (.int x0), .val (.int y0), .val (.int z0), .val (.int ((x0 &&& (2147483647 : Int32)) % (3 : Int32))), .val (.ref a2), .val (.int k5), .val (.int ch), .val (.int (0 : Int32)), .val (.int (0 : Int32)), .unset, .unset, .unset] [(.int (1 : Int32))])
              refine own_go (fun _ kk' => XS.istore X34.here hx rfl (hb hby at_161) rfl (l' := #[.val (.int x0), .val (.int y0), .val (.int z0), .val (.int ((x0 &&& (2147483647 : Int32)) % (3 : Int32))), .val (.ref a2), .val (.int k5), .val (.int ch), .val (.int (0 : Int32)), .val (.int (0 : Int32)), .val (.int (1 : Int32)), .unset, .unset]) rfl kk') ?_
              show own_Go p e below K T34 (mkF m 163 #[.val (.int x0), .val (.int y0), .val (.int z0), .val (.int ((x0 &&& (2147483647 : Int32)) % (3 : Int32))), .val (.ref a2), .val (.int k5), .val (.int ch), .val (.int (0 : Int32)), .val (.int (0 : Int32)), .val (.int (1 : Int32)), .unset, .unset] [])
              refine own_go (fun _ kk' => XS.iload X34.here hx rfl (hb hby at_163) rfl  kk') ?_
              show own_Go p e below K T34 (mkF m 165 #[.val (.int x0), .val (.int y0), .val (.int z0), .val (.int ((x0 &&& (2147483647 : Int32)) % (3 : Int32))), .val (.ref a2), .val (.int k5), .val (.int ch), .val (.int (0 : Int32)), .val (.int (0 : Int32)), .val (.int (1 : Int32)), .unset, .unset] [(.int ch)])
              refine own_go (fun _ kk' => XS.sipush X34.here hx rfl (hb hby at_165) kk') ?_
              show own_Go p e below K T34 (mkF m 168 #[.val (.int x0), .val (.int y0), .val (.int z0), .val (.int ((x0 &&& (2147483647 : Int32)) % (3 : Int32))), .val (.ref a2), .val (.int k5), .val (.int ch), .val (.int (0 : Int32)), .val (.int (0 : Int32)), .val (.int (1 : Int32)), .unset, .unset] [(.int (8232 : Int32)), (.int ch)])
              refine own_go (fun _ kk' => XS.icmpYes X34.here hx rfl (pc0 := 168) (pc' := 175) rfl (hb hby at_168) rfl (feq ((fun q => absurd (hc153_39.symm.trans q) (by decide)) : ¬ (ch = (8232 : Int32)))).2 (by decide) (by decide) kk') ?_
              show own_Go p e below K T34 (mkF m 175 #[.val (.int x0), .val (.int y0), .val (.int z0), .val (.int ((x0 &&& (2147483647 : Int32)) % (3 : Int32))), .val (.ref a2), .val (.int k5), .val (.int ch), .val (.int (0 : Int32)), .val (.int (0 : Int32)), .val (.int (1 : Int32)), .unset, .unset] [])
              refine own_go (fun _ kk' => XS.iconst X34.here hx rfl (hb hby at_175) kk') ?_
              show own_Go p e below K T34 (mkF m 176 #[.val (.int x0), .val (.int y0), .val (.int z0), .val (.int ((x0 &&& (2147483647 : Int32)) % (3 : Int32))), .val (.ref a2), .val (.int k5), .val (.int ch), .val (.int (0 : Int32)), .val (.int (0 : Int32)), .val (.int (1 : Int32)), .unset, .unset] [(.int (0 : Int32))])
              refine own_go (fun _ kk' => XS.istore X34.here hx rfl (hb hby at_176) rfl (l' := #[.val (.int x0), .val (.int y0), .val (.int z0), .val (.int ((x0 &&& (2147483647 : Int32)) % (3 : Int32))), .val (.ref a2), .val (.int k5), .val (.int ch), .val (.int (0 : Int32)), .val (.int (0 : Int32)), .val (.int (1 : Int32)), .val (.int (0 : Int32)), .unset]) rfl kk') ?_
              show own_Go p e below K T34 (mkF m 178 #[.val (.int x0), .val (.int y0), .val (.int z0), .val (.int ((x0 &&& (2147483647 : Int32)) % (3 : Int32))), .val (.ref a2), .val (.int k5), .val (.int ch), .val (.int (0 : Int32)), .val (.int (0 : Int32)), .val (.int (1 : Int32)), .val (.int (0 : Int32)), .unset] [])
              refine own_go (fun _ kk' => XS.iloadN X34.here hx rfl (hb hby at_178) rfl  kk') ?_
              show own_Go p e below K T34 (mkF m 179 #[.val (.int x0), .val (.int y0), .val (.int z0), .val (.int ((x0 &&& (2147483647 : Int32)) % (3 : Int32))), .val (.ref a2), .val (.int k5), .val (.int ch), .val (.int (0 : Int32)), .val (.int (0 : Int32)), .val (.int (1 : Int32)), .val (.int (0 : Int32)), .unset] [(.int ((x0 &&& (2147483647 : Int32)) % (3 : Int32)))])
              refine own_go (fun _ kk' => XS.ifYes X34.here hx rfl (pc0 := 179) (pc' := 202) rfl (hb hby at_179) rfl ((if0 _ _).trans (feq (hc8_17 : ¬ (((x0 &&& (2147483647 : Int32)) % (3 : Int32)) = (0 : Int32)))).2) (by decide) (by decide) kk') ?_
              show own_Go p e below K T34 (mkF m 202 #[.val (.int x0), .val (.int y0), .val (.int z0), .val (.int ((x0 &&& (2147483647 : Int32)) % (3 : Int32))), .val (.ref a2), .val (.int k5), .val (.int ch), .val (.int (0 : Int32)), .val (.int (0 : Int32)), .val (.int (1 : Int32)), .val (.int (0 : Int32)), .unset] [])
              refine own_go (fun _ kk' => XS.iloadN X34.here hx rfl (hb hby at_202) rfl  kk') ?_
              show own_Go p e below K T34 (mkF m 203 #[.val (.int x0), .val (.int y0), .val (.int z0), .val (.int ((x0 &&& (2147483647 : Int32)) % (3 : Int32))), .val (.ref a2), .val (.int k5), .val (.int ch), .val (.int (0 : Int32)), .val (.int (0 : Int32)), .val (.int (1 : Int32)), .val (.int (0 : Int32)), .unset] [(.int ((x0 &&& (2147483647 : Int32)) % (3 : Int32)))])
              refine own_go (fun _ kk' => XS.iconst X34.here hx rfl (hb hby at_203) kk') ?_
              show own_Go p e below K T34 (mkF m 204 #[.val (.int x0), .val (.int y0), .val (.int z0), .val (.int ((x0 &&& (2147483647 : Int32)) % (3 : Int32))), .val (.ref a2), .val (.int k5), .val (.int ch), .val (.int (0 : Int32)), .val (.int (0 : Int32)), .val (.int (1 : Int32)), .val (.int (0 : Int32)), .unset] [(.int (1 : Int32)), (.int ((x0 &&& (2147483647 : Int32)) % (3 : Int32)))])
              refine own_go (fun _ kk' => XS.icmpNo X34.here hx rfl (hb hby at_204) rfl (teq (hc21_33 : ((x0 &&& (2147483647 : Int32)) % (3 : Int32)) = (1 : Int32))).2 kk') ?_
              show own_Go p e below K T34 (mkF m 207 #[.val (.int x0), .val (.int y0), .val (.int z0), .val (.int ((x0 &&& (2147483647 : Int32)) % (3 : Int32))), .val (.ref a2), .val (.int k5), .val (.int ch), .val (.int (0 : Int32)), .val (.int (0 : Int32)), .val (.int (1 : Int32)), .val (.int (0 : Int32)), .unset] [])
              refine own_go (fun _ kk' => XS.iload X34.here hx rfl (hb hby at_207) rfl  kk') ?_
              show own_Go p e below K T34 (mkF m 209 #[.val (.int x0), .val (.int y0), .val (.int z0), .val (.int ((x0 &&& (2147483647 : Int32)) % (3 : Int32))), .val (.ref a2), .val (.int k5), .val (.int ch), .val (.int (0 : Int32)), .val (.int (0 : Int32)), .val (.int (1 : Int32)), .val (.int (0 : Int32)), .unset] [(.int (0 : Int32))])
              refine own_go (fun _ kk' => XS.ifNo X34.here hx rfl (hb hby at_209) rfl ((if0 _ _).trans (teq ((by decide) : (0 : Int32) = (0 : Int32))).2) kk') ?_
              show own_Go p e below K T34 (mkF m 212 #[.val (.int x0), .val (.int y0), .val (.int z0), .val (.int ((x0 &&& (2147483647 : Int32)) % (3 : Int32))), .val (.ref a2), .val (.int k5), .val (.int ch), .val (.int (0 : Int32)), .val (.int (0 : Int32)), .val (.int (1 : Int32)), .val (.int (0 : Int32)), .unset] [])
              refine own_go (fun _ kk' => XS.iload X34.here hx rfl (hb hby at_212) rfl  kk') ?_
              show own_Go p e below K T34 (mkF m 214 #[.val (.int x0), .val (.int y0), .val (.int z0), .val (.int ((x0 &&& (2147483647 : Int32)) % (3 : Int32))), .val (.ref a2), .val (.int k5), .val (.int ch), .val (.int (0 : Int32)), .val (.int (0 : Int32)), .val (.int (1 : Int32)), .val (.int (0 : Int32)), .unset] [(.int (0 : Int32))])
              refine own_go (fun _ kk' => XS.ifNo X34.here hx rfl (hb hby at_214) rfl ((if0 _ _).trans (teq ((by decide) : (0 : Int32) = (0 : Int32))).2) kk') ?_
              show own_Go p e below K T34 (mkF m 217 #[.val (.int x0), .val (.int y0), .val (.int z0), .val (.int ((x0 &&& (2147483647 : Int32)) % (3 : Int32))), .val (.ref a2), .val (.int k5), .val (.int ch), .val (.int (0 : Int32)), .val (.int (0 : Int32)), .val (.int (1 : Int32)), .val (.int (0 : Int32)), .unset] [])
              refine own_go (fun _ kk' => XS.iload X34.here hx rfl (hb hby at_217) rfl  kk') ?_
              show own_Go p e below K T34 (mkF m 219 #[.val (.int x0), .val (.int y0), .val (.int z0), .val (.int ((x0 &&& (2147483647 : Int32)) % (3 : Int32))), .val (.ref a2), .val (.int k5), .val (.int ch), .val (.int (0 : Int32)), .val (.int (0 : Int32)), .val (.int (1 : Int32)), .val (.int (0 : Int32)), .unset] [(.int (1 : Int32))])
              refine own_go (fun _ kk' => XS.ifYes X34.here hx rfl (pc0 := 219) (pc' := 227) rfl (hb hby at_219) rfl ((if0 _ _).trans (feq ((by decide) : ¬ ((1 : Int32) = (0 : Int32)))).2) (by decide) (by decide) kk') ?_
              show own_Go p e below K T34 (mkF m 227 #[.val (.int x0), .val (.int y0), .val (.int z0), .val (.int ((x0 &&& (2147483647 : Int32)) % (3 : Int32))), .val (.ref a2), .val (.int k5), .val (.int ch), .val (.int (0 : Int32)), .val (.int (0 : Int32)), .val (.int (1 : Int32)), .val (.int (0 : Int32)), .unset] [])
              refine own_go (fun _ kk' => XS.iconst X34.here hx rfl (hb hby at_227) kk') ?_
              show own_Go p e below K T34 (mkF m 228 #[.val (.int x0), .val (.int y0), .val (.int z0), .val (.int ((x0 &&& (2147483647 : Int32)) % (3 : Int32))), .val (.ref a2), .val (.int k5), .val (.int ch), .val (.int (0 : Int32)), .val (.int (0 : Int32)), .val (.int (1 : Int32)), .val (.int (0 : Int32)), .unset] [(.int (1 : Int32))])
              refine own_go (fun _ kk' => XS.goto X34.here hx rfl (pc0 := 228) (pc' := 232) rfl (hb hby at_228) (by decide) (by decide) kk') ?_
              show own_Go p e below K T34 (mkF m 232 #[.val (.int x0), .val (.int y0), .val (.int z0), .val (.int ((x0 &&& (2147483647 : Int32)) % (3 : Int32))), .val (.ref a2), .val (.int k5), .val (.int ch), .val (.int (0 : Int32)), .val (.int (0 : Int32)), .val (.int (1 : Int32)), .val (.int (0 : Int32)), .unset] [(.int (1 : Int32))])
              refine own_go (fun _ kk' => XS.istore X34.here hx rfl (hb hby at_232) rfl (l' := #[.val (.int x0), .val (.int y0), .val (.int z0), .val (.int ((x0 &&& (2147483647 : Int32)) % (3 : Int32))), .val (.ref a2), .val (.int k5), .val (.int ch), .val (.int (0 : Int32)), .val (.int (0 : Int32)), .val (.int (1 : Int32)), .val (.int (0 : Int32)), .val (.int (1 : Int32))]) rfl kk') ?_
              show own_Go p e below K T34 (mkF m 234 #[.val (.int x0), .val (.int y0), .val (.int z0), .val (.int ((x0 &&& (2147483647 : Int32)) % (3 : Int32))), .val (.ref a2), .val (.int k5), .val (.int ch), .val (.int (0 : Int32)), .val (.int (0 : Int32)), .val (.int (1 : Int32)), .val (.int (0 : Int32)), .val (.int (1 : Int32))] [])
              refine own_go (fun _ kk' => XS.goto X34.here hx rfl (pc0 := 234) (pc' := 241) rfl (hb hby at_234) (by decide) (by decide) kk') ?_
              show own_Go p e below K T34 (mkF m 241 #[.val (.int x0), .val (.int y0), .val (.int z0), .val (.int ((x0 &&& (2147483647 : Int32)) % (3 : Int32))), .val (.ref a2), .val (.int k5), .val (.int ch), .val (.int (0 : Int32)), .val (.int (0 : Int32)), .val (.int (1 : Int32)), .val (.int (0 : Int32)), .val (.int (1 : Int32))] [])
              refine own_go (fun _ kk' => XS.aload X34.here hx rfl (hb hby at_241) rfl rfl  kk') ?_
              show own_Go p e below K T34 (mkF m 243 #[.val (.int x0), .val (.int y0), .val (.int z0), .val (.int ((x0 &&& (2147483647 : Int32)) % (3 : Int32))), .val (.ref a2), .val (.int k5), .val (.int ch), .val (.int (0 : Int32)), .val (.int (0 : Int32)), .val (.int (1 : Int32)), .val (.int (0 : Int32)), .val (.int (1 : Int32))] [(.ref a2)])
              refine own_go (fun _ kk' => XS.iload X34.here hx rfl (hb hby at_243) rfl  kk') ?_
              show own_Go p e below K T34 (mkF m 245 #[.val (.int x0), .val (.int y0), .val (.int z0), .val (.int ((x0 &&& (2147483647 : Int32)) % (3 : Int32))), .val (.ref a2), .val (.int k5), .val (.int ch), .val (.int (0 : Int32)), .val (.int (0 : Int32)), .val (.int (1 : Int32)), .val (.int (0 : Int32)), .val (.int (1 : Int32))] [(.int ch), (.ref a2)])
              refine own_callV X34 hx hZ (C := "com/example/copista/copista/io/ReferenceScanner$LineEnds") (y := (⟨"com/example/copista/copista/io/ReferenceScanner$LineEnds", "endsLine", "(C)Z"⟩ : MethodName)) (z := (⟨"com/example/copista/copista/io/ReferenceScanner$LineEnds", "endsLine", "(C)Z"⟩ : MethodName)) hown (hw _ (List.mem_of_getElem? (i := 4) rfl)) (hw _ (List.mem_of_getElem? (i := 5) rfl)) (notFace_of_selects (args := #[]) (mvT hZ (hw _ (List.mem_of_getElem? (i := 7) rfl)))) (hw _ (List.mem_of_getElem? (i := 7) rfl)) (hw _ (List.mem_of_getElem? (i := 6) rfl)) (hw _ (List.mem_of_getElem? (i := 2) rfl)) (hw _ (List.mem_of_getElem? (i := 8) rfl)) (by decide) e34 (rm := own_rme) (a := a2) E2 (argsL := [(.int ch)]) (rest := []) (own_me l Z a0 hw a2 ch (1 : Int32) (1 : Int32) h0 n0 Z0 F2c F2n) (W := 0) (by decide) (by decide) (by decide) (by decide) (g := (mkF m 245 #[.val (.int x0), .val (.int y0), .val (.int z0), .val (.int ((x0 &&& (2147483647 : Int32)) % (3 : Int32))), .val (.ref a2), .val (.int k5), .val (.int ch), .val (.int (0 : Int32)), .val (.int (0 : Int32)), .val (.int (1 : Int32)), .val (.int (0 : Int32)), .val (.int (1 : Int32))] [(.int ch), (.ref a2)])) rfl (by rw [hml]; rfl) (lenOf own_pd0 rfl) rfl (by show 2 * 0 + _ ≤ _; exact Nat.le_of_eq rfl) (hb hby at_245) ?_
              intro v40 T40 L40 X40 hQ40
              obtain ⟨rfl, Nq40, e40⟩ := hQ40
              have N40 := Fr.app N0 Nq40
              show own_Go p e below K T40 (mkF m 248 #[.val (.int x0), .val (.int y0), .val (.int z0), .val (.int ((x0 &&& (2147483647 : Int32)) % (3 : Int32))), .val (.ref a2), .val (.int k5), .val (.int ch), .val (.int (0 : Int32)), .val (.int (0 : Int32)), .val (.int (1 : Int32)), .val (.int (0 : Int32)), .val (.int (1 : Int32))] [(.int (own_ends (1 : Int32) (1 : Int32) ch))])
              refine own_go (fun _ kk' => XS.iload X40.here hx rfl (hb hby at_248) rfl  kk') ?_
              show own_Go p e below K T40 (mkF m 250 #[.val (.int x0), .val (.int y0), .val (.int z0), .val (.int ((x0 &&& (2147483647 : Int32)) % (3 : Int32))), .val (.ref a2), .val (.int k5), .val (.int ch), .val (.int (0 : Int32)), .val (.int (0 : Int32)), .val (.int (1 : Int32)), .val (.int (0 : Int32)), .val (.int (1 : Int32))] [(.int (1 : Int32)), (.int (own_ends (1 : Int32) (1 : Int32) ch))])
              refine own_go (fun _ kk' => XS.icmpNo X40.here hx rfl (hb hby at_250) rfl (teq ((by rw [hc153_39]; decide) : (own_ends (1 : Int32) (1 : Int32) ch) = (1 : Int32))).2 kk') ?_
              show own_Go p e below K T40 (mkF m 253 #[.val (.int x0), .val (.int y0), .val (.int z0), .val (.int ((x0 &&& (2147483647 : Int32)) % (3 : Int32))), .val (.ref a2), .val (.int k5), .val (.int ch), .val (.int (0 : Int32)), .val (.int (0 : Int32)), .val (.int (1 : Int32)), .val (.int (0 : Int32)), .val (.int (1 : Int32))] [])
              refine own_go (fun _ kk' => XS.iconst X40.here hx rfl (hb hby at_253) kk') ?_
              show own_Go p e below K T40 (mkF m 254 #[.val (.int x0), .val (.int y0), .val (.int z0), .val (.int ((x0 &&& (2147483647 : Int32)) % (3 : Int32))), .val (.ref a2), .val (.int k5), .val (.int ch), .val (.int (0 : Int32)), .val (.int (0 : Int32)), .val (.int (1 : Int32)), .val (.int (0 : Int32)), .val (.int (1 : Int32))] [(.int (1 : Int32))])
              refine own_go (fun _ kk' => XS.goto X40.here hx rfl (pc0 := 254) (pc' := 258) rfl (hb hby at_254) (by decide) (by decide) kk') ?_
              show own_Go p e below K T40 (mkF m 258 #[.val (.int x0), .val (.int y0), .val (.int z0), .val (.int ((x0 &&& (2147483647 : Int32)) % (3 : Int32))), .val (.ref a2), .val (.int k5), .val (.int ch), .val (.int (0 : Int32)), .val (.int (0 : Int32)), .val (.int (1 : Int32)), .val (.int (0 : Int32)), .val (.int (1 : Int32))] [(.int (1 : Int32))])
              exact own_retZ X40 hx hlk hK hret (by decide) (hb hby at_258) (by decide) (by decide) ⟨rfl, N40⟩
            · refine own_go (fun _ kk' => XS.icmpYes X34.here hx rfl (pc0 := 153) (pc' := 160) rfl (hb hby at_153) rfl (feq (hc153_39 : ¬ (ch = (133 : Int32)))).2 (by decide) (by decide) kk') ?_
              show own_Go p e below K T34 (mkF m 160 #[.val (.int x0), .val (.int y0), .val (.int z0), .val (.int ((x0 &&& (2147483647 : Int32)) % (3 : Int32))), .val (.ref a2), .val (.int k5), .val (.int ch), .val (.int (0 : Int32)), .val (.int (0 : Int32)), .unset, .unset, .unset] [])
              refine own_go (fun _ kk' => XS.iconst X34.here hx rfl (hb hby at_160) kk') ?_
              show own_Go p e below K T34 (mkF m 161 #[.val (.int x0), .val (.int y0), .val (.int z0), .val (.int ((x0 &&& (2147483647 : Int32)) % (3 : Int32))), .val (.ref a2), .val (.int k5), .val (.int ch), .val (.int (0 : Int32)), .val (.int (0 : Int32)), .unset, .unset, .unset] [(.int (0 : Int32))])
              refine own_go (fun _ kk' => XS.istore X34.here hx rfl (hb hby at_161) rfl (l' := #[.val (.int x0), .val (.int y0), .val (.int z0), .val (.int ((x0 &&& (2147483647 : Int32)) % (3 : Int32))), .val (.ref a2), .val (.int k5), .val (.int ch), .val (.int (0 : Int32)), .val (.int (0 : Int32)), .val (.int (0 : Int32)), .unset, .unset]) rfl kk') ?_
              show own_Go p e below K T34 (mkF m 163 #[.val (.int x0), .val (.int y0), .val (.int z0), .val (.int ((x0 &&& (2147483647 : Int32)) % (3 : Int32))), .val (.ref a2), .val (.int k5), .val (.int ch), .val (.int (0 : Int32)), .val (.int (0 : Int32)), .val (.int (0 : Int32)), .unset, .unset] [])
              refine own_go (fun _ kk' => XS.iload X34.here hx rfl (hb hby at_163) rfl  kk') ?_
              show own_Go p e below K T34 (mkF m 165 #[.val (.int x0), .val (.int y0), .val (.int z0), .val (.int ((x0 &&& (2147483647 : Int32)) % (3 : Int32))), .val (.ref a2), .val (.int k5), .val (.int ch), .val (.int (0 : Int32)), .val (.int (0 : Int32)), .val (.int (0 : Int32)), .unset, .unset] [(.int ch)])
              refine own_go (fun _ kk' => XS.sipush X34.here hx rfl (hb hby at_165) kk') ?_
              show own_Go p e below K T34 (mkF m 168 #[.val (.int x0), .val (.int y0), .val (.int z0), .val (.int ((x0 &&& (2147483647 : Int32)) % (3 : Int32))), .val (.ref a2), .val (.int k5), .val (.int ch), .val (.int (0 : Int32)), .val (.int (0 : Int32)), .val (.int (0 : Int32)), .unset, .unset] [(.int (8232 : Int32)), (.int ch)])
              by_cases hc168_41 : ch = (8232 : Int32)
              · refine own_go (fun _ kk' => XS.icmpNo X34.here hx rfl (hb hby at_168) rfl (teq (hc168_41 : ch = (8232 : Int32))).2 kk') ?_
                show own_Go p e below K T34 (mkF m 171 #[.val (.int x0), .val (.int y0), .val (.int z0), .val (.int ((x0 &&& (2147483647 : Int32)) % (3 : Int32))), .val (.ref a2), .val (.int k5), .val (.int ch), .val (.int (0 : Int32)), .val (.int (0 : Int32)), .val (.int (0 : Int32)), .unset, .unset] [])
                refine own_go (fun _ kk' => XS.iconst X34.here hx rfl (hb hby at_171) kk') ?_
                show own_Go p e below K T34 (mkF m 172 #[.val (.int x0), .val (.int y0), .val (.int z0), .val (.int ((x0 &&& (2147483647 : Int32)) % (3 : Int32))), .val (.ref a2), .val (.int k5), .val (.int ch), .val (.int (0 : Int32)), .val (.int (0 : Int32)), .val (.int (0 : Int32)), .unset, .unset] [(.int (1 : Int32))])
                refine own_go (fun _ kk' => XS.goto X34.here hx rfl (pc0 := 172) (pc' := 176) rfl (hb hby at_172) (by decide) (by decide) kk') ?_
                show own_Go p e below K T34 (mkF m 176 #[.val (.int x0), .val (.int y0), .val (.int z0), .val (.int ((x0 &&& (2147483647 : Int32)) % (3 : Int32))), .val (.ref a2), .val (.int k5), .val (.int ch), .val (.int (0 : Int32)), .val (.int (0 : Int32)), .val (.int (0 : Int32)), .unset, .unset] [(.int (1 : Int32))])
                refine own_go (fun _ kk' => XS.istore X34.here hx rfl (hb hby at_176) rfl (l' := #[.val (.int x0), .val (.int y0), .val (.int z0), .val (.int ((x0 &&& (2147483647 : Int32)) % (3 : Int32))), .val (.ref a2), .val (.int k5), .val (.int ch), .val (.int (0 : Int32)), .val (.int (0 : Int32)), .val (.int (0 : Int32)), .val (.int (1 : Int32)), .unset]) rfl kk') ?_
                show own_Go p e below K T34 (mkF m 178 #[.val (.int x0), .val (.int y0), .val (.int z0), .val (.int ((x0 &&& (2147483647 : Int32)) % (3 : Int32))), .val (.ref a2), .val (.int k5), .val (.int ch), .val (.int (0 : Int32)), .val (.int (0 : Int32)), .val (.int (0 : Int32)), .val (.int (1 : Int32)), .unset] [])
                refine own_go (fun _ kk' => XS.iloadN X34.here hx rfl (hb hby at_178) rfl  kk') ?_
                show own_Go p e below K T34 (mkF m 179 #[.val (.int x0), .val (.int y0), .val (.int z0), .val (.int ((x0 &&& (2147483647 : Int32)) % (3 : Int32))), .val (.ref a2), .val (.int k5), .val (.int ch), .val (.int (0 : Int32)), .val (.int (0 : Int32)), .val (.int (0 : Int32)), .val (.int (1 : Int32)), .unset] [(.int ((x0 &&& (2147483647 : Int32)) % (3 : Int32)))])
                refine own_go (fun _ kk' => XS.ifYes X34.here hx rfl (pc0 := 179) (pc' := 202) rfl (hb hby at_179) rfl ((if0 _ _).trans (feq (hc8_17 : ¬ (((x0 &&& (2147483647 : Int32)) % (3 : Int32)) = (0 : Int32)))).2) (by decide) (by decide) kk') ?_
                show own_Go p e below K T34 (mkF m 202 #[.val (.int x0), .val (.int y0), .val (.int z0), .val (.int ((x0 &&& (2147483647 : Int32)) % (3 : Int32))), .val (.ref a2), .val (.int k5), .val (.int ch), .val (.int (0 : Int32)), .val (.int (0 : Int32)), .val (.int (0 : Int32)), .val (.int (1 : Int32)), .unset] [])
                refine own_go (fun _ kk' => XS.iloadN X34.here hx rfl (hb hby at_202) rfl  kk') ?_
                show own_Go p e below K T34 (mkF m 203 #[.val (.int x0), .val (.int y0), .val (.int z0), .val (.int ((x0 &&& (2147483647 : Int32)) % (3 : Int32))), .val (.ref a2), .val (.int k5), .val (.int ch), .val (.int (0 : Int32)), .val (.int (0 : Int32)), .val (.int (0 : Int32)), .val (.int (1 : Int32)), .unset] [(.int ((x0 &&& (2147483647 : Int32)) % (3 : Int32)))])
                refine own_go (fun _ kk' => XS.iconst X34.here hx rfl (hb hby at_203) kk') ?_
                show own_Go p e below K T34 (mkF m 204 #[.val (.int x0), .val (.int y0), .val (.int z0), .val (.int ((x0 &&& (2147483647 : Int32)) % (3 : Int32))), .val (.ref a2), .val (.int k5), .val (.int ch), .val (.int (0 : Int32)), .val (.int (0 : Int32)), .val (.int (0 : Int32)), .val (.int (1 : Int32)), .unset] [(.int (1 : Int32)), (.int ((x0 &&& (2147483647 : Int32)) % (3 : Int32)))])
                refine own_go (fun _ kk' => XS.icmpNo X34.here hx rfl (hb hby at_204) rfl (teq (hc21_33 : ((x0 &&& (2147483647 : Int32)) % (3 : Int32)) = (1 : Int32))).2 kk') ?_
                show own_Go p e below K T34 (mkF m 207 #[.val (.int x0), .val (.int y0), .val (.int z0), .val (.int ((x0 &&& (2147483647 : Int32)) % (3 : Int32))), .val (.ref a2), .val (.int k5), .val (.int ch), .val (.int (0 : Int32)), .val (.int (0 : Int32)), .val (.int (0 : Int32)), .val (.int (1 : Int32)), .unset] [])
                refine own_go (fun _ kk' => XS.iload X34.here hx rfl (hb hby at_207) rfl  kk') ?_
                show own_Go p e below K T34 (mkF m 209 #[.val (.int x0), .val (.int y0), .val (.int z0), .val (.int ((x0 &&& (2147483647 : Int32)) % (3 : Int32))), .val (.ref a2), .val (.int k5), .val (.int ch), .val (.int (0 : Int32)), .val (.int (0 : Int32)), .val (.int (0 : Int32)), .val (.int (1 : Int32)), .unset] [(.int (0 : Int32))])
                refine own_go (fun _ kk' => XS.ifNo X34.here hx rfl (hb hby at_209) rfl ((if0 _ _).trans (teq ((by decide) : (0 : Int32) = (0 : Int32))).2) kk') ?_
                show own_Go p e below K T34 (mkF m 212 #[.val (.int x0), .val (.int y0), .val (.int z0), .val (.int ((x0 &&& (2147483647 : Int32)) % (3 : Int32))), .val (.ref a2), .val (.int k5), .val (.int ch), .val (.int (0 : Int32)), .val (.int (0 : Int32)), .val (.int (0 : Int32)), .val (.int (1 : Int32)), .unset] [])
                refine own_go (fun _ kk' => XS.iload X34.here hx rfl (hb hby at_212) rfl  kk') ?_
                show own_Go p e below K T34 (mkF m 214 #[.val (.int x0), .val (.int y0), .val (.int z0), .val (.int ((x0 &&& (2147483647 : Int32)) % (3 : Int32))), .val (.ref a2), .val (.int k5), .val (.int ch), .val (.int (0 : Int32)), .val (.int (0 : Int32)), .val (.int (0 : Int32)), .val (.int (1 : Int32)), .unset] [(.int (0 : Int32))])
                refine own_go (fun _ kk' => XS.ifNo X34.here hx rfl (hb hby at_214) rfl ((if0 _ _).trans (teq ((by decide) : (0 : Int32) = (0 : Int32))).2) kk') ?_
                show own_Go p e below K T34 (mkF m 217 #[.val (.int x0), .val (.int y0), .val (.int z0), .val (.int ((x0 &&& (2147483647 : Int32)) % (3 : Int32))), .val (.ref a2), .val (.int k5), .val (.int ch), .val (.int (0 : Int32)), .val (.int (0 : Int32)), .val (.int (0 : Int32)), .val (.int (1 : Int32)), .unset] [])
                refine own_go (fun _ kk' => XS.iload X34.here hx rfl (hb hby at_217) rfl  kk') ?_
                show own_Go p e below K T34 (mkF m 219 #[.val (.int x0), .val (.int y0), .val (.int z0), .val (.int ((x0 &&& (2147483647 : Int32)) % (3 : Int32))), .val (.ref a2), .val (.int k5), .val (.int ch), .val (.int (0 : Int32)), .val (.int (0 : Int32)), .val (.int (0 : Int32)), .val (.int (1 : Int32)), .unset] [(.int (0 : Int32))])
                refine own_go (fun _ kk' => XS.ifNo X34.here hx rfl (hb hby at_219) rfl ((if0 _ _).trans (teq ((by decide) : (0 : Int32) = (0 : Int32))).2) kk') ?_
                show own_Go p e below K T34 (mkF m 222 #[.val (.int x0), .val (.int y0), .val (.int z0), .val (.int ((x0 &&& (2147483647 : Int32)) % (3 : Int32))), .val (.ref a2), .val (.int k5), .val (.int ch), .val (.int (0 : Int32)), .val (.int (0 : Int32)), .val (.int (0 : Int32)), .val (.int (1 : Int32)), .unset] [])
                refine own_go (fun _ kk' => XS.iload X34.here hx rfl (hb hby at_222) rfl  kk') ?_
                show own_Go p e below K T34 (mkF m 224 #[.val (.int x0), .val (.int y0), .val (.int z0), .val (.int ((x0 &&& (2147483647 : Int32)) % (3 : Int32))), .val (.ref a2), .val (.int k5), .val (.int ch), .val (.int (0 : Int32)), .val (.int (0 : Int32)), .val (.int (0 : Int32)), .val (.int (1 : Int32)), .unset] [(.int (1 : Int32))])
                refine own_go (fun _ kk' => XS.ifNo X34.here hx rfl (hb hby at_224) rfl ((if0 _ _).trans (feq ((by decide) : ¬ ((1 : Int32) = (0 : Int32)))).1) kk') ?_
                show own_Go p e below K T34 (mkF m 227 #[.val (.int x0), .val (.int y0), .val (.int z0), .val (.int ((x0 &&& (2147483647 : Int32)) % (3 : Int32))), .val (.ref a2), .val (.int k5), .val (.int ch), .val (.int (0 : Int32)), .val (.int (0 : Int32)), .val (.int (0 : Int32)), .val (.int (1 : Int32)), .unset] [])
                refine own_go (fun _ kk' => XS.iconst X34.here hx rfl (hb hby at_227) kk') ?_
                show own_Go p e below K T34 (mkF m 228 #[.val (.int x0), .val (.int y0), .val (.int z0), .val (.int ((x0 &&& (2147483647 : Int32)) % (3 : Int32))), .val (.ref a2), .val (.int k5), .val (.int ch), .val (.int (0 : Int32)), .val (.int (0 : Int32)), .val (.int (0 : Int32)), .val (.int (1 : Int32)), .unset] [(.int (1 : Int32))])
                refine own_go (fun _ kk' => XS.goto X34.here hx rfl (pc0 := 228) (pc' := 232) rfl (hb hby at_228) (by decide) (by decide) kk') ?_
                show own_Go p e below K T34 (mkF m 232 #[.val (.int x0), .val (.int y0), .val (.int z0), .val (.int ((x0 &&& (2147483647 : Int32)) % (3 : Int32))), .val (.ref a2), .val (.int k5), .val (.int ch), .val (.int (0 : Int32)), .val (.int (0 : Int32)), .val (.int (0 : Int32)), .val (.int (1 : Int32)), .unset] [(.int (1 : Int32))])
                refine own_go (fun _ kk' => XS.istore X34.here hx rfl (hb hby at_232) rfl (l' := #[.val (.int x0), .val (.int y0), .val (.int z0), .val (.int ((x0 &&& (2147483647 : Int32)) % (3 : Int32))), .val (.ref a2), .val (.int k5), .val (.int ch), .val (.int (0 : Int32)), .val (.int (0 : Int32)), .val (.int (0 : Int32)), .val (.int (1 : Int32)), .val (.int (1 : Int32))]) rfl kk') ?_
                show own_Go p e below K T34 (mkF m 234 #[.val (.int x0), .val (.int y0), .val (.int z0), .val (.int ((x0 &&& (2147483647 : Int32)) % (3 : Int32))), .val (.ref a2), .val (.int k5), .val (.int ch), .val (.int (0 : Int32)), .val (.int (0 : Int32)), .val (.int (0 : Int32)), .val (.int (1 : Int32)), .val (.int (1 : Int32))] [])
                refine own_go (fun _ kk' => XS.goto X34.here hx rfl (pc0 := 234) (pc' := 241) rfl (hb hby at_234) (by decide) (by decide) kk') ?_
                show own_Go p e below K T34 (mkF m 241 #[.val (.int x0), .val (.int y0), .val (.int z0), .val (.int ((x0 &&& (2147483647 : Int32)) % (3 : Int32))), .val (.ref a2), .val (.int k5), .val (.int ch), .val (.int (0 : Int32)), .val (.int (0 : Int32)), .val (.int (0 : Int32)), .val (.int (1 : Int32)), .val (.int (1 : Int32))] [])
                refine own_go (fun _ kk' => XS.aload X34.here hx rfl (hb hby at_241) rfl rfl  kk') ?_
                show own_Go p e below K T34 (mkF m 243 #[.val (.int x0), .val (.int y0), .val (.int z0), .val (.int ((x0 &&& (2147483647 : Int32)) % (3 : Int32))), .val (.ref a2), .val (.int k5), .val (.int ch), .val (.int (0 : Int32)), .val (.int (0 : Int32)), .val (.int (0 : Int32)), .val (.int (1 : Int32)), .val (.int (1 : Int32))] [(.ref a2)])
                refine own_go (fun _ kk' => XS.iload X34.here hx rfl (hb hby at_243) rfl  kk') ?_
                show own_Go p e below K T34 (mkF m 245 #[.val (.int x0), .val (.int y0), .val (.int z0), .val (.int ((x0 &&& (2147483647 : Int32)) % (3 : Int32))), .val (.ref a2), .val (.int k5), .val (.int ch), .val (.int (0 : Int32)), .val (.int (0 : Int32)), .val (.int (0 : Int32)), .val (.int (1 : Int32)), .val (.int (1 : Int32))] [(.int ch), (.ref a2)])
                refine own_callV X34 hx hZ (C := "com/example/copista/copista/io/ReferenceScanner$LineEnds") (y := (⟨"com/example/copista/copista/io/ReferenceScanner$LineEnds", "endsLine", "(C)Z"⟩ : MethodName)) (z := (⟨"com/example/copista/copista/io/ReferenceScanner$LineEnds", "endsLine", "(C)Z"⟩ : MethodName)) hown (hw _ (List.mem_of_getElem? (i := 4) rfl)) (hw _ (List.mem_of_getElem? (i := 5) rfl)) (notFace_of_selects (args := #[]) (mvT hZ (hw _ (List.mem_of_getElem? (i := 7) rfl)))) (hw _ (List.mem_of_getElem? (i := 7) rfl)) (hw _ (List.mem_of_getElem? (i := 6) rfl)) (hw _ (List.mem_of_getElem? (i := 2) rfl)) (hw _ (List.mem_of_getElem? (i := 8) rfl)) (by decide) e34 (rm := own_rme) (a := a2) E2 (argsL := [(.int ch)]) (rest := []) (own_me l Z a0 hw a2 ch (1 : Int32) (1 : Int32) h0 n0 Z0 F2c F2n) (W := 0) (by decide) (by decide) (by decide) (by decide) (g := (mkF m 245 #[.val (.int x0), .val (.int y0), .val (.int z0), .val (.int ((x0 &&& (2147483647 : Int32)) % (3 : Int32))), .val (.ref a2), .val (.int k5), .val (.int ch), .val (.int (0 : Int32)), .val (.int (0 : Int32)), .val (.int (0 : Int32)), .val (.int (1 : Int32)), .val (.int (1 : Int32))] [(.int ch), (.ref a2)])) rfl (by rw [hml]; rfl) (lenOf own_pd0 rfl) rfl (by show 2 * 0 + _ ≤ _; exact Nat.le_of_eq rfl) (hb hby at_245) ?_
                intro v42 T42 L42 X42 hQ42
                obtain ⟨rfl, Nq42, e42⟩ := hQ42
                have N42 := Fr.app N0 Nq42
                show own_Go p e below K T42 (mkF m 248 #[.val (.int x0), .val (.int y0), .val (.int z0), .val (.int ((x0 &&& (2147483647 : Int32)) % (3 : Int32))), .val (.ref a2), .val (.int k5), .val (.int ch), .val (.int (0 : Int32)), .val (.int (0 : Int32)), .val (.int (0 : Int32)), .val (.int (1 : Int32)), .val (.int (1 : Int32))] [(.int (own_ends (1 : Int32) (1 : Int32) ch))])
                refine own_go (fun _ kk' => XS.iload X42.here hx rfl (hb hby at_248) rfl  kk') ?_
                show own_Go p e below K T42 (mkF m 250 #[.val (.int x0), .val (.int y0), .val (.int z0), .val (.int ((x0 &&& (2147483647 : Int32)) % (3 : Int32))), .val (.ref a2), .val (.int k5), .val (.int ch), .val (.int (0 : Int32)), .val (.int (0 : Int32)), .val (.int (0 : Int32)), .val (.int (1 : Int32)), .val (.int (1 : Int32))] [(.int (1 : Int32)), (.int (own_ends (1 : Int32) (1 : Int32) ch))])
                refine own_go (fun _ kk' => XS.icmpNo X42.here hx rfl (hb hby at_250) rfl (teq ((by rw [hc168_41]; decide) : (own_ends (1 : Int32) (1 : Int32) ch) = (1 : Int32))).2 kk') ?_
                show own_Go p e below K T42 (mkF m 253 #[.val (.int x0), .val (.int y0), .val (.int z0), .val (.int ((x0 &&& (2147483647 : Int32)) % (3 : Int32))), .val (.ref a2), .val (.int k5), .val (.int ch), .val (.int (0 : Int32)), .val (.int (0 : Int32)), .val (.int (0 : Int32)), .val (.int (1 : Int32)), .val (.int (1 : Int32))] [])
                refine own_go (fun _ kk' => XS.iconst X42.here hx rfl (hb hby at_253) kk') ?_
                show own_Go p e below K T42 (mkF m 254 #[.val (.int x0), .val (.int y0), .val (.int z0), .val (.int ((x0 &&& (2147483647 : Int32)) % (3 : Int32))), .val (.ref a2), .val (.int k5), .val (.int ch), .val (.int (0 : Int32)), .val (.int (0 : Int32)), .val (.int (0 : Int32)), .val (.int (1 : Int32)), .val (.int (1 : Int32))] [(.int (1 : Int32))])
                refine own_go (fun _ kk' => XS.goto X42.here hx rfl (pc0 := 254) (pc' := 258) rfl (hb hby at_254) (by decide) (by decide) kk') ?_
                show own_Go p e below K T42 (mkF m 258 #[.val (.int x0), .val (.int y0), .val (.int z0), .val (.int ((x0 &&& (2147483647 : Int32)) % (3 : Int32))), .val (.ref a2), .val (.int k5), .val (.int ch), .val (.int (0 : Int32)), .val (.int (0 : Int32)), .val (.int (0 : Int32)), .val (.int (1 : Int32)), .val (.int (1 : Int32))] [(.int (1 : Int32))])
                exact own_retZ X42 hx hlk hK hret (by decide) (hb hby at_258) (by decide) (by decide) ⟨rfl, N42⟩
              · refine own_go (fun _ kk' => XS.icmpYes X34.here hx rfl (pc0 := 168) (pc' := 175) rfl (hb hby at_168) rfl (feq (hc168_41 : ¬ (ch = (8232 : Int32)))).2 (by decide) (by decide) kk') ?_
                show own_Go p e below K T34 (mkF m 175 #[.val (.int x0), .val (.int y0), .val (.int z0), .val (.int ((x0 &&& (2147483647 : Int32)) % (3 : Int32))), .val (.ref a2), .val (.int k5), .val (.int ch), .val (.int (0 : Int32)), .val (.int (0 : Int32)), .val (.int (0 : Int32)), .unset, .unset] [])
                refine own_go (fun _ kk' => XS.iconst X34.here hx rfl (hb hby at_175) kk') ?_
                show own_Go p e below K T34 (mkF m 176 #[.val (.int x0), .val (.int y0), .val (.int z0), .val (.int ((x0 &&& (2147483647 : Int32)) % (3 : Int32))), .val (.ref a2), .val (.int k5), .val (.int ch), .val (.int (0 : Int32)), .val (.int (0 : Int32)), .val (.int (0 : Int32)), .unset, .unset] [(.int (0 : Int32))])
                refine own_go (fun _ kk' => XS.istore X34.here hx rfl (hb hby at_176) rfl (l' := #[.val (.int x0), .val (.int y0), .val (.int z0), .val (.int ((x0 &&& (2147483647 : Int32)) % (3 : Int32))), .val (.ref a2), .val (.int k5), .val (.int ch), .val (.int (0 : Int32)), .val (.int (0 : Int32)), .val (.int (0 : Int32)), .val (.int (0 : Int32)), .unset]) rfl kk') ?_
                show own_Go p e below K T34 (mkF m 178 #[.val (.int x0), .val (.int y0), .val (.int z0), .val (.int ((x0 &&& (2147483647 : Int32)) % (3 : Int32))), .val (.ref a2), .val (.int k5), .val (.int ch), .val (.int (0 : Int32)), .val (.int (0 : Int32)), .val (.int (0 : Int32)), .val (.int (0 : Int32)), .unset] [])
                refine own_go (fun _ kk' => XS.iloadN X34.here hx rfl (hb hby at_178) rfl  kk') ?_
                show own_Go p e below K T34 (mkF m 179 #[.val (.int x0), .val (.int y0), .val (.int z0), .val (.int ((x0 &&& (2147483647 : Int32)) % (3 : Int32))), .val (.ref a2), .val (.int k5), .val (.int ch), .val (.int (0 : Int32)), .val (.int (0 : Int32)), .val (.int (0 : Int32)), .val (.int (0 : Int32)), .unset] [(.int ((x0 &&& (2147483647 : Int32)) % (3 : Int32)))])
                refine own_go (fun _ kk' => XS.ifYes X34.here hx rfl (pc0 := 179) (pc' := 202) rfl (hb hby at_179) rfl ((if0 _ _).trans (feq (hc8_17 : ¬ (((x0 &&& (2147483647 : Int32)) % (3 : Int32)) = (0 : Int32)))).2) (by decide) (by decide) kk') ?_
                show own_Go p e below K T34 (mkF m 202 #[.val (.int x0), .val (.int y0), .val (.int z0), .val (.int ((x0 &&& (2147483647 : Int32)) % (3 : Int32))), .val (.ref a2), .val (.int k5), .val (.int ch), .val (.int (0 : Int32)), .val (.int (0 : Int32)), .val (.int (0 : Int32)), .val (.int (0 : Int32)), .unset] [])
                refine own_go (fun _ kk' => XS.iloadN X34.here hx rfl (hb hby at_202) rfl  kk') ?_
                show own_Go p e below K T34 (mkF m 203 #[.val (.int x0), .val (.int y0), .val (.int z0), .val (.int ((x0 &&& (2147483647 : Int32)) % (3 : Int32))), .val (.ref a2), .val (.int k5), .val (.int ch), .val (.int (0 : Int32)), .val (.int (0 : Int32)), .val (.int (0 : Int32)), .val (.int (0 : Int32)), .unset] [(.int ((x0 &&& (2147483647 : Int32)) % (3 : Int32)))])
                refine own_go (fun _ kk' => XS.iconst X34.here hx rfl (hb hby at_203) kk') ?_
                show own_Go p e below K T34 (mkF m 204 #[.val (.int x0), .val (.int y0), .val (.int z0), .val (.int ((x0 &&& (2147483647 : Int32)) % (3 : Int32))), .val (.ref a2), .val (.int k5), .val (.int ch), .val (.int (0 : Int32)), .val (.int (0 : Int32)), .val (.int (0 : Int32)), .val (.int (0 : Int32)), .unset] [(.int (1 : Int32)), (.int ((x0 &&& (2147483647 : Int32)) % (3 : Int32)))])
                refine own_go (fun _ kk' => XS.icmpNo X34.here hx rfl (hb hby at_204) rfl (teq (hc21_33 : ((x0 &&& (2147483647 : Int32)) % (3 : Int32)) = (1 : Int32))).2 kk') ?_
                show own_Go p e below K T34 (mkF m 207 #[.val (.int x0), .val (.int y0), .val (.int z0), .val (.int ((x0 &&& (2147483647 : Int32)) % (3 : Int32))), .val (.ref a2), .val (.int k5), .val (.int ch), .val (.int (0 : Int32)), .val (.int (0 : Int32)), .val (.int (0 : Int32)), .val (.int (0 : Int32)), .unset] [])
                refine own_go (fun _ kk' => XS.iload X34.here hx rfl (hb hby at_207) rfl  kk') ?_
                show own_Go p e below K T34 (mkF m 209 #[.val (.int x0), .val (.int y0), .val (.int z0), .val (.int ((x0 &&& (2147483647 : Int32)) % (3 : Int32))), .val (.ref a2), .val (.int k5), .val (.int ch), .val (.int (0 : Int32)), .val (.int (0 : Int32)), .val (.int (0 : Int32)), .val (.int (0 : Int32)), .unset] [(.int (0 : Int32))])
                refine own_go (fun _ kk' => XS.ifNo X34.here hx rfl (hb hby at_209) rfl ((if0 _ _).trans (teq ((by decide) : (0 : Int32) = (0 : Int32))).2) kk') ?_
                show own_Go p e below K T34 (mkF m 212 #[.val (.int x0), .val (.int y0), .val (.int z0), .val (.int ((x0 &&& (2147483647 : Int32)) % (3 : Int32))), .val (.ref a2), .val (.int k5), .val (.int ch), .val (.int (0 : Int32)), .val (.int (0 : Int32)), .val (.int (0 : Int32)), .val (.int (0 : Int32)), .unset] [])
                refine own_go (fun _ kk' => XS.iload X34.here hx rfl (hb hby at_212) rfl  kk') ?_
                show own_Go p e below K T34 (mkF m 214 #[.val (.int x0), .val (.int y0), .val (.int z0), .val (.int ((x0 &&& (2147483647 : Int32)) % (3 : Int32))), .val (.ref a2), .val (.int k5), .val (.int ch), .val (.int (0 : Int32)), .val (.int (0 : Int32)), .val (.int (0 : Int32)), .val (.int (0 : Int32)), .unset] [(.int (0 : Int32))])
                refine own_go (fun _ kk' => XS.ifNo X34.here hx rfl (hb hby at_214) rfl ((if0 _ _).trans (teq ((by decide) : (0 : Int32) = (0 : Int32))).2) kk') ?_
                show own_Go p e below K T34 (mkF m 217 #[.val (.int x0), .val (.int y0), .val (.int z0), .val (.int ((x0 &&& (2147483647 : Int32)) % (3 : Int32))), .val (.ref a2), .val (.int k5), .val (.int ch), .val (.int (0 : Int32)), .val (.int (0 : Int32)), .val (.int (0 : Int32)), .val (.int (0 : Int32)), .unset] [])
                refine own_go (fun _ kk' => XS.iload X34.here hx rfl (hb hby at_217) rfl  kk') ?_
                show own_Go p e below K T34 (mkF m 219 #[.val (.int x0), .val (.int y0), .val (.int z0), .val (.int ((x0 &&& (2147483647 : Int32)) % (3 : Int32))), .val (.ref a2), .val (.int k5), .val (.int ch), .val (.int (0 : Int32)), .val (.int (0 : Int32)), .val (.int (0 : Int32)), .val (.int (0 : Int32)), .unset] [(.int (0 : Int32))])
                refine own_go (fun _ kk' => XS.ifNo X34.here hx rfl (hb hby at_219) rfl ((if0 _ _).trans (teq ((by decide) : (0 : Int32) = (0 : Int32))).2) kk') ?_
                show own_Go p e below K T34 (mkF m 222 #[.val (.int x0), .val (.int y0), .val (.int z0), .val (.int ((x0 &&& (2147483647 : Int32)) % (3 : Int32))), .val (.ref a2), .val (.int k5), .val (.int ch), .val (.int (0 : Int32)), .val (.int (0 : Int32)), .val (.int (0 : Int32)), .val (.int (0 : Int32)), .unset] [])
                refine own_go (fun _ kk' => XS.iload X34.here hx rfl (hb hby at_222) rfl  kk') ?_
                show own_Go p e below K T34 (mkF m 224 #[.val (.int x0), .val (.int y0), .val (.int z0), .val (.int ((x0 &&& (2147483647 : Int32)) % (3 : Int32))), .val (.ref a2), .val (.int k5), .val (.int ch), .val (.int (0 : Int32)), .val (.int (0 : Int32)), .val (.int (0 : Int32)), .val (.int (0 : Int32)), .unset] [(.int (0 : Int32))])
                refine own_go (fun _ kk' => XS.ifYes X34.here hx rfl (pc0 := 224) (pc' := 231) rfl (hb hby at_224) rfl ((if0 _ _).trans (teq ((by decide) : (0 : Int32) = (0 : Int32))).1) (by decide) (by decide) kk') ?_
                show own_Go p e below K T34 (mkF m 231 #[.val (.int x0), .val (.int y0), .val (.int z0), .val (.int ((x0 &&& (2147483647 : Int32)) % (3 : Int32))), .val (.ref a2), .val (.int k5), .val (.int ch), .val (.int (0 : Int32)), .val (.int (0 : Int32)), .val (.int (0 : Int32)), .val (.int (0 : Int32)), .unset] [])
                refine own_go (fun _ kk' => XS.iconst X34.here hx rfl (hb hby at_231) kk') ?_
                show own_Go p e below K T34 (mkF m 232 #[.val (.int x0), .val (.int y0), .val (.int z0), .val (.int ((x0 &&& (2147483647 : Int32)) % (3 : Int32))), .val (.ref a2), .val (.int k5), .val (.int ch), .val (.int (0 : Int32)), .val (.int (0 : Int32)), .val (.int (0 : Int32)), .val (.int (0 : Int32)), .unset] [(.int (0 : Int32))])
                refine own_go (fun _ kk' => XS.istore X34.here hx rfl (hb hby at_232) rfl (l' := #[.val (.int x0), .val (.int y0), .val (.int z0), .val (.int ((x0 &&& (2147483647 : Int32)) % (3 : Int32))), .val (.ref a2), .val (.int k5), .val (.int ch), .val (.int (0 : Int32)), .val (.int (0 : Int32)), .val (.int (0 : Int32)), .val (.int (0 : Int32)), .val (.int (0 : Int32))]) rfl kk') ?_
                show own_Go p e below K T34 (mkF m 234 #[.val (.int x0), .val (.int y0), .val (.int z0), .val (.int ((x0 &&& (2147483647 : Int32)) % (3 : Int32))), .val (.ref a2), .val (.int k5), .val (.int ch), .val (.int (0 : Int32)), .val (.int (0 : Int32)), .val (.int (0 : Int32)), .val (.int (0 : Int32)), .val (.int (0 : Int32))] [])
                refine own_go (fun _ kk' => XS.goto X34.here hx rfl (pc0 := 234) (pc' := 241) rfl (hb hby at_234) (by decide) (by decide) kk') ?_
                show own_Go p e below K T34 (mkF m 241 #[.val (.int x0), .val (.int y0), .val (.int z0), .val (.int ((x0 &&& (2147483647 : Int32)) % (3 : Int32))), .val (.ref a2), .val (.int k5), .val (.int ch), .val (.int (0 : Int32)), .val (.int (0 : Int32)), .val (.int (0 : Int32)), .val (.int (0 : Int32)), .val (.int (0 : Int32))] [])
                refine own_go (fun _ kk' => XS.aload X34.here hx rfl (hb hby at_241) rfl rfl  kk') ?_
                show own_Go p e below K T34 (mkF m 243 #[.val (.int x0), .val (.int y0), .val (.int z0), .val (.int ((x0 &&& (2147483647 : Int32)) % (3 : Int32))), .val (.ref a2), .val (.int k5), .val (.int ch), .val (.int (0 : Int32)), .val (.int (0 : Int32)), .val (.int (0 : Int32)), .val (.int (0 : Int32)), .val (.int (0 : Int32))] [(.ref a2)])
                refine own_go (fun _ kk' => XS.iload X34.here hx rfl (hb hby at_243) rfl  kk') ?_
                show own_Go p e below K T34 (mkF m 245 #[.val (.int x0), .val (.int y0), .val (.int z0), .val (.int ((x0 &&& (2147483647 : Int32)) % (3 : Int32))), .val (.ref a2), .val (.int k5), .val (.int ch), .val (.int (0 : Int32)), .val (.int (0 : Int32)), .val (.int (0 : Int32)), .val (.int (0 : Int32)), .val (.int (0 : Int32))] [(.int ch), (.ref a2)])
                refine own_callV X34 hx hZ (C := "com/example/copista/copista/io/ReferenceScanner$LineEnds") (y := (⟨"com/example/copista/copista/io/ReferenceScanner$LineEnds", "endsLine", "(C)Z"⟩ : MethodName)) (z := (⟨"com/example/copista/copista/io/ReferenceScanner$LineEnds", "endsLine", "(C)Z"⟩ : MethodName)) hown (hw _ (List.mem_of_getElem? (i := 4) rfl)) (hw _ (List.mem_of_getElem? (i := 5) rfl)) (notFace_of_selects (args := #[]) (mvT hZ (hw _ (List.mem_of_getElem? (i := 7) rfl)))) (hw _ (List.mem_of_getElem? (i := 7) rfl)) (hw _ (List.mem_of_getElem? (i := 6) rfl)) (hw _ (List.mem_of_getElem? (i := 2) rfl)) (hw _ (List.mem_of_getElem? (i := 8) rfl)) (by decide) e34 (rm := own_rme) (a := a2) E2 (argsL := [(.int ch)]) (rest := []) (own_me l Z a0 hw a2 ch (1 : Int32) (1 : Int32) h0 n0 Z0 F2c F2n) (W := 0) (by decide) (by decide) (by decide) (by decide) (g := (mkF m 245 #[.val (.int x0), .val (.int y0), .val (.int z0), .val (.int ((x0 &&& (2147483647 : Int32)) % (3 : Int32))), .val (.ref a2), .val (.int k5), .val (.int ch), .val (.int (0 : Int32)), .val (.int (0 : Int32)), .val (.int (0 : Int32)), .val (.int (0 : Int32)), .val (.int (0 : Int32))] [(.int ch), (.ref a2)])) rfl (by rw [hml]; rfl) (lenOf own_pd0 rfl) rfl (by show 2 * 0 + _ ≤ _; exact Nat.le_of_eq rfl) (hb hby at_245) ?_
                intro v43 T43 L43 X43 hQ43
                obtain ⟨rfl, Nq43, e43⟩ := hQ43
                have N43 := Fr.app N0 Nq43
                show own_Go p e below K T43 (mkF m 248 #[.val (.int x0), .val (.int y0), .val (.int z0), .val (.int ((x0 &&& (2147483647 : Int32)) % (3 : Int32))), .val (.ref a2), .val (.int k5), .val (.int ch), .val (.int (0 : Int32)), .val (.int (0 : Int32)), .val (.int (0 : Int32)), .val (.int (0 : Int32)), .val (.int (0 : Int32))] [(.int (own_ends (1 : Int32) (1 : Int32) ch))])
                refine own_go (fun _ kk' => XS.iload X43.here hx rfl (hb hby at_248) rfl  kk') ?_
                show own_Go p e below K T43 (mkF m 250 #[.val (.int x0), .val (.int y0), .val (.int z0), .val (.int ((x0 &&& (2147483647 : Int32)) % (3 : Int32))), .val (.ref a2), .val (.int k5), .val (.int ch), .val (.int (0 : Int32)), .val (.int (0 : Int32)), .val (.int (0 : Int32)), .val (.int (0 : Int32)), .val (.int (0 : Int32))] [(.int (0 : Int32)), (.int (own_ends (1 : Int32) (1 : Int32) ch))])
                refine own_go (fun _ kk' => XS.icmpNo X43.here hx rfl (hb hby at_250) rfl (teq ((by simp only [own_ends, own_tail, hc124_35, hc138_37, hc153_39, hc168_41, if_false]) : (own_ends (1 : Int32) (1 : Int32) ch) = (0 : Int32))).2 kk') ?_
                show own_Go p e below K T43 (mkF m 253 #[.val (.int x0), .val (.int y0), .val (.int z0), .val (.int ((x0 &&& (2147483647 : Int32)) % (3 : Int32))), .val (.ref a2), .val (.int k5), .val (.int ch), .val (.int (0 : Int32)), .val (.int (0 : Int32)), .val (.int (0 : Int32)), .val (.int (0 : Int32)), .val (.int (0 : Int32))] [])
                refine own_go (fun _ kk' => XS.iconst X43.here hx rfl (hb hby at_253) kk') ?_
                show own_Go p e below K T43 (mkF m 254 #[.val (.int x0), .val (.int y0), .val (.int z0), .val (.int ((x0 &&& (2147483647 : Int32)) % (3 : Int32))), .val (.ref a2), .val (.int k5), .val (.int ch), .val (.int (0 : Int32)), .val (.int (0 : Int32)), .val (.int (0 : Int32)), .val (.int (0 : Int32)), .val (.int (0 : Int32))] [(.int (1 : Int32))])
                refine own_go (fun _ kk' => XS.goto X43.here hx rfl (pc0 := 254) (pc' := 258) rfl (hb hby at_254) (by decide) (by decide) kk') ?_
                show own_Go p e below K T43 (mkF m 258 #[.val (.int x0), .val (.int y0), .val (.int z0), .val (.int ((x0 &&& (2147483647 : Int32)) % (3 : Int32))), .val (.ref a2), .val (.int k5), .val (.int ch), .val (.int (0 : Int32)), .val (.int (0 : Int32)), .val (.int (0 : Int32)), .val (.int (0 : Int32)), .val (.int (0 : Int32))] [(.int (1 : Int32))])
                exact own_retZ X43 hx hlk hK hret (by decide) (hb hby at_258) (by decide) (by decide) ⟨rfl, N43⟩
      refine own_go (fun _ kk' => XS.iloadN X34.here hx rfl (hb hby at_37) rfl  kk') ?_
      show own_Go p e below K T34 (mkF m 38 #[.val (.int x0), .val (.int y0), .val (.int z0), .val (.int ((x0 &&& (2147483647 : Int32)) % (3 : Int32))), .val (.ref a2), .unset, .unset, .unset, .unset, .unset, .unset, .unset] [(.int y0)])
      refine own_go (fun _ kk' => XS.bipush X34.here hx rfl (hb hby at_38) kk') ?_
      show own_Go p e below K T34 (mkF m 40 #[.val (.int x0), .val (.int y0), .val (.int z0), .val (.int ((x0 &&& (2147483647 : Int32)) % (3 : Int32))), .val (.ref a2), .unset, .unset, .unset, .unset, .unset, .unset, .unset] [(.int (7 : Int32)), (.int y0)])
      refine own_go (fun _ kk' => XS.iand X34.here hx rfl (hb hby at_40) rfl kk') ?_
      show own_Go p e below K T34 (mkF m 41 #[.val (.int x0), .val (.int y0), .val (.int z0), .val (.int ((x0 &&& (2147483647 : Int32)) % (3 : Int32))), .val (.ref a2), .unset, .unset, .unset, .unset, .unset, .unset, .unset] [(.int (y0 &&& (7 : Int32)))])
      refine own_go (fun _ kk' => XS.istore X34.here hx rfl (hb hby at_41) rfl (l' := #[.val (.int x0), .val (.int y0), .val (.int z0), .val (.int ((x0 &&& (2147483647 : Int32)) % (3 : Int32))), .val (.ref a2), .val (.int (y0 &&& (7 : Int32))), .unset, .unset, .unset, .unset, .unset, .unset]) rfl kk') ?_
      show own_Go p e below K T34 (mkF m 43 #[.val (.int x0), .val (.int y0), .val (.int z0), .val (.int ((x0 &&& (2147483647 : Int32)) % (3 : Int32))), .val (.ref a2), .val (.int (y0 &&& (7 : Int32))), .unset, .unset, .unset, .unset, .unset, .unset] [])
      refine own_go (fun _ kk' => XS.iload X34.here hx rfl (hb hby at_43) rfl  kk') ?_
      show own_Go p e below K T34 (mkF m 45 #[.val (.int x0), .val (.int y0), .val (.int z0), .val (.int ((x0 &&& (2147483647 : Int32)) % (3 : Int32))), .val (.ref a2), .val (.int (y0 &&& (7 : Int32))), .unset, .unset, .unset, .unset, .unset, .unset] [(.int (y0 &&& (7 : Int32)))])
      by_cases hc45_44 : (y0 &&& (7 : Int32)) = (0 : Int32)
      · refine own_go (fun _ kk' => XS.ifNo X34.here hx rfl (hb hby at_45) rfl ((if0 _ _).trans (teq (hc45_44 : (y0 &&& (7 : Int32)) = (0 : Int32))).2) kk') ?_
        show own_Go p e below K T34 (mkF m 48 #[.val (.int x0), .val (.int y0), .val (.int z0), .val (.int ((x0 &&& (2147483647 : Int32)) % (3 : Int32))), .val (.ref a2), .val (.int (y0 &&& (7 : Int32))), .unset, .unset, .unset, .unset, .unset, .unset] [])
        refine own_go (fun _ kk' => XS.bipush X34.here hx rfl (hb hby at_48) kk') ?_
        show own_Go p e below K T34 (mkF m 50 #[.val (.int x0), .val (.int y0), .val (.int z0), .val (.int ((x0 &&& (2147483647 : Int32)) % (3 : Int32))), .val (.ref a2), .val (.int (y0 &&& (7 : Int32))), .unset, .unset, .unset, .unset, .unset, .unset] [(.int (10 : Int32))])
        refine own_go (fun _ kk' => XS.istore X34.here hx rfl (hb hby at_50) rfl (l' := #[.val (.int x0), .val (.int y0), .val (.int z0), .val (.int ((x0 &&& (2147483647 : Int32)) % (3 : Int32))), .val (.ref a2), .val (.int (y0 &&& (7 : Int32))), .val (.int (10 : Int32)), .unset, .unset, .unset, .unset, .unset]) rfl kk') ?_
        show own_Go p e below K T34 (mkF m 52 #[.val (.int x0), .val (.int y0), .val (.int z0), .val (.int ((x0 &&& (2147483647 : Int32)) % (3 : Int32))), .val (.ref a2), .val (.int (y0 &&& (7 : Int32))), .val (.int (10 : Int32)), .unset, .unset, .unset, .unset, .unset] [])
        refine own_go (fun _ kk' => XS.goto X34.here hx rfl (pc0 := 52) (pc' := 120) rfl (hb hby at_52) (by decide) (by decide) kk') ?_
        show own_Go p e below K T34 (mkF m 120 #[.val (.int x0), .val (.int y0), .val (.int z0), .val (.int ((x0 &&& (2147483647 : Int32)) % (3 : Int32))), .val (.ref a2), .val (.int (y0 &&& (7 : Int32))), .val (.int (10 : Int32)), .unset, .unset, .unset, .unset, .unset] [])
        exact j120_2 _ _
      · refine own_go (fun _ kk' => XS.ifYes X34.here hx rfl (pc0 := 45) (pc' := 55) rfl (hb hby at_45) rfl ((if0 _ _).trans (feq (hc45_44 : ¬ ((y0 &&& (7 : Int32)) = (0 : Int32)))).2) (by decide) (by decide) kk') ?_
        show own_Go p e below K T34 (mkF m 55 #[.val (.int x0), .val (.int y0), .val (.int z0), .val (.int ((x0 &&& (2147483647 : Int32)) % (3 : Int32))), .val (.ref a2), .val (.int (y0 &&& (7 : Int32))), .unset, .unset, .unset, .unset, .unset, .unset] [])
        refine own_go (fun _ kk' => XS.iload X34.here hx rfl (hb hby at_55) rfl  kk') ?_
        show own_Go p e below K T34 (mkF m 57 #[.val (.int x0), .val (.int y0), .val (.int z0), .val (.int ((x0 &&& (2147483647 : Int32)) % (3 : Int32))), .val (.ref a2), .val (.int (y0 &&& (7 : Int32))), .unset, .unset, .unset, .unset, .unset, .unset] [(.int (y0 &&& (7 : Int32)))])
        refine own_go (fun _ kk' => XS.iconst X34.here hx rfl (hb hby at_57) kk') ?_
        show own_Go p e below K T34 (mkF m 58 #[.val (.int x0), .val (.int y0), .val (.int z0), .val (.int ((x0 &&& (2147483647 : Int32)) % (3 : Int32))), .val (.ref a2), .val (.int (y0 &&& (7 : Int32))), .unset, .unset, .unset, .unset, .unset, .unset] [(.int (1 : Int32)), (.int (y0 &&& (7 : Int32)))])
        by_cases hc58_45 : (y0 &&& (7 : Int32)) = (1 : Int32)
        · refine own_go (fun _ kk' => XS.icmpNo X34.here hx rfl (hb hby at_58) rfl (teq (hc58_45 : (y0 &&& (7 : Int32)) = (1 : Int32))).2 kk') ?_
          show own_Go p e below K T34 (mkF m 61 #[.val (.int x0), .val (.int y0), .val (.int z0), .val (.int ((x0 &&& (2147483647 : Int32)) % (3 : Int32))), .val (.ref a2), .val (.int (y0 &&& (7 : Int32))), .unset, .unset, .unset, .unset, .unset, .unset] [])
          refine own_go (fun _ kk' => XS.bipush X34.here hx rfl (hb hby at_61) kk') ?_
          show own_Go p e below K T34 (mkF m 63 #[.val (.int x0), .val (.int y0), .val (.int z0), .val (.int ((x0 &&& (2147483647 : Int32)) % (3 : Int32))), .val (.ref a2), .val (.int (y0 &&& (7 : Int32))), .unset, .unset, .unset, .unset, .unset, .unset] [(.int (13 : Int32))])
          refine own_go (fun _ kk' => XS.istore X34.here hx rfl (hb hby at_63) rfl (l' := #[.val (.int x0), .val (.int y0), .val (.int z0), .val (.int ((x0 &&& (2147483647 : Int32)) % (3 : Int32))), .val (.ref a2), .val (.int (y0 &&& (7 : Int32))), .val (.int (13 : Int32)), .unset, .unset, .unset, .unset, .unset]) rfl kk') ?_
          show own_Go p e below K T34 (mkF m 65 #[.val (.int x0), .val (.int y0), .val (.int z0), .val (.int ((x0 &&& (2147483647 : Int32)) % (3 : Int32))), .val (.ref a2), .val (.int (y0 &&& (7 : Int32))), .val (.int (13 : Int32)), .unset, .unset, .unset, .unset, .unset] [])
          refine own_go (fun _ kk' => XS.goto X34.here hx rfl (pc0 := 65) (pc' := 120) rfl (hb hby at_65) (by decide) (by decide) kk') ?_
          show own_Go p e below K T34 (mkF m 120 #[.val (.int x0), .val (.int y0), .val (.int z0), .val (.int ((x0 &&& (2147483647 : Int32)) % (3 : Int32))), .val (.ref a2), .val (.int (y0 &&& (7 : Int32))), .val (.int (13 : Int32)), .unset, .unset, .unset, .unset, .unset] [])
          exact j120_2 _ _
        · refine own_go (fun _ kk' => XS.icmpYes X34.here hx rfl (pc0 := 58) (pc' := 68) rfl (hb hby at_58) rfl (feq (hc58_45 : ¬ ((y0 &&& (7 : Int32)) = (1 : Int32)))).2 (by decide) (by decide) kk') ?_
          show own_Go p e below K T34 (mkF m 68 #[.val (.int x0), .val (.int y0), .val (.int z0), .val (.int ((x0 &&& (2147483647 : Int32)) % (3 : Int32))), .val (.ref a2), .val (.int (y0 &&& (7 : Int32))), .unset, .unset, .unset, .unset, .unset, .unset] [])
          refine own_go (fun _ kk' => XS.iload X34.here hx rfl (hb hby at_68) rfl  kk') ?_
          show own_Go p e below K T34 (mkF m 70 #[.val (.int x0), .val (.int y0), .val (.int z0), .val (.int ((x0 &&& (2147483647 : Int32)) % (3 : Int32))), .val (.ref a2), .val (.int (y0 &&& (7 : Int32))), .unset, .unset, .unset, .unset, .unset, .unset] [(.int (y0 &&& (7 : Int32)))])
          refine own_go (fun _ kk' => XS.iconst X34.here hx rfl (hb hby at_70) kk') ?_
          show own_Go p e below K T34 (mkF m 71 #[.val (.int x0), .val (.int y0), .val (.int z0), .val (.int ((x0 &&& (2147483647 : Int32)) % (3 : Int32))), .val (.ref a2), .val (.int (y0 &&& (7 : Int32))), .unset, .unset, .unset, .unset, .unset, .unset] [(.int (2 : Int32)), (.int (y0 &&& (7 : Int32)))])
          by_cases hc71_46 : (y0 &&& (7 : Int32)) = (2 : Int32)
          · refine own_go (fun _ kk' => XS.icmpNo X34.here hx rfl (hb hby at_71) rfl (teq (hc71_46 : (y0 &&& (7 : Int32)) = (2 : Int32))).2 kk') ?_
            show own_Go p e below K T34 (mkF m 74 #[.val (.int x0), .val (.int y0), .val (.int z0), .val (.int ((x0 &&& (2147483647 : Int32)) % (3 : Int32))), .val (.ref a2), .val (.int (y0 &&& (7 : Int32))), .unset, .unset, .unset, .unset, .unset, .unset] [])
            refine own_go (fun _ kk' => XS.sipush X34.here hx rfl (hb hby at_74) kk') ?_
            show own_Go p e below K T34 (mkF m 77 #[.val (.int x0), .val (.int y0), .val (.int z0), .val (.int ((x0 &&& (2147483647 : Int32)) % (3 : Int32))), .val (.ref a2), .val (.int (y0 &&& (7 : Int32))), .unset, .unset, .unset, .unset, .unset, .unset] [(.int (133 : Int32))])
            refine own_go (fun _ kk' => XS.istore X34.here hx rfl (hb hby at_77) rfl (l' := #[.val (.int x0), .val (.int y0), .val (.int z0), .val (.int ((x0 &&& (2147483647 : Int32)) % (3 : Int32))), .val (.ref a2), .val (.int (y0 &&& (7 : Int32))), .val (.int (133 : Int32)), .unset, .unset, .unset, .unset, .unset]) rfl kk') ?_
            show own_Go p e below K T34 (mkF m 79 #[.val (.int x0), .val (.int y0), .val (.int z0), .val (.int ((x0 &&& (2147483647 : Int32)) % (3 : Int32))), .val (.ref a2), .val (.int (y0 &&& (7 : Int32))), .val (.int (133 : Int32)), .unset, .unset, .unset, .unset, .unset] [])
            refine own_go (fun _ kk' => XS.goto X34.here hx rfl (pc0 := 79) (pc' := 120) rfl (hb hby at_79) (by decide) (by decide) kk') ?_
            show own_Go p e below K T34 (mkF m 120 #[.val (.int x0), .val (.int y0), .val (.int z0), .val (.int ((x0 &&& (2147483647 : Int32)) % (3 : Int32))), .val (.ref a2), .val (.int (y0 &&& (7 : Int32))), .val (.int (133 : Int32)), .unset, .unset, .unset, .unset, .unset] [])
            exact j120_2 _ _
          · refine own_go (fun _ kk' => XS.icmpYes X34.here hx rfl (pc0 := 71) (pc' := 82) rfl (hb hby at_71) rfl (feq (hc71_46 : ¬ ((y0 &&& (7 : Int32)) = (2 : Int32)))).2 (by decide) (by decide) kk') ?_
            show own_Go p e below K T34 (mkF m 82 #[.val (.int x0), .val (.int y0), .val (.int z0), .val (.int ((x0 &&& (2147483647 : Int32)) % (3 : Int32))), .val (.ref a2), .val (.int (y0 &&& (7 : Int32))), .unset, .unset, .unset, .unset, .unset, .unset] [])
            refine own_go (fun _ kk' => XS.iload X34.here hx rfl (hb hby at_82) rfl  kk') ?_
            show own_Go p e below K T34 (mkF m 84 #[.val (.int x0), .val (.int y0), .val (.int z0), .val (.int ((x0 &&& (2147483647 : Int32)) % (3 : Int32))), .val (.ref a2), .val (.int (y0 &&& (7 : Int32))), .unset, .unset, .unset, .unset, .unset, .unset] [(.int (y0 &&& (7 : Int32)))])
            refine own_go (fun _ kk' => XS.iconst X34.here hx rfl (hb hby at_84) kk') ?_
            show own_Go p e below K T34 (mkF m 85 #[.val (.int x0), .val (.int y0), .val (.int z0), .val (.int ((x0 &&& (2147483647 : Int32)) % (3 : Int32))), .val (.ref a2), .val (.int (y0 &&& (7 : Int32))), .unset, .unset, .unset, .unset, .unset, .unset] [(.int (3 : Int32)), (.int (y0 &&& (7 : Int32)))])
            by_cases hc85_47 : (y0 &&& (7 : Int32)) = (3 : Int32)
            · refine own_go (fun _ kk' => XS.icmpNo X34.here hx rfl (hb hby at_85) rfl (teq (hc85_47 : (y0 &&& (7 : Int32)) = (3 : Int32))).2 kk') ?_
              show own_Go p e below K T34 (mkF m 88 #[.val (.int x0), .val (.int y0), .val (.int z0), .val (.int ((x0 &&& (2147483647 : Int32)) % (3 : Int32))), .val (.ref a2), .val (.int (y0 &&& (7 : Int32))), .unset, .unset, .unset, .unset, .unset, .unset] [])
              refine own_go (fun _ kk' => XS.sipush X34.here hx rfl (hb hby at_88) kk') ?_
              show own_Go p e below K T34 (mkF m 91 #[.val (.int x0), .val (.int y0), .val (.int z0), .val (.int ((x0 &&& (2147483647 : Int32)) % (3 : Int32))), .val (.ref a2), .val (.int (y0 &&& (7 : Int32))), .unset, .unset, .unset, .unset, .unset, .unset] [(.int (8232 : Int32))])
              refine own_go (fun _ kk' => XS.istore X34.here hx rfl (hb hby at_91) rfl (l' := #[.val (.int x0), .val (.int y0), .val (.int z0), .val (.int ((x0 &&& (2147483647 : Int32)) % (3 : Int32))), .val (.ref a2), .val (.int (y0 &&& (7 : Int32))), .val (.int (8232 : Int32)), .unset, .unset, .unset, .unset, .unset]) rfl kk') ?_
              show own_Go p e below K T34 (mkF m 93 #[.val (.int x0), .val (.int y0), .val (.int z0), .val (.int ((x0 &&& (2147483647 : Int32)) % (3 : Int32))), .val (.ref a2), .val (.int (y0 &&& (7 : Int32))), .val (.int (8232 : Int32)), .unset, .unset, .unset, .unset, .unset] [])
              refine own_go (fun _ kk' => XS.goto X34.here hx rfl (pc0 := 93) (pc' := 120) rfl (hb hby at_93) (by decide) (by decide) kk') ?_
              show own_Go p e below K T34 (mkF m 120 #[.val (.int x0), .val (.int y0), .val (.int z0), .val (.int ((x0 &&& (2147483647 : Int32)) % (3 : Int32))), .val (.ref a2), .val (.int (y0 &&& (7 : Int32))), .val (.int (8232 : Int32)), .unset, .unset, .unset, .unset, .unset] [])
              exact j120_2 _ _
            · refine own_go (fun _ kk' => XS.icmpYes X34.here hx rfl (pc0 := 85) (pc' := 96) rfl (hb hby at_85) rfl (feq (hc85_47 : ¬ ((y0 &&& (7 : Int32)) = (3 : Int32)))).2 (by decide) (by decide) kk') ?_
              show own_Go p e below K T34 (mkF m 96 #[.val (.int x0), .val (.int y0), .val (.int z0), .val (.int ((x0 &&& (2147483647 : Int32)) % (3 : Int32))), .val (.ref a2), .val (.int (y0 &&& (7 : Int32))), .unset, .unset, .unset, .unset, .unset, .unset] [])
              refine own_go (fun _ kk' => XS.iload X34.here hx rfl (hb hby at_96) rfl  kk') ?_
              show own_Go p e below K T34 (mkF m 98 #[.val (.int x0), .val (.int y0), .val (.int z0), .val (.int ((x0 &&& (2147483647 : Int32)) % (3 : Int32))), .val (.ref a2), .val (.int (y0 &&& (7 : Int32))), .unset, .unset, .unset, .unset, .unset, .unset] [(.int (y0 &&& (7 : Int32)))])
              refine own_go (fun _ kk' => XS.iconst X34.here hx rfl (hb hby at_98) kk') ?_
              show own_Go p e below K T34 (mkF m 99 #[.val (.int x0), .val (.int y0), .val (.int z0), .val (.int ((x0 &&& (2147483647 : Int32)) % (3 : Int32))), .val (.ref a2), .val (.int (y0 &&& (7 : Int32))), .unset, .unset, .unset, .unset, .unset, .unset] [(.int (4 : Int32)), (.int (y0 &&& (7 : Int32)))])
              by_cases hc99_48 : (y0 &&& (7 : Int32)) = (4 : Int32)
              · refine own_go (fun _ kk' => XS.icmpNo X34.here hx rfl (hb hby at_99) rfl (teq (hc99_48 : (y0 &&& (7 : Int32)) = (4 : Int32))).2 kk') ?_
                show own_Go p e below K T34 (mkF m 102 #[.val (.int x0), .val (.int y0), .val (.int z0), .val (.int ((x0 &&& (2147483647 : Int32)) % (3 : Int32))), .val (.ref a2), .val (.int (y0 &&& (7 : Int32))), .unset, .unset, .unset, .unset, .unset, .unset] [])
                refine own_go (fun _ kk' => XS.iloadN X34.here hx rfl (hb hby at_102) rfl  kk') ?_
                show own_Go p e below K T34 (mkF m 103 #[.val (.int x0), .val (.int y0), .val (.int z0), .val (.int ((x0 &&& (2147483647 : Int32)) % (3 : Int32))), .val (.ref a2), .val (.int (y0 &&& (7 : Int32))), .unset, .unset, .unset, .unset, .unset, .unset] [(.int z0)])
                refine own_go (fun _ kk' => XS.sipush X34.here hx rfl (hb hby at_103) kk') ?_
                show own_Go p e below K T34 (mkF m 106 #[.val (.int x0), .val (.int y0), .val (.int z0), .val (.int ((x0 &&& (2147483647 : Int32)) % (3 : Int32))), .val (.ref a2), .val (.int (y0 &&& (7 : Int32))), .unset, .unset, .unset, .unset, .unset, .unset] [(.int (255 : Int32)), (.int z0)])
                refine own_go (fun _ kk' => XS.iand X34.here hx rfl (hb hby at_106) rfl kk') ?_
                show own_Go p e below K T34 (mkF m 107 #[.val (.int x0), .val (.int y0), .val (.int z0), .val (.int ((x0 &&& (2147483647 : Int32)) % (3 : Int32))), .val (.ref a2), .val (.int (y0 &&& (7 : Int32))), .unset, .unset, .unset, .unset, .unset, .unset] [(.int (z0 &&& (255 : Int32)))])
                refine own_go (fun _ kk' => XS.i2c X34.here hx rfl (hb hby at_107) rfl kk') ?_
                show own_Go p e below K T34 (mkF m 108 #[.val (.int x0), .val (.int y0), .val (.int z0), .val (.int ((x0 &&& (2147483647 : Int32)) % (3 : Int32))), .val (.ref a2), .val (.int (y0 &&& (7 : Int32))), .unset, .unset, .unset, .unset, .unset, .unset] [(.int ((z0 &&& (255 : Int32)).toUInt32.toUInt16.toUInt32.toInt32))])
                refine own_go (fun _ kk' => XS.istore X34.here hx rfl (hb hby at_108) rfl (l' := #[.val (.int x0), .val (.int y0), .val (.int z0), .val (.int ((x0 &&& (2147483647 : Int32)) % (3 : Int32))), .val (.ref a2), .val (.int (y0 &&& (7 : Int32))), .val (.int ((z0 &&& (255 : Int32)).toUInt32.toUInt16.toUInt32.toInt32)), .unset, .unset, .unset, .unset, .unset]) rfl kk') ?_
                show own_Go p e below K T34 (mkF m 110 #[.val (.int x0), .val (.int y0), .val (.int z0), .val (.int ((x0 &&& (2147483647 : Int32)) % (3 : Int32))), .val (.ref a2), .val (.int (y0 &&& (7 : Int32))), .val (.int ((z0 &&& (255 : Int32)).toUInt32.toUInt16.toUInt32.toInt32)), .unset, .unset, .unset, .unset, .unset] [])
                refine own_go (fun _ kk' => XS.goto X34.here hx rfl (pc0 := 110) (pc' := 120) rfl (hb hby at_110) (by decide) (by decide) kk') ?_
                show own_Go p e below K T34 (mkF m 120 #[.val (.int x0), .val (.int y0), .val (.int z0), .val (.int ((x0 &&& (2147483647 : Int32)) % (3 : Int32))), .val (.ref a2), .val (.int (y0 &&& (7 : Int32))), .val (.int ((z0 &&& (255 : Int32)).toUInt32.toUInt16.toUInt32.toInt32)), .unset, .unset, .unset, .unset, .unset] [])
                exact j120_2 _ _
              · refine own_go (fun _ kk' => XS.icmpYes X34.here hx rfl (pc0 := 99) (pc' := 113) rfl (hb hby at_99) rfl (feq (hc99_48 : ¬ ((y0 &&& (7 : Int32)) = (4 : Int32)))).2 (by decide) (by decide) kk') ?_
                show own_Go p e below K T34 (mkF m 113 #[.val (.int x0), .val (.int y0), .val (.int z0), .val (.int ((x0 &&& (2147483647 : Int32)) % (3 : Int32))), .val (.ref a2), .val (.int (y0 &&& (7 : Int32))), .unset, .unset, .unset, .unset, .unset, .unset] [])
                refine own_go (fun _ kk' => XS.iloadN X34.here hx rfl (hb hby at_113) rfl  kk') ?_
                show own_Go p e below K T34 (mkF m 114 #[.val (.int x0), .val (.int y0), .val (.int z0), .val (.int ((x0 &&& (2147483647 : Int32)) % (3 : Int32))), .val (.ref a2), .val (.int (y0 &&& (7 : Int32))), .unset, .unset, .unset, .unset, .unset, .unset] [(.int z0)])
                refine own_go (fun tt' kk' => X34.ldcInt hx hown (mvT hZ (hw _ (List.mem_of_getElem? (i := 15) rfl))) (g := (mkF m 114 #[.val (.int x0), .val (.int y0), .val (.int z0), .val (.int ((x0 &&& (2147483647 : Int32)) % (3 : Int32))), .val (.ref a2), .val (.int (y0 &&& (7 : Int32))), .unset, .unset, .unset, .unset, .unset, .unset] [(.int z0)])) rfl (hb hby at_114) tt' kk') ?_
                show own_Go p e below K T34 (mkF m 116 #[.val (.int x0), .val (.int y0), .val (.int z0), .val (.int ((x0 &&& (2147483647 : Int32)) % (3 : Int32))), .val (.ref a2), .val (.int (y0 &&& (7 : Int32))), .unset, .unset, .unset, .unset, .unset, .unset] [(.int (65535 : Int32)), (.int z0)])
                refine own_go (fun _ kk' => XS.iand X34.here hx rfl (hb hby at_116) rfl kk') ?_
                show own_Go p e below K T34 (mkF m 117 #[.val (.int x0), .val (.int y0), .val (.int z0), .val (.int ((x0 &&& (2147483647 : Int32)) % (3 : Int32))), .val (.ref a2), .val (.int (y0 &&& (7 : Int32))), .unset, .unset, .unset, .unset, .unset, .unset] [(.int (z0 &&& (65535 : Int32)))])
                refine own_go (fun _ kk' => XS.i2c X34.here hx rfl (hb hby at_117) rfl kk') ?_
                show own_Go p e below K T34 (mkF m 118 #[.val (.int x0), .val (.int y0), .val (.int z0), .val (.int ((x0 &&& (2147483647 : Int32)) % (3 : Int32))), .val (.ref a2), .val (.int (y0 &&& (7 : Int32))), .unset, .unset, .unset, .unset, .unset, .unset] [(.int ((z0 &&& (65535 : Int32)).toUInt32.toUInt16.toUInt32.toInt32))])
                refine own_go (fun _ kk' => XS.istore X34.here hx rfl (hb hby at_118) rfl (l' := #[.val (.int x0), .val (.int y0), .val (.int z0), .val (.int ((x0 &&& (2147483647 : Int32)) % (3 : Int32))), .val (.ref a2), .val (.int (y0 &&& (7 : Int32))), .val (.int ((z0 &&& (65535 : Int32)).toUInt32.toUInt16.toUInt32.toInt32)), .unset, .unset, .unset, .unset, .unset]) rfl kk') ?_
                show own_Go p e below K T34 (mkF m 120 #[.val (.int x0), .val (.int y0), .val (.int z0), .val (.int ((x0 &&& (2147483647 : Int32)) % (3 : Int32))), .val (.ref a2), .val (.int (y0 &&& (7 : Int32))), .val (.int ((z0 &&& (65535 : Int32)).toUInt32.toUInt16.toUInt32.toInt32)), .unset, .unset, .unset, .unset, .unset] [])
                exact j120_2 _ _
    · refine own_go (fun _ kk' => XS.icmpYes X0.here hx rfl (pc0 := 21) (pc' := 32) rfl (hb hby at_21) rfl (feq (hc21_33 : ¬ (((x0 &&& (2147483647 : Int32)) % (3 : Int32)) = (1 : Int32)))).2 (by decide) (by decide) kk') ?_
      show own_Go p e below K T0 (mkF m 32 #[.val (.int x0), .val (.int y0), .val (.int z0), .val (.int ((x0 &&& (2147483647 : Int32)) % (3 : Int32))), .unset, .unset, .unset, .unset, .unset, .unset, .unset, .unset] [])
      obtain ⟨T49, X49, e49, st49⟩ := getS2 X0 hx hZ hown (host := "") (Or.inl (hw _ (List.mem_of_getElem? (i := 13) rfl))) Via.refl e0 S3 (g := (mkF m 32 #[.val (.int x0), .val (.int y0), .val (.int z0), .val (.int ((x0 &&& (2147483647 : Int32)) % (3 : Int32))), .unset, .unset, .unset, .unset, .unset, .unset, .unset, .unset] [])) rfl (hb hby at_32)
      refine own_go st49 ?_
      show own_Go p e below K T49 (mkF m 35 #[.val (.int x0), .val (.int y0), .val (.int z0), .val (.int ((x0 &&& (2147483647 : Int32)) % (3 : Int32))), .unset, .unset, .unset, .unset, .unset, .unset, .unset, .unset] [(.ref a3)])
      refine own_go (fun _ kk' => XS.astore X49.here hx rfl (hb hby at_35) rfl rfl (l' := #[.val (.int x0), .val (.int y0), .val (.int z0), .val (.int ((x0 &&& (2147483647 : Int32)) % (3 : Int32))), .val (.ref a3), .unset, .unset, .unset, .unset, .unset, .unset, .unset]) rfl kk') ?_
      show own_Go p e below K T49 (mkF m 37 #[.val (.int x0), .val (.int y0), .val (.int z0), .val (.int ((x0 &&& (2147483647 : Int32)) % (3 : Int32))), .val (.ref a3), .unset, .unset, .unset, .unset, .unset, .unset, .unset] [])
      have j120_3 : ∀ (k5 ch : Int32), own_Go p e below K T49 (mkF m 120 #[.val (.int x0), .val (.int y0), .val (.int z0), .val (.int ((x0 &&& (2147483647 : Int32)) % (3 : Int32))), .val (.ref a3), .val (.int k5), .val (.int ch), .unset, .unset, .unset, .unset, .unset] []) := by
        intro k5 ch
        refine own_go (fun _ kk' => XS.iload X49.here hx rfl (hb hby at_120) rfl  kk') ?_
        show own_Go p e below K T49 (mkF m 122 #[.val (.int x0), .val (.int y0), .val (.int z0), .val (.int ((x0 &&& (2147483647 : Int32)) % (3 : Int32))), .val (.ref a3), .val (.int k5), .val (.int ch), .unset, .unset, .unset, .unset, .unset] [(.int ch)])
        refine own_go (fun _ kk' => XS.bipush X49.here hx rfl (hb hby at_122) kk') ?_
        show own_Go p e below K T49 (mkF m 124 #[.val (.int x0), .val (.int y0), .val (.int z0), .val (.int ((x0 &&& (2147483647 : Int32)) % (3 : Int32))), .val (.ref a3), .val (.int k5), .val (.int ch), .unset, .unset, .unset, .unset, .unset] [(.int (10 : Int32)), (.int ch)])
        by_cases hc124_50 : ch = (10 : Int32)
        · refine own_go (fun _ kk' => XS.icmpNo X49.here hx rfl (hb hby at_124) rfl (teq (hc124_50 : ch = (10 : Int32))).2 kk') ?_
          show own_Go p e below K T49 (mkF m 127 #[.val (.int x0), .val (.int y0), .val (.int z0), .val (.int ((x0 &&& (2147483647 : Int32)) % (3 : Int32))), .val (.ref a3), .val (.int k5), .val (.int ch), .unset, .unset, .unset, .unset, .unset] [])
          refine own_go (fun _ kk' => XS.iconst X49.here hx rfl (hb hby at_127) kk') ?_
          show own_Go p e below K T49 (mkF m 128 #[.val (.int x0), .val (.int y0), .val (.int z0), .val (.int ((x0 &&& (2147483647 : Int32)) % (3 : Int32))), .val (.ref a3), .val (.int k5), .val (.int ch), .unset, .unset, .unset, .unset, .unset] [(.int (1 : Int32))])
          refine own_go (fun _ kk' => XS.goto X49.here hx rfl (pc0 := 128) (pc' := 132) rfl (hb hby at_128) (by decide) (by decide) kk') ?_
          show own_Go p e below K T49 (mkF m 132 #[.val (.int x0), .val (.int y0), .val (.int z0), .val (.int ((x0 &&& (2147483647 : Int32)) % (3 : Int32))), .val (.ref a3), .val (.int k5), .val (.int ch), .unset, .unset, .unset, .unset, .unset] [(.int (1 : Int32))])
          refine own_go (fun _ kk' => XS.istore X49.here hx rfl (hb hby at_132) rfl (l' := #[.val (.int x0), .val (.int y0), .val (.int z0), .val (.int ((x0 &&& (2147483647 : Int32)) % (3 : Int32))), .val (.ref a3), .val (.int k5), .val (.int ch), .val (.int (1 : Int32)), .unset, .unset, .unset, .unset]) rfl kk') ?_
          show own_Go p e below K T49 (mkF m 134 #[.val (.int x0), .val (.int y0), .val (.int z0), .val (.int ((x0 &&& (2147483647 : Int32)) % (3 : Int32))), .val (.ref a3), .val (.int k5), .val (.int ch), .val (.int (1 : Int32)), .unset, .unset, .unset, .unset] [])
          refine own_go (fun _ kk' => XS.iload X49.here hx rfl (hb hby at_134) rfl  kk') ?_
          show own_Go p e below K T49 (mkF m 136 #[.val (.int x0), .val (.int y0), .val (.int z0), .val (.int ((x0 &&& (2147483647 : Int32)) % (3 : Int32))), .val (.ref a3), .val (.int k5), .val (.int ch), .val (.int (1 : Int32)), .unset, .unset, .unset, .unset] [(.int ch)])
          refine own_go (fun _ kk' => XS.bipush X49.here hx rfl (hb hby at_136) kk') ?_
          show own_Go p e below K T49 (mkF m 138 #[.val (.int x0), .val (.int y0), .val (.int z0), .val (.int ((x0 &&& (2147483647 : Int32)) % (3 : Int32))), .val (.ref a3), .val (.int k5), .val (.int ch), .val (.int (1 : Int32)), .unset, .unset, .unset, .unset] [(.int (13 : Int32)), (.int ch)])
          refine own_go (fun _ kk' => XS.icmpYes X49.here hx rfl (pc0 := 138) (pc' := 145) rfl (hb hby at_138) rfl (feq ((fun q => absurd (hc124_50.symm.trans q) (by decide)) : ¬ (ch = (13 : Int32)))).2 (by decide) (by decide) kk') ?_
          show own_Go p e below K T49 (mkF m 145 #[.val (.int x0), .val (.int y0), .val (.int z0), .val (.int ((x0 &&& (2147483647 : Int32)) % (3 : Int32))), .val (.ref a3), .val (.int k5), .val (.int ch), .val (.int (1 : Int32)), .unset, .unset, .unset, .unset] [])
          refine own_go (fun _ kk' => XS.iconst X49.here hx rfl (hb hby at_145) kk') ?_
          show own_Go p e below K T49 (mkF m 146 #[.val (.int x0), .val (.int y0), .val (.int z0), .val (.int ((x0 &&& (2147483647 : Int32)) % (3 : Int32))), .val (.ref a3), .val (.int k5), .val (.int ch), .val (.int (1 : Int32)), .unset, .unset, .unset, .unset] [(.int (0 : Int32))])
          refine own_go (fun _ kk' => XS.istore X49.here hx rfl (hb hby at_146) rfl (l' := #[.val (.int x0), .val (.int y0), .val (.int z0), .val (.int ((x0 &&& (2147483647 : Int32)) % (3 : Int32))), .val (.ref a3), .val (.int k5), .val (.int ch), .val (.int (1 : Int32)), .val (.int (0 : Int32)), .unset, .unset, .unset]) rfl kk') ?_
          show own_Go p e below K T49 (mkF m 148 #[.val (.int x0), .val (.int y0), .val (.int z0), .val (.int ((x0 &&& (2147483647 : Int32)) % (3 : Int32))), .val (.ref a3), .val (.int k5), .val (.int ch), .val (.int (1 : Int32)), .val (.int (0 : Int32)), .unset, .unset, .unset] [])
          refine own_go (fun _ kk' => XS.iload X49.here hx rfl (hb hby at_148) rfl  kk') ?_
          show own_Go p e below K T49 (mkF m 150 #[.val (.int x0), .val (.int y0), .val (.int z0), .val (.int ((x0 &&& (2147483647 : Int32)) % (3 : Int32))), .val (.ref a3), .val (.int k5), .val (.int ch), .val (.int (1 : Int32)), .val (.int (0 : Int32)), .unset, .unset, .unset] [(.int ch)])
          refine own_go (fun _ kk' => XS.sipush X49.here hx rfl (hb hby at_150) kk') ?_
          show own_Go p e below K T49 (mkF m 153 #[.val (.int x0), .val (.int y0), .val (.int z0), .val (.int ((x0 &&& (2147483647 : Int32)) % (3 : Int32))), .val (.ref a3), .val (.int k5), .val (.int ch), .val (.int (1 : Int32)), .val (.int (0 : Int32)), .unset, .unset, .unset] [(.int (133 : Int32)), (.int ch)])
          refine own_go (fun _ kk' => XS.icmpYes X49.here hx rfl (pc0 := 153) (pc' := 160) rfl (hb hby at_153) rfl (feq ((fun q => absurd (hc124_50.symm.trans q) (by decide)) : ¬ (ch = (133 : Int32)))).2 (by decide) (by decide) kk') ?_
          show own_Go p e below K T49 (mkF m 160 #[.val (.int x0), .val (.int y0), .val (.int z0), .val (.int ((x0 &&& (2147483647 : Int32)) % (3 : Int32))), .val (.ref a3), .val (.int k5), .val (.int ch), .val (.int (1 : Int32)), .val (.int (0 : Int32)), .unset, .unset, .unset] [])
          refine own_go (fun _ kk' => XS.iconst X49.here hx rfl (hb hby at_160) kk') ?_
          show own_Go p e below K T49 (mkF m 161 #[.val (.int x0), .val (.int y0), .val (.int z0), .val (.int ((x0 &&& (2147483647 : Int32)) % (3 : Int32))), .val (.ref a3), .val (.int k5), .val (.int ch), .val (.int (1 : Int32)), .val (.int (0 : Int32)), .unset, .unset, .unset] [(.int (0 : Int32))])
          refine own_go (fun _ kk' => XS.istore X49.here hx rfl (hb hby at_161) rfl (l' := #[.val (.int x0), .val (.int y0), .val (.int z0), .val (.int ((x0 &&& (2147483647 : Int32)) % (3 : Int32))), .val (.ref a3), .val (.int k5), .val (.int ch), .val (.int (1 : Int32)), .val (.int (0 : Int32)), .val (.int (0 : Int32)), .unset, .unset]) rfl kk') ?_
          show own_Go p e below K T49 (mkF m 163 #[.val (.int x0), .val (.int y0), .val (.int z0), .val (.int ((x0 &&& (2147483647 : Int32)) % (3 : Int32))), .val (.ref a3), .val (.int k5), .val (.int ch), .val (.int (1 : Int32)), .val (.int (0 : Int32)), .val (.int (0 : Int32)), .unset, .unset] [])
          refine own_go (fun _ kk' => XS.iload X49.here hx rfl (hb hby at_163) rfl  kk') ?_
          show own_Go p e below K T49 (mkF m 165 #[.val (.int x0), .val (.int y0), .val (.int z0), .val (.int ((x0 &&& (2147483647 : Int32)) % (3 : Int32))), .val (.ref a3), .val (.int k5), .val (.int ch), .val (.int (1 : Int32)), .val (.int (0 : Int32)), .val (.int (0 : Int32)), .unset, .unset] [(.int ch)])
          refine own_go (fun _ kk' => XS.sipush X49.here hx rfl (hb hby at_165) kk') ?_
          show own_Go p e below K T49 (mkF m 168 #[.val (.int x0), .val (.int y0), .val (.int z0), .val (.int ((x0 &&& (2147483647 : Int32)) % (3 : Int32))), .val (.ref a3), .val (.int k5), .val (.int ch), .val (.int (1 : Int32)), .val (.int (0 : Int32)), .val (.int (0 : Int32)), .unset, .unset] [(.int (8232 : Int32)), (.int ch)])
          refine own_go (fun _ kk' => XS.icmpYes X49.here hx rfl (pc0 := 168) (pc' := 175) rfl (hb hby at_168) rfl (feq ((fun q => absurd (hc124_50.symm.trans q) (by decide)) : ¬ (ch = (8232 : Int32)))).2 (by decide) (by decide) kk') ?_
          show own_Go p e below K T49 (mkF m 175 #[.val (.int x0), .val (.int y0), .val (.int z0), .val (.int ((x0 &&& (2147483647 : Int32)) % (3 : Int32))), .val (.ref a3), .val (.int k5), .val (.int ch), .val (.int (1 : Int32)), .val (.int (0 : Int32)), .val (.int (0 : Int32)), .unset, .unset] [])
          refine own_go (fun _ kk' => XS.iconst X49.here hx rfl (hb hby at_175) kk') ?_
          show own_Go p e below K T49 (mkF m 176 #[.val (.int x0), .val (.int y0), .val (.int z0), .val (.int ((x0 &&& (2147483647 : Int32)) % (3 : Int32))), .val (.ref a3), .val (.int k5), .val (.int ch), .val (.int (1 : Int32)), .val (.int (0 : Int32)), .val (.int (0 : Int32)), .unset, .unset] [(.int (0 : Int32))])
          refine own_go (fun _ kk' => XS.istore X49.here hx rfl (hb hby at_176) rfl (l' := #[.val (.int x0), .val (.int y0), .val (.int z0), .val (.int ((x0 &&& (2147483647 : Int32)) % (3 : Int32))), .val (.ref a3), .val (.int k5), .val (.int ch), .val (.int (1 : Int32)), .val (.int (0 : Int32)), .val (.int (0 : Int32)), .val (.int (0 : Int32)), .unset]) rfl kk') ?_
          show own_Go p e below K T49 (mkF m 178 #[.val (.int x0), .val (.int y0), .val (.int z0), .val (.int ((x0 &&& (2147483647 : Int32)) % (3 : Int32))), .val (.ref a3), .val (.int k5), .val (.int ch), .val (.int (1 : Int32)), .val (.int (0 : Int32)), .val (.int (0 : Int32)), .val (.int (0 : Int32)), .unset] [])
          refine own_go (fun _ kk' => XS.iloadN X49.here hx rfl (hb hby at_178) rfl  kk') ?_
          show own_Go p e below K T49 (mkF m 179 #[.val (.int x0), .val (.int y0), .val (.int z0), .val (.int ((x0 &&& (2147483647 : Int32)) % (3 : Int32))), .val (.ref a3), .val (.int k5), .val (.int ch), .val (.int (1 : Int32)), .val (.int (0 : Int32)), .val (.int (0 : Int32)), .val (.int (0 : Int32)), .unset] [(.int ((x0 &&& (2147483647 : Int32)) % (3 : Int32)))])
          refine own_go (fun _ kk' => XS.ifYes X49.here hx rfl (pc0 := 179) (pc' := 202) rfl (hb hby at_179) rfl ((if0 _ _).trans (feq (hc8_17 : ¬ (((x0 &&& (2147483647 : Int32)) % (3 : Int32)) = (0 : Int32)))).2) (by decide) (by decide) kk') ?_
          show own_Go p e below K T49 (mkF m 202 #[.val (.int x0), .val (.int y0), .val (.int z0), .val (.int ((x0 &&& (2147483647 : Int32)) % (3 : Int32))), .val (.ref a3), .val (.int k5), .val (.int ch), .val (.int (1 : Int32)), .val (.int (0 : Int32)), .val (.int (0 : Int32)), .val (.int (0 : Int32)), .unset] [])
          refine own_go (fun _ kk' => XS.iloadN X49.here hx rfl (hb hby at_202) rfl  kk') ?_
          show own_Go p e below K T49 (mkF m 203 #[.val (.int x0), .val (.int y0), .val (.int z0), .val (.int ((x0 &&& (2147483647 : Int32)) % (3 : Int32))), .val (.ref a3), .val (.int k5), .val (.int ch), .val (.int (1 : Int32)), .val (.int (0 : Int32)), .val (.int (0 : Int32)), .val (.int (0 : Int32)), .unset] [(.int ((x0 &&& (2147483647 : Int32)) % (3 : Int32)))])
          refine own_go (fun _ kk' => XS.iconst X49.here hx rfl (hb hby at_203) kk') ?_
          show own_Go p e below K T49 (mkF m 204 #[.val (.int x0), .val (.int y0), .val (.int z0), .val (.int ((x0 &&& (2147483647 : Int32)) % (3 : Int32))), .val (.ref a3), .val (.int k5), .val (.int ch), .val (.int (1 : Int32)), .val (.int (0 : Int32)), .val (.int (0 : Int32)), .val (.int (0 : Int32)), .unset] [(.int (1 : Int32)), (.int ((x0 &&& (2147483647 : Int32)) % (3 : Int32)))])
          refine own_go (fun _ kk' => XS.icmpYes X49.here hx rfl (pc0 := 204) (pc' := 237) rfl (hb hby at_204) rfl (feq (hc21_33 : ¬ (((x0 &&& (2147483647 : Int32)) % (3 : Int32)) = (1 : Int32)))).2 (by decide) (by decide) kk') ?_
          show own_Go p e below K T49 (mkF m 237 #[.val (.int x0), .val (.int y0), .val (.int z0), .val (.int ((x0 &&& (2147483647 : Int32)) % (3 : Int32))), .val (.ref a3), .val (.int k5), .val (.int ch), .val (.int (1 : Int32)), .val (.int (0 : Int32)), .val (.int (0 : Int32)), .val (.int (0 : Int32)), .unset] [])
          refine own_go (fun _ kk' => XS.iload X49.here hx rfl (hb hby at_237) rfl  kk') ?_
          show own_Go p e below K T49 (mkF m 239 #[.val (.int x0), .val (.int y0), .val (.int z0), .val (.int ((x0 &&& (2147483647 : Int32)) % (3 : Int32))), .val (.ref a3), .val (.int k5), .val (.int ch), .val (.int (1 : Int32)), .val (.int (0 : Int32)), .val (.int (0 : Int32)), .val (.int (0 : Int32)), .unset] [(.int (1 : Int32))])
          refine own_go (fun _ kk' => XS.istore X49.here hx rfl (hb hby at_239) rfl (l' := #[.val (.int x0), .val (.int y0), .val (.int z0), .val (.int ((x0 &&& (2147483647 : Int32)) % (3 : Int32))), .val (.ref a3), .val (.int k5), .val (.int ch), .val (.int (1 : Int32)), .val (.int (0 : Int32)), .val (.int (0 : Int32)), .val (.int (0 : Int32)), .val (.int (1 : Int32))]) rfl kk') ?_
          show own_Go p e below K T49 (mkF m 241 #[.val (.int x0), .val (.int y0), .val (.int z0), .val (.int ((x0 &&& (2147483647 : Int32)) % (3 : Int32))), .val (.ref a3), .val (.int k5), .val (.int ch), .val (.int (1 : Int32)), .val (.int (0 : Int32)), .val (.int (0 : Int32)), .val (.int (0 : Int32)), .val (.int (1 : Int32))] [])
          refine own_go (fun _ kk' => XS.aload X49.here hx rfl (hb hby at_241) rfl rfl  kk') ?_
          show own_Go p e below K T49 (mkF m 243 #[.val (.int x0), .val (.int y0), .val (.int z0), .val (.int ((x0 &&& (2147483647 : Int32)) % (3 : Int32))), .val (.ref a3), .val (.int k5), .val (.int ch), .val (.int (1 : Int32)), .val (.int (0 : Int32)), .val (.int (0 : Int32)), .val (.int (0 : Int32)), .val (.int (1 : Int32))] [(.ref a3)])
          refine own_go (fun _ kk' => XS.iload X49.here hx rfl (hb hby at_243) rfl  kk') ?_
          show own_Go p e below K T49 (mkF m 245 #[.val (.int x0), .val (.int y0), .val (.int z0), .val (.int ((x0 &&& (2147483647 : Int32)) % (3 : Int32))), .val (.ref a3), .val (.int k5), .val (.int ch), .val (.int (1 : Int32)), .val (.int (0 : Int32)), .val (.int (0 : Int32)), .val (.int (0 : Int32)), .val (.int (1 : Int32))] [(.int ch), (.ref a3)])
          refine own_callV X49 hx hZ (C := "com/example/copista/copista/io/ReferenceScanner$LineEnds") (y := (⟨"com/example/copista/copista/io/ReferenceScanner$LineEnds", "endsLine", "(C)Z"⟩ : MethodName)) (z := (⟨"com/example/copista/copista/io/ReferenceScanner$LineEnds", "endsLine", "(C)Z"⟩ : MethodName)) hown (hw _ (List.mem_of_getElem? (i := 4) rfl)) (hw _ (List.mem_of_getElem? (i := 5) rfl)) (notFace_of_selects (args := #[]) (mvT hZ (hw _ (List.mem_of_getElem? (i := 7) rfl)))) (hw _ (List.mem_of_getElem? (i := 7) rfl)) (hw _ (List.mem_of_getElem? (i := 6) rfl)) (hw _ (List.mem_of_getElem? (i := 2) rfl)) (hw _ (List.mem_of_getElem? (i := 8) rfl)) (by decide) e49 (rm := own_rme) (a := a3) E3 (argsL := [(.int ch)]) (rest := []) (own_me l Z a0 hw a3 ch (0 : Int32) (0 : Int32) h0 n0 Z0 F3c F3n) (W := 0) (by decide) (by decide) (by decide) (by decide) (g := (mkF m 245 #[.val (.int x0), .val (.int y0), .val (.int z0), .val (.int ((x0 &&& (2147483647 : Int32)) % (3 : Int32))), .val (.ref a3), .val (.int k5), .val (.int ch), .val (.int (1 : Int32)), .val (.int (0 : Int32)), .val (.int (0 : Int32)), .val (.int (0 : Int32)), .val (.int (1 : Int32))] [(.int ch), (.ref a3)])) rfl (by rw [hml]; rfl) (lenOf own_pd0 rfl) rfl (by show 2 * 0 + _ ≤ _; exact Nat.le_of_eq rfl) (hb hby at_245) ?_
          intro v51 T51 L51 X51 hQ51
          obtain ⟨rfl, Nq51, e51⟩ := hQ51
          have N51 := Fr.app N0 Nq51
          show own_Go p e below K T51 (mkF m 248 #[.val (.int x0), .val (.int y0), .val (.int z0), .val (.int ((x0 &&& (2147483647 : Int32)) % (3 : Int32))), .val (.ref a3), .val (.int k5), .val (.int ch), .val (.int (1 : Int32)), .val (.int (0 : Int32)), .val (.int (0 : Int32)), .val (.int (0 : Int32)), .val (.int (1 : Int32))] [(.int (own_ends (0 : Int32) (0 : Int32) ch))])
          refine own_go (fun _ kk' => XS.iload X51.here hx rfl (hb hby at_248) rfl  kk') ?_
          show own_Go p e below K T51 (mkF m 250 #[.val (.int x0), .val (.int y0), .val (.int z0), .val (.int ((x0 &&& (2147483647 : Int32)) % (3 : Int32))), .val (.ref a3), .val (.int k5), .val (.int ch), .val (.int (1 : Int32)), .val (.int (0 : Int32)), .val (.int (0 : Int32)), .val (.int (0 : Int32)), .val (.int (1 : Int32))] [(.int (1 : Int32)), (.int (own_ends (0 : Int32) (0 : Int32) ch))])
          refine own_go (fun _ kk' => XS.icmpNo X51.here hx rfl (hb hby at_250) rfl (teq ((by rw [hc124_50]; decide) : (own_ends (0 : Int32) (0 : Int32) ch) = (1 : Int32))).2 kk') ?_
          show own_Go p e below K T51 (mkF m 253 #[.val (.int x0), .val (.int y0), .val (.int z0), .val (.int ((x0 &&& (2147483647 : Int32)) % (3 : Int32))), .val (.ref a3), .val (.int k5), .val (.int ch), .val (.int (1 : Int32)), .val (.int (0 : Int32)), .val (.int (0 : Int32)), .val (.int (0 : Int32)), .val (.int (1 : Int32))] [])
          refine own_go (fun _ kk' => XS.iconst X51.here hx rfl (hb hby at_253) kk') ?_
          show own_Go p e below K T51 (mkF m 254 #[.val (.int x0), .val (.int y0), .val (.int z0), .val (.int ((x0 &&& (2147483647 : Int32)) % (3 : Int32))), .val (.ref a3), .val (.int k5), .val (.int ch), .val (.int (1 : Int32)), .val (.int (0 : Int32)), .val (.int (0 : Int32)), .val (.int (0 : Int32)), .val (.int (1 : Int32))] [(.int (1 : Int32))])
          refine own_go (fun _ kk' => XS.goto X51.here hx rfl (pc0 := 254) (pc' := 258) rfl (hb hby at_254) (by decide) (by decide) kk') ?_
          show own_Go p e below K T51 (mkF m 258 #[.val (.int x0), .val (.int y0), .val (.int z0), .val (.int ((x0 &&& (2147483647 : Int32)) % (3 : Int32))), .val (.ref a3), .val (.int k5), .val (.int ch), .val (.int (1 : Int32)), .val (.int (0 : Int32)), .val (.int (0 : Int32)), .val (.int (0 : Int32)), .val (.int (1 : Int32))] [(.int (1 : Int32))])
          exact own_retZ X51 hx hlk hK hret (by decide) (hb hby at_258) (by decide) (by decide) ⟨rfl, N51⟩
        · refine own_go (fun _ kk' => XS.icmpYes X49.here hx rfl (pc0 := 124) (pc' := 131) rfl (hb hby at_124) rfl (feq (hc124_50 : ¬ (ch = (10 : Int32)))).2 (by decide) (by decide) kk') ?_
          show own_Go p e below K T49 (mkF m 131 #[.val (.int x0), .val (.int y0), .val (.int z0), .val (.int ((x0 &&& (2147483647 : Int32)) % (3 : Int32))), .val (.ref a3), .val (.int k5), .val (.int ch), .unset, .unset, .unset, .unset, .unset] [])
          refine own_go (fun _ kk' => XS.iconst X49.here hx rfl (hb hby at_131) kk') ?_
          show own_Go p e below K T49 (mkF m 132 #[.val (.int x0), .val (.int y0), .val (.int z0), .val (.int ((x0 &&& (2147483647 : Int32)) % (3 : Int32))), .val (.ref a3), .val (.int k5), .val (.int ch), .unset, .unset, .unset, .unset, .unset] [(.int (0 : Int32))])
          refine own_go (fun _ kk' => XS.istore X49.here hx rfl (hb hby at_132) rfl (l' := #[.val (.int x0), .val (.int y0), .val (.int z0), .val (.int ((x0 &&& (2147483647 : Int32)) % (3 : Int32))), .val (.ref a3), .val (.int k5), .val (.int ch), .val (.int (0 : Int32)), .unset, .unset, .unset, .unset]) rfl kk') ?_
          show own_Go p e below K T49 (mkF m 134 #[.val (.int x0), .val (.int y0), .val (.int z0), .val (.int ((x0 &&& (2147483647 : Int32)) % (3 : Int32))), .val (.ref a3), .val (.int k5), .val (.int ch), .val (.int (0 : Int32)), .unset, .unset, .unset, .unset] [])
          refine own_go (fun _ kk' => XS.iload X49.here hx rfl (hb hby at_134) rfl  kk') ?_
          show own_Go p e below K T49 (mkF m 136 #[.val (.int x0), .val (.int y0), .val (.int z0), .val (.int ((x0 &&& (2147483647 : Int32)) % (3 : Int32))), .val (.ref a3), .val (.int k5), .val (.int ch), .val (.int (0 : Int32)), .unset, .unset, .unset, .unset] [(.int ch)])
          refine own_go (fun _ kk' => XS.bipush X49.here hx rfl (hb hby at_136) kk') ?_
          show own_Go p e below K T49 (mkF m 138 #[.val (.int x0), .val (.int y0), .val (.int z0), .val (.int ((x0 &&& (2147483647 : Int32)) % (3 : Int32))), .val (.ref a3), .val (.int k5), .val (.int ch), .val (.int (0 : Int32)), .unset, .unset, .unset, .unset] [(.int (13 : Int32)), (.int ch)])
          by_cases hc138_52 : ch = (13 : Int32)
          · refine own_go (fun _ kk' => XS.icmpNo X49.here hx rfl (hb hby at_138) rfl (teq (hc138_52 : ch = (13 : Int32))).2 kk') ?_
            show own_Go p e below K T49 (mkF m 141 #[.val (.int x0), .val (.int y0), .val (.int z0), .val (.int ((x0 &&& (2147483647 : Int32)) % (3 : Int32))), .val (.ref a3), .val (.int k5), .val (.int ch), .val (.int (0 : Int32)), .unset, .unset, .unset, .unset] [])
            refine own_go (fun _ kk' => XS.iconst X49.here hx rfl (hb hby at_141) kk') ?_
            show own_Go p e below K T49 (mkF m 142 #[.val (.int x0), .val (.int y0), .val (.int z0), .val (.int ((x0 &&& (2147483647 : Int32)) % (3 : Int32))), .val (.ref a3), .val (.int k5), .val (.int ch), .val (.int (0 : Int32)), .unset, .unset, .unset, .unset] [(.int (1 : Int32))])
            refine own_go (fun _ kk' => XS.goto X49.here hx rfl (pc0 := 142) (pc' := 146) rfl (hb hby at_142) (by decide) (by decide) kk') ?_
            show own_Go p e below K T49 (mkF m 146 #[.val (.int x0), .val (.int y0), .val (.int z0), .val (.int ((x0 &&& (2147483647 : Int32)) % (3 : Int32))), .val (.ref a3), .val (.int k5), .val (.int ch), .val (.int (0 : Int32)), .unset, .unset, .unset, .unset] [(.int (1 : Int32))])
            refine own_go (fun _ kk' => XS.istore X49.here hx rfl (hb hby at_146) rfl (l' := #[.val (.int x0), .val (.int y0), .val (.int z0), .val (.int ((x0 &&& (2147483647 : Int32)) % (3 : Int32))), .val (.ref a3), .val (.int k5), .val (.int ch), .val (.int (0 : Int32)), .val (.int (1 : Int32)), .unset, .unset, .unset]) rfl kk') ?_
            show own_Go p e below K T49 (mkF m 148 #[.val (.int x0), .val (.int y0), .val (.int z0), .val (.int ((x0 &&& (2147483647 : Int32)) % (3 : Int32))), .val (.ref a3), .val (.int k5), .val (.int ch), .val (.int (0 : Int32)), .val (.int (1 : Int32)), .unset, .unset, .unset] [])
            refine own_go (fun _ kk' => XS.iload X49.here hx rfl (hb hby at_148) rfl  kk') ?_
            show own_Go p e below K T49 (mkF m 150 #[.val (.int x0), .val (.int y0), .val (.int z0), .val (.int ((x0 &&& (2147483647 : Int32)) % (3 : Int32))), .val (.ref a3), .val (.int k5), .val (.int ch), .val (.int (0 : Int32)), .val (.int (1 : Int32)), .unset, .unset, .unset] [(.int ch)])
            refine own_go (fun _ kk' => XS.sipush X49.here hx rfl (hb hby at_150) kk') ?_
            show own_Go p e below K T49 (mkF m 153 #[.val (.int x0), .val (.int y0), .val (.int z0), .val (.int ((x0 &&& (2147483647 : Int32)) % (3 : Int32))), .val (.ref a3), .val (.int k5), .val (.int ch), .val (.int (0 : Int32)), .val (.int (1 : Int32)), .unset, .unset, .unset] [(.int (133 : Int32)), (.int ch)])
            refine own_go (fun _ kk' => XS.icmpYes X49.here hx rfl (pc0 := 153) (pc' := 160) rfl (hb hby at_153) rfl (feq ((fun q => absurd (hc138_52.symm.trans q) (by decide)) : ¬ (ch = (133 : Int32)))).2 (by decide) (by decide) kk') ?_
            show own_Go p e below K T49 (mkF m 160 #[.val (.int x0), .val (.int y0), .val (.int z0), .val (.int ((x0 &&& (2147483647 : Int32)) % (3 : Int32))), .val (.ref a3), .val (.int k5), .val (.int ch), .val (.int (0 : Int32)), .val (.int (1 : Int32)), .unset, .unset, .unset] [])
            refine own_go (fun _ kk' => XS.iconst X49.here hx rfl (hb hby at_160) kk') ?_
            show own_Go p e below K T49 (mkF m 161 #[.val (.int x0), .val (.int y0), .val (.int z0), .val (.int ((x0 &&& (2147483647 : Int32)) % (3 : Int32))), .val (.ref a3), .val (.int k5), .val (.int ch), .val (.int (0 : Int32)), .val (.int (1 : Int32)), .unset, .unset, .unset] [(.int (0 : Int32))])
            refine own_go (fun _ kk' => XS.istore X49.here hx rfl (hb hby at_161) rfl (l' := #[.val (.int x0), .val (.int y0), .val (.int z0), .val (.int ((x0 &&& (2147483647 : Int32)) % (3 : Int32))), .val (.ref a3), .val (.int k5), .val (.int ch), .val (.int (0 : Int32)), .val (.int (1 : Int32)), .val (.int (0 : Int32)), .unset, .unset]) rfl kk') ?_
            show own_Go p e below K T49 (mkF m 163 #[.val (.int x0), .val (.int y0), .val (.int z0), .val (.int ((x0 &&& (2147483647 : Int32)) % (3 : Int32))), .val (.ref a3), .val (.int k5), .val (.int ch), .val (.int (0 : Int32)), .val (.int (1 : Int32)), .val (.int (0 : Int32)), .unset, .unset] [])
            refine own_go (fun _ kk' => XS.iload X49.here hx rfl (hb hby at_163) rfl  kk') ?_
            show own_Go p e below K T49 (mkF m 165 #[.val (.int x0), .val (.int y0), .val (.int z0), .val (.int ((x0 &&& (2147483647 : Int32)) % (3 : Int32))), .val (.ref a3), .val (.int k5), .val (.int ch), .val (.int (0 : Int32)), .val (.int (1 : Int32)), .val (.int (0 : Int32)), .unset, .unset] [(.int ch)])
            refine own_go (fun _ kk' => XS.sipush X49.here hx rfl (hb hby at_165) kk') ?_
            show own_Go p e below K T49 (mkF m 168 #[.val (.int x0), .val (.int y0), .val (.int z0), .val (.int ((x0 &&& (2147483647 : Int32)) % (3 : Int32))), .val (.ref a3), .val (.int k5), .val (.int ch), .val (.int (0 : Int32)), .val (.int (1 : Int32)), .val (.int (0 : Int32)), .unset, .unset] [(.int (8232 : Int32)), (.int ch)])
            refine own_go (fun _ kk' => XS.icmpYes X49.here hx rfl (pc0 := 168) (pc' := 175) rfl (hb hby at_168) rfl (feq ((fun q => absurd (hc138_52.symm.trans q) (by decide)) : ¬ (ch = (8232 : Int32)))).2 (by decide) (by decide) kk') ?_
            show own_Go p e below K T49 (mkF m 175 #[.val (.int x0), .val (.int y0), .val (.int z0), .val (.int ((x0 &&& (2147483647 : Int32)) % (3 : Int32))), .val (.ref a3), .val (.int k5), .val (.int ch), .val (.int (0 : Int32)), .val (.int (1 : Int32)), .val (.int (0 : Int32)), .unset, .unset] [])
            refine own_go (fun _ kk' => XS.iconst X49.here hx rfl (hb hby at_175) kk') ?_
            show own_Go p e below K T49 (mkF m 176 #[.val (.int x0), .val (.int y0), .val (.int z0), .val (.int ((x0 &&& (2147483647 : Int32)) % (3 : Int32))), .val (.ref a3), .val (.int k5), .val (.int ch), .val (.int (0 : Int32)), .val (.int (1 : Int32)), .val (.int (0 : Int32)), .unset, .unset] [(.int (0 : Int32))])
            refine own_go (fun _ kk' => XS.istore X49.here hx rfl (hb hby at_176) rfl (l' := #[.val (.int x0), .val (.int y0), .val (.int z0), .val (.int ((x0 &&& (2147483647 : Int32)) % (3 : Int32))), .val (.ref a3), .val (.int k5), .val (.int ch), .val (.int (0 : Int32)), .val (.int (1 : Int32)), .val (.int (0 : Int32)), .val (.int (0 : Int32)), .unset]) rfl kk') ?_
            show own_Go p e below K T49 (mkF m 178 #[.val (.int x0), .val (.int y0), .val (.int z0), .val (.int ((x0 &&& (2147483647 : Int32)) % (3 : Int32))), .val (.ref a3), .val (.int k5), .val (.int ch), .val (.int (0 : Int32)), .val (.int (1 : Int32)), .val (.int (0 : Int32)), .val (.int (0 : Int32)), .unset] [])
            refine own_go (fun _ kk' => XS.iloadN X49.here hx rfl (hb hby at_178) rfl  kk') ?_
            show own_Go p e below K T49 (mkF m 179 #[.val (.int x0), .val (.int y0), .val (.int z0), .val (.int ((x0 &&& (2147483647 : Int32)) % (3 : Int32))), .val (.ref a3), .val (.int k5), .val (.int ch), .val (.int (0 : Int32)), .val (.int (1 : Int32)), .val (.int (0 : Int32)), .val (.int (0 : Int32)), .unset] [(.int ((x0 &&& (2147483647 : Int32)) % (3 : Int32)))])
            refine own_go (fun _ kk' => XS.ifYes X49.here hx rfl (pc0 := 179) (pc' := 202) rfl (hb hby at_179) rfl ((if0 _ _).trans (feq (hc8_17 : ¬ (((x0 &&& (2147483647 : Int32)) % (3 : Int32)) = (0 : Int32)))).2) (by decide) (by decide) kk') ?_
            show own_Go p e below K T49 (mkF m 202 #[.val (.int x0), .val (.int y0), .val (.int z0), .val (.int ((x0 &&& (2147483647 : Int32)) % (3 : Int32))), .val (.ref a3), .val (.int k5), .val (.int ch), .val (.int (0 : Int32)), .val (.int (1 : Int32)), .val (.int (0 : Int32)), .val (.int (0 : Int32)), .unset] [])
            refine own_go (fun _ kk' => XS.iloadN X49.here hx rfl (hb hby at_202) rfl  kk') ?_
            show own_Go p e below K T49 (mkF m 203 #[.val (.int x0), .val (.int y0), .val (.int z0), .val (.int ((x0 &&& (2147483647 : Int32)) % (3 : Int32))), .val (.ref a3), .val (.int k5), .val (.int ch), .val (.int (0 : Int32)), .val (.int (1 : Int32)), .val (.int (0 : Int32)), .val (.int (0 : Int32)), .unset] [(.int ((x0 &&& (2147483647 : Int32)) % (3 : Int32)))])
            refine own_go (fun _ kk' => XS.iconst X49.here hx rfl (hb hby at_203) kk') ?_
            show own_Go p e below K T49 (mkF m 204 #[.val (.int x0), .val (.int y0), .val (.int z0), .val (.int ((x0 &&& (2147483647 : Int32)) % (3 : Int32))), .val (.ref a3), .val (.int k5), .val (.int ch), .val (.int (0 : Int32)), .val (.int (1 : Int32)), .val (.int (0 : Int32)), .val (.int (0 : Int32)), .unset] [(.int (1 : Int32)), (.int ((x0 &&& (2147483647 : Int32)) % (3 : Int32)))])
            refine own_go (fun _ kk' => XS.icmpYes X49.here hx rfl (pc0 := 204) (pc' := 237) rfl (hb hby at_204) rfl (feq (hc21_33 : ¬ (((x0 &&& (2147483647 : Int32)) % (3 : Int32)) = (1 : Int32)))).2 (by decide) (by decide) kk') ?_
            show own_Go p e below K T49 (mkF m 237 #[.val (.int x0), .val (.int y0), .val (.int z0), .val (.int ((x0 &&& (2147483647 : Int32)) % (3 : Int32))), .val (.ref a3), .val (.int k5), .val (.int ch), .val (.int (0 : Int32)), .val (.int (1 : Int32)), .val (.int (0 : Int32)), .val (.int (0 : Int32)), .unset] [])
            refine own_go (fun _ kk' => XS.iload X49.here hx rfl (hb hby at_237) rfl  kk') ?_
            show own_Go p e below K T49 (mkF m 239 #[.val (.int x0), .val (.int y0), .val (.int z0), .val (.int ((x0 &&& (2147483647 : Int32)) % (3 : Int32))), .val (.ref a3), .val (.int k5), .val (.int ch), .val (.int (0 : Int32)), .val (.int (1 : Int32)), .val (.int (0 : Int32)), .val (.int (0 : Int32)), .unset] [(.int (0 : Int32))])
            refine own_go (fun _ kk' => XS.istore X49.here hx rfl (hb hby at_239) rfl (l' := #[.val (.int x0), .val (.int y0), .val (.int z0), .val (.int ((x0 &&& (2147483647 : Int32)) % (3 : Int32))), .val (.ref a3), .val (.int k5), .val (.int ch), .val (.int (0 : Int32)), .val (.int (1 : Int32)), .val (.int (0 : Int32)), .val (.int (0 : Int32)), .val (.int (0 : Int32))]) rfl kk') ?_
            show own_Go p e below K T49 (mkF m 241 #[.val (.int x0), .val (.int y0), .val (.int z0), .val (.int ((x0 &&& (2147483647 : Int32)) % (3 : Int32))), .val (.ref a3), .val (.int k5), .val (.int ch), .val (.int (0 : Int32)), .val (.int (1 : Int32)), .val (.int (0 : Int32)), .val (.int (0 : Int32)), .val (.int (0 : Int32))] [])
            refine own_go (fun _ kk' => XS.aload X49.here hx rfl (hb hby at_241) rfl rfl  kk') ?_
            show own_Go p e below K T49 (mkF m 243 #[.val (.int x0), .val (.int y0), .val (.int z0), .val (.int ((x0 &&& (2147483647 : Int32)) % (3 : Int32))), .val (.ref a3), .val (.int k5), .val (.int ch), .val (.int (0 : Int32)), .val (.int (1 : Int32)), .val (.int (0 : Int32)), .val (.int (0 : Int32)), .val (.int (0 : Int32))] [(.ref a3)])
            refine own_go (fun _ kk' => XS.iload X49.here hx rfl (hb hby at_243) rfl  kk') ?_
            show own_Go p e below K T49 (mkF m 245 #[.val (.int x0), .val (.int y0), .val (.int z0), .val (.int ((x0 &&& (2147483647 : Int32)) % (3 : Int32))), .val (.ref a3), .val (.int k5), .val (.int ch), .val (.int (0 : Int32)), .val (.int (1 : Int32)), .val (.int (0 : Int32)), .val (.int (0 : Int32)), .val (.int (0 : Int32))] [(.int ch), (.ref a3)])
            refine own_callV X49 hx hZ (C := "com/example/copista/copista/io/ReferenceScanner$LineEnds") (y := (⟨"com/example/copista/copista/io/ReferenceScanner$LineEnds", "endsLine", "(C)Z"⟩ : MethodName)) (z := (⟨"com/example/copista/copista/io/ReferenceScanner$LineEnds", "endsLine", "(C)Z"⟩ : MethodName)) hown (hw _ (List.mem_of_getElem? (i := 4) rfl)) (hw _ (List.mem_of_getElem? (i := 5) rfl)) (notFace_of_selects (args := #[]) (mvT hZ (hw _ (List.mem_of_getElem? (i := 7) rfl)))) (hw _ (List.mem_of_getElem? (i := 7) rfl)) (hw _ (List.mem_of_getElem? (i := 6) rfl)) (hw _ (List.mem_of_getElem? (i := 2) rfl)) (hw _ (List.mem_of_getElem? (i := 8) rfl)) (by decide) e49 (rm := own_rme) (a := a3) E3 (argsL := [(.int ch)]) (rest := []) (own_me l Z a0 hw a3 ch (0 : Int32) (0 : Int32) h0 n0 Z0 F3c F3n) (W := 0) (by decide) (by decide) (by decide) (by decide) (g := (mkF m 245 #[.val (.int x0), .val (.int y0), .val (.int z0), .val (.int ((x0 &&& (2147483647 : Int32)) % (3 : Int32))), .val (.ref a3), .val (.int k5), .val (.int ch), .val (.int (0 : Int32)), .val (.int (1 : Int32)), .val (.int (0 : Int32)), .val (.int (0 : Int32)), .val (.int (0 : Int32))] [(.int ch), (.ref a3)])) rfl (by rw [hml]; rfl) (lenOf own_pd0 rfl) rfl (by show 2 * 0 + _ ≤ _; exact Nat.le_of_eq rfl) (hb hby at_245) ?_
            intro v53 T53 L53 X53 hQ53
            obtain ⟨rfl, Nq53, e53⟩ := hQ53
            have N53 := Fr.app N0 Nq53
            show own_Go p e below K T53 (mkF m 248 #[.val (.int x0), .val (.int y0), .val (.int z0), .val (.int ((x0 &&& (2147483647 : Int32)) % (3 : Int32))), .val (.ref a3), .val (.int k5), .val (.int ch), .val (.int (0 : Int32)), .val (.int (1 : Int32)), .val (.int (0 : Int32)), .val (.int (0 : Int32)), .val (.int (0 : Int32))] [(.int (own_ends (0 : Int32) (0 : Int32) ch))])
            refine own_go (fun _ kk' => XS.iload X53.here hx rfl (hb hby at_248) rfl  kk') ?_
            show own_Go p e below K T53 (mkF m 250 #[.val (.int x0), .val (.int y0), .val (.int z0), .val (.int ((x0 &&& (2147483647 : Int32)) % (3 : Int32))), .val (.ref a3), .val (.int k5), .val (.int ch), .val (.int (0 : Int32)), .val (.int (1 : Int32)), .val (.int (0 : Int32)), .val (.int (0 : Int32)), .val (.int (0 : Int32))] [(.int (0 : Int32)), (.int (own_ends (0 : Int32) (0 : Int32) ch))])
            refine own_go (fun _ kk' => XS.icmpNo X53.here hx rfl (hb hby at_250) rfl (teq ((by rw [hc138_52]; decide) : (own_ends (0 : Int32) (0 : Int32) ch) = (0 : Int32))).2 kk') ?_
            show own_Go p e below K T53 (mkF m 253 #[.val (.int x0), .val (.int y0), .val (.int z0), .val (.int ((x0 &&& (2147483647 : Int32)) % (3 : Int32))), .val (.ref a3), .val (.int k5), .val (.int ch), .val (.int (0 : Int32)), .val (.int (1 : Int32)), .val (.int (0 : Int32)), .val (.int (0 : Int32)), .val (.int (0 : Int32))] [])
            refine own_go (fun _ kk' => XS.iconst X53.here hx rfl (hb hby at_253) kk') ?_
            show own_Go p e below K T53 (mkF m 254 #[.val (.int x0), .val (.int y0), .val (.int z0), .val (.int ((x0 &&& (2147483647 : Int32)) % (3 : Int32))), .val (.ref a3), .val (.int k5), .val (.int ch), .val (.int (0 : Int32)), .val (.int (1 : Int32)), .val (.int (0 : Int32)), .val (.int (0 : Int32)), .val (.int (0 : Int32))] [(.int (1 : Int32))])
            refine own_go (fun _ kk' => XS.goto X53.here hx rfl (pc0 := 254) (pc' := 258) rfl (hb hby at_254) (by decide) (by decide) kk') ?_
            show own_Go p e below K T53 (mkF m 258 #[.val (.int x0), .val (.int y0), .val (.int z0), .val (.int ((x0 &&& (2147483647 : Int32)) % (3 : Int32))), .val (.ref a3), .val (.int k5), .val (.int ch), .val (.int (0 : Int32)), .val (.int (1 : Int32)), .val (.int (0 : Int32)), .val (.int (0 : Int32)), .val (.int (0 : Int32))] [(.int (1 : Int32))])
            exact own_retZ X53 hx hlk hK hret (by decide) (hb hby at_258) (by decide) (by decide) ⟨rfl, N53⟩
          · refine own_go (fun _ kk' => XS.icmpYes X49.here hx rfl (pc0 := 138) (pc' := 145) rfl (hb hby at_138) rfl (feq (hc138_52 : ¬ (ch = (13 : Int32)))).2 (by decide) (by decide) kk') ?_
            show own_Go p e below K T49 (mkF m 145 #[.val (.int x0), .val (.int y0), .val (.int z0), .val (.int ((x0 &&& (2147483647 : Int32)) % (3 : Int32))), .val (.ref a3), .val (.int k5), .val (.int ch), .val (.int (0 : Int32)), .unset, .unset, .unset, .unset] [])
            refine own_go (fun _ kk' => XS.iconst X49.here hx rfl (hb hby at_145) kk') ?_
            show own_Go p e below K T49 (mkF m 146 #[.val (.int x0), .val (.int y0), .val (.int z0), .val (.int ((x0 &&& (2147483647 : Int32)) % (3 : Int32))), .val (.ref a3), .val (.int k5), .val (.int ch), .val (.int (0 : Int32)), .unset, .unset, .unset, .unset] [(.int (0 : Int32))])
            refine own_go (fun _ kk' => XS.istore X49.here hx rfl (hb hby at_146) rfl (l' := #[.val (.int x0), .val (.int y0), .val (.int z0), .val (.int ((x0 &&& (2147483647 : Int32)) % (3 : Int32))), .val (.ref a3), .val (.int k5), .val (.int ch), .val (.int (0 : Int32)), .val (.int (0 : Int32)), .unset, .unset, .unset]) rfl kk') ?_
            show own_Go p e below K T49 (mkF m 148 #[.val (.int x0), .val (.int y0), .val (.int z0), .val (.int ((x0 &&& (2147483647 : Int32)) % (3 : Int32))), .val (.ref a3), .val (.int k5), .val (.int ch), .val (.int (0 : Int32)), .val (.int (0 : Int32)), .unset, .unset, .unset] [])
            refine own_go (fun _ kk' => XS.iload X49.here hx rfl (hb hby at_148) rfl  kk') ?_
            show own_Go p e below K T49 (mkF m 150 #[.val (.int x0), .val (.int y0), .val (.int z0), .val (.int ((x0 &&& (2147483647 : Int32)) % (3 : Int32))), .val (.ref a3), .val (.int k5), .val (.int ch), .val (.int (0 : Int32)), .val (.int (0 : Int32)), .unset, .unset, .unset] [(.int ch)])
            refine own_go (fun _ kk' => XS.sipush X49.here hx rfl (hb hby at_150) kk') ?_
            show own_Go p e below K T49 (mkF m 153 #[.val (.int x0), .val (.int y0), .val (.int z0), .val (.int ((x0 &&& (2147483647 : Int32)) % (3 : Int32))), .val (.ref a3), .val (.int k5), .val (.int ch), .val (.int (0 : Int32)), .val (.int (0 : Int32)), .unset, .unset, .unset] [(.int (133 : Int32)), (.int ch)])
            by_cases hc153_54 : ch = (133 : Int32)
            · refine own_go (fun _ kk' => XS.icmpNo X49.here hx rfl (hb hby at_153) rfl (teq (hc153_54 : ch = (133 : Int32))).2 kk') ?_
              show own_Go p e below K T49 (mkF m 156 #[.val (.int x0), .val (.int y0), .val (.int z0), .val (.int ((x0 &&& (2147483647 : Int32)) % (3 : Int32))), .val (.ref a3), .val (.int k5), .val (.int ch), .val (.int (0 : Int32)), .val (.int (0 : Int32)), .unset, .unset, .unset] [])
              refine own_go (fun _ kk' => XS.iconst X49.here hx rfl (hb hby at_156) kk') ?_
              show own_Go p e below K T49 (mkF m 157 #[.val (.int x0), .val (.int y0), .val (.int z0), .val (.int ((x0 &&& (2147483647 : Int32)) % (3 : Int32))), .val (.ref a3), .val (.int k5), .val (.int ch), .val (.int (0 : Int32)), .val (.int (0 : Int32)), .unset, .unset, .unset] [(.int (1 : Int32))])
              refine own_go (fun _ kk' => XS.goto X49.here hx rfl (pc0 := 157) (pc' := 161) rfl (hb hby at_157) (by decide) (by decide) kk') ?_
              show own_Go p e below K T49 (mkF m 161 #[.val (.int x0), .val (.int y0), .val (.int z0), .val (.int ((x0 &&& (2147483647 : Int32)) % (3 : Int32))), .val (.ref a3), .val (.int k5), .val (.int ch), .val (.int (0 : Int32)), .val (.int (0 : Int32)), .unset, .unset, .unset] [(.int (1 : Int32))])
              refine own_go (fun _ kk' => XS.istore X49.here hx rfl (hb hby at_161) rfl (l' := #[.val (.int x0), .val (.int y0), .val (.int z0), .val (.int ((x0 &&& (2147483647 : Int32)) % (3 : Int32))), .val (.ref a3), .val (.int k5), .val (.int ch), .val (.int (0 : Int32)), .val (.int (0 : Int32)), .val (.int (1 : Int32)), .unset, .unset]) rfl kk') ?_
              show own_Go p e below K T49 (mkF m 163 #[.val (.int x0), .val (.int y0), .val (.int z0), .val (.int ((x0 &&& (2147483647 : Int32)) % (3 : Int32))), .val (.ref a3), .val (.int k5), .val (.int ch), .val (.int (0 : Int32)), .val (.int (0 : Int32)), .val (.int (1 : Int32)), .unset, .unset] [])
              refine own_go (fun _ kk' => XS.iload X49.here hx rfl (hb hby at_163) rfl  kk') ?_
              show own_Go p e below K T49 (mkF m 165 #[.val (.int x0), .val (.int y0), .val (.int z0), .val (.int ((x0 &&& (2147483647 : Int32)) % (3 : Int32))), .val (.ref a3), .val (.int k5), .val (.int ch), .val (.int (0 : Int32)), .val (.int (0 : Int32)), .val (.int (1 : Int32)), .unset, .unset] [(.int ch)])
              refine own_go (fun _ kk' => XS.sipush X49.here hx rfl (hb hby at_165) kk') ?_
              show own_Go p e below K T49 (mkF m 168 #[.val (.int x0), .val (.int y0), .val (.int z0), .val (.int ((x0 &&& (2147483647 : Int32)) % (3 : Int32))), .val (.ref a3), .val (.int k5), .val (.int ch), .val (.int (0 : Int32)), .val (.int (0 : Int32)), .val (.int (1 : Int32)), .unset, .unset] [(.int (8232 : Int32)), (.int ch)])
              refine own_go (fun _ kk' => XS.icmpYes X49.here hx rfl (pc0 := 168) (pc' := 175) rfl (hb hby at_168) rfl (feq ((fun q => absurd (hc153_54.symm.trans q) (by decide)) : ¬ (ch = (8232 : Int32)))).2 (by decide) (by decide) kk') ?_
              show own_Go p e below K T49 (mkF m 175 #[.val (.int x0), .val (.int y0), .val (.int z0), .val (.int ((x0 &&& (2147483647 : Int32)) % (3 : Int32))), .val (.ref a3), .val (.int k5), .val (.int ch), .val (.int (0 : Int32)), .val (.int (0 : Int32)), .val (.int (1 : Int32)), .unset, .unset] [])
              refine own_go (fun _ kk' => XS.iconst X49.here hx rfl (hb hby at_175) kk') ?_
              show own_Go p e below K T49 (mkF m 176 #[.val (.int x0), .val (.int y0), .val (.int z0), .val (.int ((x0 &&& (2147483647 : Int32)) % (3 : Int32))), .val (.ref a3), .val (.int k5), .val (.int ch), .val (.int (0 : Int32)), .val (.int (0 : Int32)), .val (.int (1 : Int32)), .unset, .unset] [(.int (0 : Int32))])
              refine own_go (fun _ kk' => XS.istore X49.here hx rfl (hb hby at_176) rfl (l' := #[.val (.int x0), .val (.int y0), .val (.int z0), .val (.int ((x0 &&& (2147483647 : Int32)) % (3 : Int32))), .val (.ref a3), .val (.int k5), .val (.int ch), .val (.int (0 : Int32)), .val (.int (0 : Int32)), .val (.int (1 : Int32)), .val (.int (0 : Int32)), .unset]) rfl kk') ?_
              show own_Go p e below K T49 (mkF m 178 #[.val (.int x0), .val (.int y0), .val (.int z0), .val (.int ((x0 &&& (2147483647 : Int32)) % (3 : Int32))), .val (.ref a3), .val (.int k5), .val (.int ch), .val (.int (0 : Int32)), .val (.int (0 : Int32)), .val (.int (1 : Int32)), .val (.int (0 : Int32)), .unset] [])
              refine own_go (fun _ kk' => XS.iloadN X49.here hx rfl (hb hby at_178) rfl  kk') ?_
              show own_Go p e below K T49 (mkF m 179 #[.val (.int x0), .val (.int y0), .val (.int z0), .val (.int ((x0 &&& (2147483647 : Int32)) % (3 : Int32))), .val (.ref a3), .val (.int k5), .val (.int ch), .val (.int (0 : Int32)), .val (.int (0 : Int32)), .val (.int (1 : Int32)), .val (.int (0 : Int32)), .unset] [(.int ((x0 &&& (2147483647 : Int32)) % (3 : Int32)))])
              refine own_go (fun _ kk' => XS.ifYes X49.here hx rfl (pc0 := 179) (pc' := 202) rfl (hb hby at_179) rfl ((if0 _ _).trans (feq (hc8_17 : ¬ (((x0 &&& (2147483647 : Int32)) % (3 : Int32)) = (0 : Int32)))).2) (by decide) (by decide) kk') ?_
              show own_Go p e below K T49 (mkF m 202 #[.val (.int x0), .val (.int y0), .val (.int z0), .val (.int ((x0 &&& (2147483647 : Int32)) % (3 : Int32))), .val (.ref a3), .val (.int k5), .val (.int ch), .val (.int (0 : Int32)), .val (.int (0 : Int32)), .val (.int (1 : Int32)), .val (.int (0 : Int32)), .unset] [])
              refine own_go (fun _ kk' => XS.iloadN X49.here hx rfl (hb hby at_202) rfl  kk') ?_
              show own_Go p e below K T49 (mkF m 203 #[.val (.int x0), .val (.int y0), .val (.int z0), .val (.int ((x0 &&& (2147483647 : Int32)) % (3 : Int32))), .val (.ref a3), .val (.int k5), .val (.int ch), .val (.int (0 : Int32)), .val (.int (0 : Int32)), .val (.int (1 : Int32)), .val (.int (0 : Int32)), .unset] [(.int ((x0 &&& (2147483647 : Int32)) % (3 : Int32)))])
              refine own_go (fun _ kk' => XS.iconst X49.here hx rfl (hb hby at_203) kk') ?_
              show own_Go p e below K T49 (mkF m 204 #[.val (.int x0), .val (.int y0), .val (.int z0), .val (.int ((x0 &&& (2147483647 : Int32)) % (3 : Int32))), .val (.ref a3), .val (.int k5), .val (.int ch), .val (.int (0 : Int32)), .val (.int (0 : Int32)), .val (.int (1 : Int32)), .val (.int (0 : Int32)), .unset] [(.int (1 : Int32)), (.int ((x0 &&& (2147483647 : Int32)) % (3 : Int32)))])
              refine own_go (fun _ kk' => XS.icmpYes X49.here hx rfl (pc0 := 204) (pc' := 237) rfl (hb hby at_204) rfl (feq (hc21_33 : ¬ (((x0 &&& (2147483647 : Int32)) % (3 : Int32)) = (1 : Int32)))).2 (by decide) (by decide) kk') ?_
              show own_Go p e below K T49 (mkF m 237 #[.val (.int x0), .val (.int y0), .val (.int z0), .val (.int ((x0 &&& (2147483647 : Int32)) % (3 : Int32))), .val (.ref a3), .val (.int k5), .val (.int ch), .val (.int (0 : Int32)), .val (.int (0 : Int32)), .val (.int (1 : Int32)), .val (.int (0 : Int32)), .unset] [])
              refine own_go (fun _ kk' => XS.iload X49.here hx rfl (hb hby at_237) rfl  kk') ?_
              show own_Go p e below K T49 (mkF m 239 #[.val (.int x0), .val (.int y0), .val (.int z0), .val (.int ((x0 &&& (2147483647 : Int32)) % (3 : Int32))), .val (.ref a3), .val (.int k5), .val (.int ch), .val (.int (0 : Int32)), .val (.int (0 : Int32)), .val (.int (1 : Int32)), .val (.int (0 : Int32)), .unset] [(.int (0 : Int32))])
              refine own_go (fun _ kk' => XS.istore X49.here hx rfl (hb hby at_239) rfl (l' := #[.val (.int x0), .val (.int y0), .val (.int z0), .val (.int ((x0 &&& (2147483647 : Int32)) % (3 : Int32))), .val (.ref a3), .val (.int k5), .val (.int ch), .val (.int (0 : Int32)), .val (.int (0 : Int32)), .val (.int (1 : Int32)), .val (.int (0 : Int32)), .val (.int (0 : Int32))]) rfl kk') ?_
              show own_Go p e below K T49 (mkF m 241 #[.val (.int x0), .val (.int y0), .val (.int z0), .val (.int ((x0 &&& (2147483647 : Int32)) % (3 : Int32))), .val (.ref a3), .val (.int k5), .val (.int ch), .val (.int (0 : Int32)), .val (.int (0 : Int32)), .val (.int (1 : Int32)), .val (.int (0 : Int32)), .val (.int (0 : Int32))] [])
              refine own_go (fun _ kk' => XS.aload X49.here hx rfl (hb hby at_241) rfl rfl  kk') ?_
              show own_Go p e below K T49 (mkF m 243 #[.val (.int x0), .val (.int y0), .val (.int z0), .val (.int ((x0 &&& (2147483647 : Int32)) % (3 : Int32))), .val (.ref a3), .val (.int k5), .val (.int ch), .val (.int (0 : Int32)), .val (.int (0 : Int32)), .val (.int (1 : Int32)), .val (.int (0 : Int32)), .val (.int (0 : Int32))] [(.ref a3)])
              refine own_go (fun _ kk' => XS.iload X49.here hx rfl (hb hby at_243) rfl  kk') ?_
              show own_Go p e below K T49 (mkF m 245 #[.val (.int x0), .val (.int y0), .val (.int z0), .val (.int ((x0 &&& (2147483647 : Int32)) % (3 : Int32))), .val (.ref a3), .val (.int k5), .val (.int ch), .val (.int (0 : Int32)), .val (.int (0 : Int32)), .val (.int (1 : Int32)), .val (.int (0 : Int32)), .val (.int (0 : Int32))] [(.int ch), (.ref a3)])
              refine own_callV X49 hx hZ (C := "com/example/copista/copista/io/ReferenceScanner$LineEnds") (y := (⟨"com/example/copista/copista/io/ReferenceScanner$LineEnds", "endsLine", "(C)Z"⟩ : MethodName)) (z := (⟨"com/example/copista/copista/io/ReferenceScanner$LineEnds", "endsLine", "(C)Z"⟩ : MethodName)) hown (hw _ (List.mem_of_getElem? (i := 4) rfl)) (hw _ (List.mem_of_getElem? (i := 5) rfl)) (notFace_of_selects (args := #[]) (mvT hZ (hw _ (List.mem_of_getElem? (i := 7) rfl)))) (hw _ (List.mem_of_getElem? (i := 7) rfl)) (hw _ (List.mem_of_getElem? (i := 6) rfl)) (hw _ (List.mem_of_getElem? (i := 2) rfl)) (hw _ (List.mem_of_getElem? (i := 8) rfl)) (by decide) e49 (rm := own_rme) (a := a3) E3 (argsL := [(.int ch)]) (rest := []) (own_me l Z a0 hw a3 ch (0 : Int32) (0 : Int32) h0 n0 Z0 F3c F3n) (W := 0) (by decide) (by decide) (by decide) (by decide) (g := (mkF m 245 #[.val (.int x0), .val (.int y0), .val (.int z0), .val (.int ((x0 &&& (2147483647 : Int32)) % (3 : Int32))), .val (.ref a3), .val (.int k5), .val (.int ch), .val (.int (0 : Int32)), .val (.int (0 : Int32)), .val (.int (1 : Int32)), .val (.int (0 : Int32)), .val (.int (0 : Int32))] [(.int ch), (.ref a3)])) rfl (by rw [hml]; rfl) (lenOf own_pd0 rfl) rfl (by show 2 * 0 + _ ≤ _; exact Nat.le_of_eq rfl) (hb hby at_245) ?_
              intro v55 T55 L55 X55 hQ55
              obtain ⟨rfl, Nq55, e55⟩ := hQ55
              have N55 := Fr.app N0 Nq55
              show own_Go p e below K T55 (mkF m 248 #[.val (.int x0), .val (.int y0), .val (.int z0), .val (.int ((x0 &&& (2147483647 : Int32)) % (3 : Int32))), .val (.ref a3), .val (.int k5), .val (.int ch), .val (.int (0 : Int32)), .val (.int (0 : Int32)), .val (.int (1 : Int32)), .val (.int (0 : Int32)), .val (.int (0 : Int32))] [(.int (own_ends (0 : Int32) (0 : Int32) ch))])
              refine own_go (fun _ kk' => XS.iload X55.here hx rfl (hb hby at_248) rfl  kk') ?_
              show own_Go p e below K T55 (mkF m 250 #[.val (.int x0), .val (.int y0), .val (.int z0), .val (.int ((x0 &&& (2147483647 : Int32)) % (3 : Int32))), .val (.ref a3), .val (.int k5), .val (.int ch), .val (.int (0 : Int32)), .val (.int (0 : Int32)), .val (.int (1 : Int32)), .val (.int (0 : Int32)), .val (.int (0 : Int32))] [(.int (0 : Int32)), (.int (own_ends (0 : Int32) (0 : Int32) ch))])
              refine own_go (fun _ kk' => XS.icmpNo X55.here hx rfl (hb hby at_250) rfl (teq ((by rw [hc153_54]; decide) : (own_ends (0 : Int32) (0 : Int32) ch) = (0 : Int32))).2 kk') ?_
              show own_Go p e below K T55 (mkF m 253 #[.val (.int x0), .val (.int y0), .val (.int z0), .val (.int ((x0 &&& (2147483647 : Int32)) % (3 : Int32))), .val (.ref a3), .val (.int k5), .val (.int ch), .val (.int (0 : Int32)), .val (.int (0 : Int32)), .val (.int (1 : Int32)), .val (.int (0 : Int32)), .val (.int (0 : Int32))] [])
              refine own_go (fun _ kk' => XS.iconst X55.here hx rfl (hb hby at_253) kk') ?_
              show own_Go p e below K T55 (mkF m 254 #[.val (.int x0), .val (.int y0), .val (.int z0), .val (.int ((x0 &&& (2147483647 : Int32)) % (3 : Int32))), .val (.ref a3), .val (.int k5), .val (.int ch), .val (.int (0 : Int32)), .val (.int (0 : Int32)), .val (.int (1 : Int32)), .val (.int (0 : Int32)), .val (.int (0 : Int32))] [(.int (1 : Int32))])
              refine own_go (fun _ kk' => XS.goto X55.here hx rfl (pc0 := 254) (pc' := 258) rfl (hb hby at_254) (by decide) (by decide) kk') ?_
              show own_Go p e below K T55 (mkF m 258 #[.val (.int x0), .val (.int y0), .val (.int z0), .val (.int ((x0 &&& (2147483647 : Int32)) % (3 : Int32))), .val (.ref a3), .val (.int k5), .val (.int ch), .val (.int (0 : Int32)), .val (.int (0 : Int32)), .val (.int (1 : Int32)), .val (.int (0 : Int32)), .val (.int (0 : Int32))] [(.int (1 : Int32))])
              exact own_retZ X55 hx hlk hK hret (by decide) (hb hby at_258) (by decide) (by decide) ⟨rfl, N55⟩
            · refine own_go (fun _ kk' => XS.icmpYes X49.here hx rfl (pc0 := 153) (pc' := 160) rfl (hb hby at_153) rfl (feq (hc153_54 : ¬ (ch = (133 : Int32)))).2 (by decide) (by decide) kk') ?_
              show own_Go p e below K T49 (mkF m 160 #[.val (.int x0), .val (.int y0), .val (.int z0), .val (.int ((x0 &&& (2147483647 : Int32)) % (3 : Int32))), .val (.ref a3), .val (.int k5), .val (.int ch), .val (.int (0 : Int32)), .val (.int (0 : Int32)), .unset, .unset, .unset] [])
              refine own_go (fun _ kk' => XS.iconst X49.here hx rfl (hb hby at_160) kk') ?_
              show own_Go p e below K T49 (mkF m 161 #[.val (.int x0), .val (.int y0), .val (.int z0), .val (.int ((x0 &&& (2147483647 : Int32)) % (3 : Int32))), .val (.ref a3), .val (.int k5), .val (.int ch), .val (.int (0 : Int32)), .val (.int (0 : Int32)), .unset, .unset, .unset] [(.int (0 : Int32))])
              refine own_go (fun _ kk' => XS.istore X49.here hx rfl (hb hby at_161) rfl (l' := #[.val (.int x0), .val (.int y0), .val (.int z0), .val (.int ((x0 &&& (2147483647 : Int32)) % (3 : Int32))), .val (.ref a3), .val (.int k5), .val (.int ch), .val (.int (0 : Int32)), .val (.int (0 : Int32)), .val (.int (0 : Int32)), .unset, .unset]) rfl kk') ?_
              show own_Go p e below K T49 (mkF m 163 #[.val (.int x0), .val (.int y0), .val (.int z0), .val (.int ((x0 &&& (2147483647 : Int32)) % (3 : Int32))), .val (.ref a3), .val (.int k5), .val (.int ch), .val (.int (0 : Int32)), .val (.int (0 : Int32)), .val (.int (0 : Int32)), .unset, .unset] [])
              refine own_go (fun _ kk' => XS.iload X49.here hx rfl (hb hby at_163) rfl  kk') ?_
              show own_Go p e below K T49 (mkF m 165 #[.val (.int x0), .val (.int y0), .val (.int z0), .val (.int ((x0 &&& (2147483647 : Int32)) % (3 : Int32))), .val (.ref a3), .val (.int k5), .val (.int ch), .val (.int (0 : Int32)), .val (.int (0 : Int32)), .val (.int (0 : Int32)), .unset, .unset] [(.int ch)])
              refine own_go (fun _ kk' => XS.sipush X49.here hx rfl (hb hby at_165) kk') ?_
              show own_Go p e below K T49 (mkF m 168 #[.val (.int x0), .val (.int y0), .val (.int z0), .val (.int ((x0 &&& (2147483647 : Int32)) % (3 : Int32))), .val (.ref a3), .val (.int k5), .val (.int ch), .val (.int (0 : Int32)), .val (.int (0 : Int32)), .val (.int (0 : Int32)), .unset, .unset] [(.int (8232 : Int32)), (.int ch)])
              by_cases hc168_56 : ch = (8232 : Int32)
              · refine own_go (fun _ kk' => XS.icmpNo X49.here hx rfl (hb hby at_168) rfl (teq (hc168_56 : ch = (8232 : Int32))).2 kk') ?_
                show own_Go p e below K T49 (mkF m 171 #[.val (.int x0), .val (.int y0), .val (.int z0), .val (.int ((x0 &&& (2147483647 : Int32)) % (3 : Int32))), .val (.ref a3), .val (.int k5), .val (.int ch), .val (.int (0 : Int32)), .val (.int (0 : Int32)), .val (.int (0 : Int32)), .unset, .unset] [])
                refine own_go (fun _ kk' => XS.iconst X49.here hx rfl (hb hby at_171) kk') ?_
                show own_Go p e below K T49 (mkF m 172 #[.val (.int x0), .val (.int y0), .val (.int z0), .val (.int ((x0 &&& (2147483647 : Int32)) % (3 : Int32))), .val (.ref a3), .val (.int k5), .val (.int ch), .val (.int (0 : Int32)), .val (.int (0 : Int32)), .val (.int (0 : Int32)), .unset, .unset] [(.int (1 : Int32))])
                refine own_go (fun _ kk' => XS.goto X49.here hx rfl (pc0 := 172) (pc' := 176) rfl (hb hby at_172) (by decide) (by decide) kk') ?_
                show own_Go p e below K T49 (mkF m 176 #[.val (.int x0), .val (.int y0), .val (.int z0), .val (.int ((x0 &&& (2147483647 : Int32)) % (3 : Int32))), .val (.ref a3), .val (.int k5), .val (.int ch), .val (.int (0 : Int32)), .val (.int (0 : Int32)), .val (.int (0 : Int32)), .unset, .unset] [(.int (1 : Int32))])
                refine own_go (fun _ kk' => XS.istore X49.here hx rfl (hb hby at_176) rfl (l' := #[.val (.int x0), .val (.int y0), .val (.int z0), .val (.int ((x0 &&& (2147483647 : Int32)) % (3 : Int32))), .val (.ref a3), .val (.int k5), .val (.int ch), .val (.int (0 : Int32)), .val (.int (0 : Int32)), .val (.int (0 : Int32)), .val (.int (1 : Int32)), .unset]) rfl kk') ?_
                show own_Go p e below K T49 (mkF m 178 #[.val (.int x0), .val (.int y0), .val (.int z0), .val (.int ((x0 &&& (2147483647 : Int32)) % (3 : Int32))), .val (.ref a3), .val (.int k5), .val (.int ch), .val (.int (0 : Int32)), .val (.int (0 : Int32)), .val (.int (0 : Int32)), .val (.int (1 : Int32)), .unset] [])
                refine own_go (fun _ kk' => XS.iloadN X49.here hx rfl (hb hby at_178) rfl  kk') ?_
                show own_Go p e below K T49 (mkF m 179 #[.val (.int x0), .val (.int y0), .val (.int z0), .val (.int ((x0 &&& (2147483647 : Int32)) % (3 : Int32))), .val (.ref a3), .val (.int k5), .val (.int ch), .val (.int (0 : Int32)), .val (.int (0 : Int32)), .val (.int (0 : Int32)), .val (.int (1 : Int32)), .unset] [(.int ((x0 &&& (2147483647 : Int32)) % (3 : Int32)))])
                refine own_go (fun _ kk' => XS.ifYes X49.here hx rfl (pc0 := 179) (pc' := 202) rfl (hb hby at_179) rfl ((if0 _ _).trans (feq (hc8_17 : ¬ (((x0 &&& (2147483647 : Int32)) % (3 : Int32)) = (0 : Int32)))).2) (by decide) (by decide) kk') ?_
                show own_Go p e below K T49 (mkF m 202 #[.val (.int x0), .val (.int y0), .val (.int z0), .val (.int ((x0 &&& (2147483647 : Int32)) % (3 : Int32))), .val (.ref a3), .val (.int k5), .val (.int ch), .val (.int (0 : Int32)), .val (.int (0 : Int32)), .val (.int (0 : Int32)), .val (.int (1 : Int32)), .unset] [])
                refine own_go (fun _ kk' => XS.iloadN X49.here hx rfl (hb hby at_202) rfl  kk') ?_
                show own_Go p e below K T49 (mkF m 203 #[.val (.int x0), .val (.int y0), .val (.int z0), .val (.int ((x0 &&& (2147483647 : Int32)) % (3 : Int32))), .val (.ref a3), .val (.int k5), .val (.int ch), .val (.int (0 : Int32)), .val (.int (0 : Int32)), .val (.int (0 : Int32)), .val (.int (1 : Int32)), .unset] [(.int ((x0 &&& (2147483647 : Int32)) % (3 : Int32)))])
                refine own_go (fun _ kk' => XS.iconst X49.here hx rfl (hb hby at_203) kk') ?_
                show own_Go p e below K T49 (mkF m 204 #[.val (.int x0), .val (.int y0), .val (.int z0), .val (.int ((x0 &&& (2147483647 : Int32)) % (3 : Int32))), .val (.ref a3), .val (.int k5), .val (.int ch), .val (.int (0 : Int32)), .val (.int (0 : Int32)), .val (.int (0 : Int32)), .val (.int (1 : Int32)), .unset] [(.int (1 : Int32)), (.int ((x0 &&& (2147483647 : Int32)) % (3 : Int32)))])
                refine own_go (fun _ kk' => XS.icmpYes X49.here hx rfl (pc0 := 204) (pc' := 237) rfl (hb hby at_204) rfl (feq (hc21_33 : ¬ (((x0 &&& (2147483647 : Int32)) % (3 : Int32)) = (1 : Int32)))).2 (by decide) (by decide) kk') ?_
                show own_Go p e below K T49 (mkF m 237 #[.val (.int x0), .val (.int y0), .val (.int z0), .val (.int ((x0 &&& (2147483647 : Int32)) % (3 : Int32))), .val (.ref a3), .val (.int k5), .val (.int ch), .val (.int (0 : Int32)), .val (.int (0 : Int32)), .val (.int (0 : Int32)), .val (.int (1 : Int32)), .unset] [])
                refine own_go (fun _ kk' => XS.iload X49.here hx rfl (hb hby at_237) rfl  kk') ?_
                show own_Go p e below K T49 (mkF m 239 #[.val (.int x0), .val (.int y0), .val (.int z0), .val (.int ((x0 &&& (2147483647 : Int32)) % (3 : Int32))), .val (.ref a3), .val (.int k5), .val (.int ch), .val (.int (0 : Int32)), .val (.int (0 : Int32)), .val (.int (0 : Int32)), .val (.int (1 : Int32)), .unset] [(.int (0 : Int32))])
                refine own_go (fun _ kk' => XS.istore X49.here hx rfl (hb hby at_239) rfl (l' := #[.val (.int x0), .val (.int y0), .val (.int z0), .val (.int ((x0 &&& (2147483647 : Int32)) % (3 : Int32))), .val (.ref a3), .val (.int k5), .val (.int ch), .val (.int (0 : Int32)), .val (.int (0 : Int32)), .val (.int (0 : Int32)), .val (.int (1 : Int32)), .val (.int (0 : Int32))]) rfl kk') ?_
                show own_Go p e below K T49 (mkF m 241 #[.val (.int x0), .val (.int y0), .val (.int z0), .val (.int ((x0 &&& (2147483647 : Int32)) % (3 : Int32))), .val (.ref a3), .val (.int k5), .val (.int ch), .val (.int (0 : Int32)), .val (.int (0 : Int32)), .val (.int (0 : Int32)), .val (.int (1 : Int32)), .val (.int (0 : Int32))] [])
                refine own_go (fun _ kk' => XS.aload X49.here hx rfl (hb hby at_241) rfl rfl  kk') ?_
                show own_Go p e below K T49 (mkF m 243 #[.val (.int x0), .val (.int y0), .val (.int z0), .val (.int ((x0 &&& (2147483647 : Int32)) % (3 : Int32))), .val (.ref a3), .val (.int k5), .val (.int ch), .val (.int (0 : Int32)), .val (.int (0 : Int32)), .val (.int (0 : Int32)), .val (.int (1 : Int32)), .val (.int (0 : Int32))] [(.ref a3)])
                refine own_go (fun _ kk' => XS.iload X49.here hx rfl (hb hby at_243) rfl  kk') ?_
                show own_Go p e below K T49 (mkF m 245 #[.val (.int x0), .val (.int y0), .val (.int z0), .val (.int ((x0 &&& (2147483647 : Int32)) % (3 : Int32))), .val (.ref a3), .val (.int k5), .val (.int ch), .val (.int (0 : Int32)), .val (.int (0 : Int32)), .val (.int (0 : Int32)), .val (.int (1 : Int32)), .val (.int (0 : Int32))] [(.int ch), (.ref a3)])
                refine own_callV X49 hx hZ (C := "com/example/copista/copista/io/ReferenceScanner$LineEnds") (y := (⟨"com/example/copista/copista/io/ReferenceScanner$LineEnds", "endsLine", "(C)Z"⟩ : MethodName)) (z := (⟨"com/example/copista/copista/io/ReferenceScanner$LineEnds", "endsLine", "(C)Z"⟩ : MethodName)) hown (hw _ (List.mem_of_getElem? (i := 4) rfl)) (hw _ (List.mem_of_getElem? (i := 5) rfl)) (notFace_of_selects (args := #[]) (mvT hZ (hw _ (List.mem_of_getElem? (i := 7) rfl)))) (hw _ (List.mem_of_getElem? (i := 7) rfl)) (hw _ (List.mem_of_getElem? (i := 6) rfl)) (hw _ (List.mem_of_getElem? (i := 2) rfl)) (hw _ (List.mem_of_getElem? (i := 8) rfl)) (by decide) e49 (rm := own_rme) (a := a3) E3 (argsL := [(.int ch)]) (rest := []) (own_me l Z a0 hw a3 ch (0 : Int32) (0 : Int32) h0 n0 Z0 F3c F3n) (W := 0) (by decide) (by decide) (by decide) (by decide) (g := (mkF m 245 #[.val (.int x0), .val (.int y0), .val (.int z0), .val (.int ((x0 &&& (2147483647 : Int32)) % (3 : Int32))), .val (.ref a3), .val (.int k5), .val (.int ch), .val (.int (0 : Int32)), .val (.int (0 : Int32)), .val (.int (0 : Int32)), .val (.int (1 : Int32)), .val (.int (0 : Int32))] [(.int ch), (.ref a3)])) rfl (by rw [hml]; rfl) (lenOf own_pd0 rfl) rfl (by show 2 * 0 + _ ≤ _; exact Nat.le_of_eq rfl) (hb hby at_245) ?_
                intro v57 T57 L57 X57 hQ57
                obtain ⟨rfl, Nq57, e57⟩ := hQ57
                have N57 := Fr.app N0 Nq57
                show own_Go p e below K T57 (mkF m 248 #[.val (.int x0), .val (.int y0), .val (.int z0), .val (.int ((x0 &&& (2147483647 : Int32)) % (3 : Int32))), .val (.ref a3), .val (.int k5), .val (.int ch), .val (.int (0 : Int32)), .val (.int (0 : Int32)), .val (.int (0 : Int32)), .val (.int (1 : Int32)), .val (.int (0 : Int32))] [(.int (own_ends (0 : Int32) (0 : Int32) ch))])
                refine own_go (fun _ kk' => XS.iload X57.here hx rfl (hb hby at_248) rfl  kk') ?_
                show own_Go p e below K T57 (mkF m 250 #[.val (.int x0), .val (.int y0), .val (.int z0), .val (.int ((x0 &&& (2147483647 : Int32)) % (3 : Int32))), .val (.ref a3), .val (.int k5), .val (.int ch), .val (.int (0 : Int32)), .val (.int (0 : Int32)), .val (.int (0 : Int32)), .val (.int (1 : Int32)), .val (.int (0 : Int32))] [(.int (0 : Int32)), (.int (own_ends (0 : Int32) (0 : Int32) ch))])
                refine own_go (fun _ kk' => XS.icmpNo X57.here hx rfl (hb hby at_250) rfl (teq ((by rw [hc168_56]; decide) : (own_ends (0 : Int32) (0 : Int32) ch) = (0 : Int32))).2 kk') ?_
                show own_Go p e below K T57 (mkF m 253 #[.val (.int x0), .val (.int y0), .val (.int z0), .val (.int ((x0 &&& (2147483647 : Int32)) % (3 : Int32))), .val (.ref a3), .val (.int k5), .val (.int ch), .val (.int (0 : Int32)), .val (.int (0 : Int32)), .val (.int (0 : Int32)), .val (.int (1 : Int32)), .val (.int (0 : Int32))] [])
                refine own_go (fun _ kk' => XS.iconst X57.here hx rfl (hb hby at_253) kk') ?_
                show own_Go p e below K T57 (mkF m 254 #[.val (.int x0), .val (.int y0), .val (.int z0), .val (.int ((x0 &&& (2147483647 : Int32)) % (3 : Int32))), .val (.ref a3), .val (.int k5), .val (.int ch), .val (.int (0 : Int32)), .val (.int (0 : Int32)), .val (.int (0 : Int32)), .val (.int (1 : Int32)), .val (.int (0 : Int32))] [(.int (1 : Int32))])
                refine own_go (fun _ kk' => XS.goto X57.here hx rfl (pc0 := 254) (pc' := 258) rfl (hb hby at_254) (by decide) (by decide) kk') ?_
                show own_Go p e below K T57 (mkF m 258 #[.val (.int x0), .val (.int y0), .val (.int z0), .val (.int ((x0 &&& (2147483647 : Int32)) % (3 : Int32))), .val (.ref a3), .val (.int k5), .val (.int ch), .val (.int (0 : Int32)), .val (.int (0 : Int32)), .val (.int (0 : Int32)), .val (.int (1 : Int32)), .val (.int (0 : Int32))] [(.int (1 : Int32))])
                exact own_retZ X57 hx hlk hK hret (by decide) (hb hby at_258) (by decide) (by decide) ⟨rfl, N57⟩
              · refine own_go (fun _ kk' => XS.icmpYes X49.here hx rfl (pc0 := 168) (pc' := 175) rfl (hb hby at_168) rfl (feq (hc168_56 : ¬ (ch = (8232 : Int32)))).2 (by decide) (by decide) kk') ?_
                show own_Go p e below K T49 (mkF m 175 #[.val (.int x0), .val (.int y0), .val (.int z0), .val (.int ((x0 &&& (2147483647 : Int32)) % (3 : Int32))), .val (.ref a3), .val (.int k5), .val (.int ch), .val (.int (0 : Int32)), .val (.int (0 : Int32)), .val (.int (0 : Int32)), .unset, .unset] [])
                refine own_go (fun _ kk' => XS.iconst X49.here hx rfl (hb hby at_175) kk') ?_
                show own_Go p e below K T49 (mkF m 176 #[.val (.int x0), .val (.int y0), .val (.int z0), .val (.int ((x0 &&& (2147483647 : Int32)) % (3 : Int32))), .val (.ref a3), .val (.int k5), .val (.int ch), .val (.int (0 : Int32)), .val (.int (0 : Int32)), .val (.int (0 : Int32)), .unset, .unset] [(.int (0 : Int32))])
                refine own_go (fun _ kk' => XS.istore X49.here hx rfl (hb hby at_176) rfl (l' := #[.val (.int x0), .val (.int y0), .val (.int z0), .val (.int ((x0 &&& (2147483647 : Int32)) % (3 : Int32))), .val (.ref a3), .val (.int k5), .val (.int ch), .val (.int (0 : Int32)), .val (.int (0 : Int32)), .val (.int (0 : Int32)), .val (.int (0 : Int32)), .unset]) rfl kk') ?_
                show own_Go p e below K T49 (mkF m 178 #[.val (.int x0), .val (.int y0), .val (.int z0), .val (.int ((x0 &&& (2147483647 : Int32)) % (3 : Int32))), .val (.ref a3), .val (.int k5), .val (.int ch), .val (.int (0 : Int32)), .val (.int (0 : Int32)), .val (.int (0 : Int32)), .val (.int (0 : Int32)), .unset] [])
                refine own_go (fun _ kk' => XS.iloadN X49.here hx rfl (hb hby at_178) rfl  kk') ?_
                show own_Go p e below K T49 (mkF m 179 #[.val (.int x0), .val (.int y0), .val (.int z0), .val (.int ((x0 &&& (2147483647 : Int32)) % (3 : Int32))), .val (.ref a3), .val (.int k5), .val (.int ch), .val (.int (0 : Int32)), .val (.int (0 : Int32)), .val (.int (0 : Int32)), .val (.int (0 : Int32)), .unset] [(.int ((x0 &&& (2147483647 : Int32)) % (3 : Int32)))])
                refine own_go (fun _ kk' => XS.ifYes X49.here hx rfl (pc0 := 179) (pc' := 202) rfl (hb hby at_179) rfl ((if0 _ _).trans (feq (hc8_17 : ¬ (((x0 &&& (2147483647 : Int32)) % (3 : Int32)) = (0 : Int32)))).2) (by decide) (by decide) kk') ?_
                show own_Go p e below K T49 (mkF m 202 #[.val (.int x0), .val (.int y0), .val (.int z0), .val (.int ((x0 &&& (2147483647 : Int32)) % (3 : Int32))), .val (.ref a3), .val (.int k5), .val (.int ch), .val (.int (0 : Int32)), .val (.int (0 : Int32)), .val (.int (0 : Int32)), .val (.int (0 : Int32)), .unset] [])
                refine own_go (fun _ kk' => XS.iloadN X49.here hx rfl (hb hby at_202) rfl  kk') ?_
                show own_Go p e below K T49 (mkF m 203 #[.val (.int x0), .val (.int y0), .val (.int z0), .val (.int ((x0 &&& (2147483647 : Int32)) % (3 : Int32))), .val (.ref a3), .val (.int k5), .val (.int ch), .val (.int (0 : Int32)), .val (.int (0 : Int32)), .val (.int (0 : Int32)), .val (.int (0 : Int32)), .unset] [(.int ((x0 &&& (2147483647 : Int32)) % (3 : Int32)))])
                refine own_go (fun _ kk' => XS.iconst X49.here hx rfl (hb hby at_203) kk') ?_
                show own_Go p e below K T49 (mkF m 204 #[.val (.int x0), .val (.int y0), .val (.int z0), .val (.int ((x0 &&& (2147483647 : Int32)) % (3 : Int32))), .val (.ref a3), .val (.int k5), .val (.int ch), .val (.int (0 : Int32)), .val (.int (0 : Int32)), .val (.int (0 : Int32)), .val (.int (0 : Int32)), .unset] [(.int (1 : Int32)), (.int ((x0 &&& (2147483647 : Int32)) % (3 : Int32)))])
                refine own_go (fun _ kk' => XS.icmpYes X49.here hx rfl (pc0 := 204) (pc' := 237) rfl (hb hby at_204) rfl (feq (hc21_33 : ¬ (((x0 &&& (2147483647 : Int32)) % (3 : Int32)) = (1 : Int32)))).2 (by decide) (by decide) kk') ?_
                show own_Go p e below K T49 (mkF m 237 #[.val (.int x0), .val (.int y0), .val (.int z0), .val (.int ((x0 &&& (2147483647 : Int32)) % (3 : Int32))), .val (.ref a3), .val (.int k5), .val (.int ch), .val (.int (0 : Int32)), .val (.int (0 : Int32)), .val (.int (0 : Int32)), .val (.int (0 : Int32)), .unset] [])
                refine own_go (fun _ kk' => XS.iload X49.here hx rfl (hb hby at_237) rfl  kk') ?_
                show own_Go p e below K T49 (mkF m 239 #[.val (.int x0), .val (.int y0), .val (.int z0), .val (.int ((x0 &&& (2147483647 : Int32)) % (3 : Int32))), .val (.ref a3), .val (.int k5), .val (.int ch), .val (.int (0 : Int32)), .val (.int (0 : Int32)), .val (.int (0 : Int32)), .val (.int (0 : Int32)), .unset] [(.int (0 : Int32))])
                refine own_go (fun _ kk' => XS.istore X49.here hx rfl (hb hby at_239) rfl (l' := #[.val (.int x0), .val (.int y0), .val (.int z0), .val (.int ((x0 &&& (2147483647 : Int32)) % (3 : Int32))), .val (.ref a3), .val (.int k5), .val (.int ch), .val (.int (0 : Int32)), .val (.int (0 : Int32)), .val (.int (0 : Int32)), .val (.int (0 : Int32)), .val (.int (0 : Int32))]) rfl kk') ?_
                show own_Go p e below K T49 (mkF m 241 #[.val (.int x0), .val (.int y0), .val (.int z0), .val (.int ((x0 &&& (2147483647 : Int32)) % (3 : Int32))), .val (.ref a3), .val (.int k5), .val (.int ch), .val (.int (0 : Int32)), .val (.int (0 : Int32)), .val (.int (0 : Int32)), .val (.int (0 : Int32)), .val (.int (0 : Int32))] [])
                refine own_go (fun _ kk' => XS.aload X49.here hx rfl (hb hby at_241) rfl rfl  kk') ?_
                show own_Go p e below K T49 (mkF m 243 #[.val (.int x0), .val (.int y0), .val (.int z0), .val (.int ((x0 &&& (2147483647 : Int32)) % (3 : Int32))), .val (.ref a3), .val (.int k5), .val (.int ch), .val (.int (0 : Int32)), .val (.int (0 : Int32)), .val (.int (0 : Int32)), .val (.int (0 : Int32)), .val (.int (0 : Int32))] [(.ref a3)])
                refine own_go (fun _ kk' => XS.iload X49.here hx rfl (hb hby at_243) rfl  kk') ?_
                show own_Go p e below K T49 (mkF m 245 #[.val (.int x0), .val (.int y0), .val (.int z0), .val (.int ((x0 &&& (2147483647 : Int32)) % (3 : Int32))), .val (.ref a3), .val (.int k5), .val (.int ch), .val (.int (0 : Int32)), .val (.int (0 : Int32)), .val (.int (0 : Int32)), .val (.int (0 : Int32)), .val (.int (0 : Int32))] [(.int ch), (.ref a3)])
                refine own_callV X49 hx hZ (C := "com/example/copista/copista/io/ReferenceScanner$LineEnds") (y := (⟨"com/example/copista/copista/io/ReferenceScanner$LineEnds", "endsLine", "(C)Z"⟩ : MethodName)) (z := (⟨"com/example/copista/copista/io/ReferenceScanner$LineEnds", "endsLine", "(C)Z"⟩ : MethodName)) hown (hw _ (List.mem_of_getElem? (i := 4) rfl)) (hw _ (List.mem_of_getElem? (i := 5) rfl)) (notFace_of_selects (args := #[]) (mvT hZ (hw _ (List.mem_of_getElem? (i := 7) rfl)))) (hw _ (List.mem_of_getElem? (i := 7) rfl)) (hw _ (List.mem_of_getElem? (i := 6) rfl)) (hw _ (List.mem_of_getElem? (i := 2) rfl)) (hw _ (List.mem_of_getElem? (i := 8) rfl)) (by decide) e49 (rm := own_rme) (a := a3) E3 (argsL := [(.int ch)]) (rest := []) (own_me l Z a0 hw a3 ch (0 : Int32) (0 : Int32) h0 n0 Z0 F3c F3n) (W := 0) (by decide) (by decide) (by decide) (by decide) (g := (mkF m 245 #[.val (.int x0), .val (.int y0), .val (.int z0), .val (.int ((x0 &&& (2147483647 : Int32)) % (3 : Int32))), .val (.ref a3), .val (.int k5), .val (.int ch), .val (.int (0 : Int32)), .val (.int (0 : Int32)), .val (.int (0 : Int32)), .val (.int (0 : Int32)), .val (.int (0 : Int32))] [(.int ch), (.ref a3)])) rfl (by rw [hml]; rfl) (lenOf own_pd0 rfl) rfl (by show 2 * 0 + _ ≤ _; exact Nat.le_of_eq rfl) (hb hby at_245) ?_
                intro v58 T58 L58 X58 hQ58
                obtain ⟨rfl, Nq58, e58⟩ := hQ58
                have N58 := Fr.app N0 Nq58
                show own_Go p e below K T58 (mkF m 248 #[.val (.int x0), .val (.int y0), .val (.int z0), .val (.int ((x0 &&& (2147483647 : Int32)) % (3 : Int32))), .val (.ref a3), .val (.int k5), .val (.int ch), .val (.int (0 : Int32)), .val (.int (0 : Int32)), .val (.int (0 : Int32)), .val (.int (0 : Int32)), .val (.int (0 : Int32))] [(.int (own_ends (0 : Int32) (0 : Int32) ch))])
                refine own_go (fun _ kk' => XS.iload X58.here hx rfl (hb hby at_248) rfl  kk') ?_
                show own_Go p e below K T58 (mkF m 250 #[.val (.int x0), .val (.int y0), .val (.int z0), .val (.int ((x0 &&& (2147483647 : Int32)) % (3 : Int32))), .val (.ref a3), .val (.int k5), .val (.int ch), .val (.int (0 : Int32)), .val (.int (0 : Int32)), .val (.int (0 : Int32)), .val (.int (0 : Int32)), .val (.int (0 : Int32))] [(.int (0 : Int32)), (.int (own_ends (0 : Int32) (0 : Int32) ch))])
                refine own_go (fun _ kk' => XS.icmpNo X58.here hx rfl (hb hby at_250) rfl (teq ((by simp only [own_ends, own_tail, hc124_50, hc138_52, hc153_54, hc168_56, if_false]) : (own_ends (0 : Int32) (0 : Int32) ch) = (0 : Int32))).2 kk') ?_
                show own_Go p e below K T58 (mkF m 253 #[.val (.int x0), .val (.int y0), .val (.int z0), .val (.int ((x0 &&& (2147483647 : Int32)) % (3 : Int32))), .val (.ref a3), .val (.int k5), .val (.int ch), .val (.int (0 : Int32)), .val (.int (0 : Int32)), .val (.int (0 : Int32)), .val (.int (0 : Int32)), .val (.int (0 : Int32))] [])
                refine own_go (fun _ kk' => XS.iconst X58.here hx rfl (hb hby at_253) kk') ?_
                show own_Go p e below K T58 (mkF m 254 #[.val (.int x0), .val (.int y0), .val (.int z0), .val (.int ((x0 &&& (2147483647 : Int32)) % (3 : Int32))), .val (.ref a3), .val (.int k5), .val (.int ch), .val (.int (0 : Int32)), .val (.int (0 : Int32)), .val (.int (0 : Int32)), .val (.int (0 : Int32)), .val (.int (0 : Int32))] [(.int (1 : Int32))])
                refine own_go (fun _ kk' => XS.goto X58.here hx rfl (pc0 := 254) (pc' := 258) rfl (hb hby at_254) (by decide) (by decide) kk') ?_
                show own_Go p e below K T58 (mkF m 258 #[.val (.int x0), .val (.int y0), .val (.int z0), .val (.int ((x0 &&& (2147483647 : Int32)) % (3 : Int32))), .val (.ref a3), .val (.int k5), .val (.int ch), .val (.int (0 : Int32)), .val (.int (0 : Int32)), .val (.int (0 : Int32)), .val (.int (0 : Int32)), .val (.int (0 : Int32))] [(.int (1 : Int32))])
                exact own_retZ X58 hx hlk hK hret (by decide) (hb hby at_258) (by decide) (by decide) ⟨rfl, N58⟩
      refine own_go (fun _ kk' => XS.iloadN X49.here hx rfl (hb hby at_37) rfl  kk') ?_
      show own_Go p e below K T49 (mkF m 38 #[.val (.int x0), .val (.int y0), .val (.int z0), .val (.int ((x0 &&& (2147483647 : Int32)) % (3 : Int32))), .val (.ref a3), .unset, .unset, .unset, .unset, .unset, .unset, .unset] [(.int y0)])
      refine own_go (fun _ kk' => XS.bipush X49.here hx rfl (hb hby at_38) kk') ?_
      show own_Go p e below K T49 (mkF m 40 #[.val (.int x0), .val (.int y0), .val (.int z0), .val (.int ((x0 &&& (2147483647 : Int32)) % (3 : Int32))), .val (.ref a3), .unset, .unset, .unset, .unset, .unset, .unset, .unset] [(.int (7 : Int32)), (.int y0)])
      refine own_go (fun _ kk' => XS.iand X49.here hx rfl (hb hby at_40) rfl kk') ?_
      show own_Go p e below K T49 (mkF m 41 #[.val (.int x0), .val (.int y0), .val (.int z0), .val (.int ((x0 &&& (2147483647 : Int32)) % (3 : Int32))), .val (.ref a3), .unset, .unset, .unset, .unset, .unset, .unset, .unset] [(.int (y0 &&& (7 : Int32)))])
      refine own_go (fun _ kk' => XS.istore X49.here hx rfl (hb hby at_41) rfl (l' := #[.val (.int x0), .val (.int y0), .val (.int z0), .val (.int ((x0 &&& (2147483647 : Int32)) % (3 : Int32))), .val (.ref a3), .val (.int (y0 &&& (7 : Int32))), .unset, .unset, .unset, .unset, .unset, .unset]) rfl kk') ?_
      show own_Go p e below K T49 (mkF m 43 #[.val (.int x0), .val (.int y0), .val (.int z0), .val (.int ((x0 &&& (2147483647 : Int32)) % (3 : Int32))), .val (.ref a3), .val (.int (y0 &&& (7 : Int32))), .unset, .unset, .unset, .unset, .unset, .unset] [])
      refine own_go (fun _ kk' => XS.iload X49.here hx rfl (hb hby at_43) rfl  kk') ?_
      show own_Go p e below K T49 (mkF m 45 #[.val (.int x0), .val (.int y0), .val (.int z0), .val (.int ((x0 &&& (2147483647 : Int32)) % (3 : Int32))), .val (.ref a3), .val (.int (y0 &&& (7 : Int32))), .unset, .unset, .unset, .unset, .unset, .unset] [(.int (y0 &&& (7 : Int32)))])
      by_cases hc45_59 : (y0 &&& (7 : Int32)) = (0 : Int32)
      · refine own_go (fun _ kk' => XS.ifNo X49.here hx rfl (hb hby at_45) rfl ((if0 _ _).trans (teq (hc45_59 : (y0 &&& (7 : Int32)) = (0 : Int32))).2) kk') ?_
        show own_Go p e below K T49 (mkF m 48 #[.val (.int x0), .val (.int y0), .val (.int z0), .val (.int ((x0 &&& (2147483647 : Int32)) % (3 : Int32))), .val (.ref a3), .val (.int (y0 &&& (7 : Int32))), .unset, .unset, .unset, .unset, .unset, .unset] [])
        refine own_go (fun _ kk' => XS.bipush X49.here hx rfl (hb hby at_48) kk') ?_
        show own_Go p e below K T49 (mkF m 50 #[.val (.int x0), .val (.int y0), .val (.int z0), .val (.int ((x0 &&& (2147483647 : Int32)) % (3 : Int32))), .val (.ref a3), .val (.int (y0 &&& (7 : Int32))), .unset, .unset, .unset, .unset, .unset, .unset] [(.int (10 : Int32))])
        refine own_go (fun _ kk' => XS.istore X49.here hx rfl (hb hby at_50) rfl (l' := #[.val (.int x0), .val (.int y0), .val (.int z0), .val (.int ((x0 &&& (2147483647 : Int32)) % (3 : Int32))), .val (.ref a3), .val (.int (y0 &&& (7 : Int32))), .val (.int (10 : Int32)), .unset, .unset, .unset, .unset, .unset]) rfl kk') ?_
        show own_Go p e below K T49 (mkF m 52 #[.val (.int x0), .val (.int y0), .val (.int z0), .val (.int ((x0 &&& (2147483647 : Int32)) % (3 : Int32))), .val (.ref a3), .val (.int (y0 &&& (7 : Int32))), .val (.int (10 : Int32)), .unset, .unset, .unset, .unset, .unset] [])
        refine own_go (fun _ kk' => XS.goto X49.here hx rfl (pc0 := 52) (pc' := 120) rfl (hb hby at_52) (by decide) (by decide) kk') ?_
        show own_Go p e below K T49 (mkF m 120 #[.val (.int x0), .val (.int y0), .val (.int z0), .val (.int ((x0 &&& (2147483647 : Int32)) % (3 : Int32))), .val (.ref a3), .val (.int (y0 &&& (7 : Int32))), .val (.int (10 : Int32)), .unset, .unset, .unset, .unset, .unset] [])
        exact j120_3 _ _
      · refine own_go (fun _ kk' => XS.ifYes X49.here hx rfl (pc0 := 45) (pc' := 55) rfl (hb hby at_45) rfl ((if0 _ _).trans (feq (hc45_59 : ¬ ((y0 &&& (7 : Int32)) = (0 : Int32)))).2) (by decide) (by decide) kk') ?_
        show own_Go p e below K T49 (mkF m 55 #[.val (.int x0), .val (.int y0), .val (.int z0), .val (.int ((x0 &&& (2147483647 : Int32)) % (3 : Int32))), .val (.ref a3), .val (.int (y0 &&& (7 : Int32))), .unset, .unset, .unset, .unset, .unset, .unset] [])
        refine own_go (fun _ kk' => XS.iload X49.here hx rfl (hb hby at_55) rfl  kk') ?_
        show own_Go p e below K T49 (mkF m 57 #[.val (.int x0), .val (.int y0), .val (.int z0), .val (.int ((x0 &&& (2147483647 : Int32)) % (3 : Int32))), .val (.ref a3), .val (.int (y0 &&& (7 : Int32))), .unset, .unset, .unset, .unset, .unset, .unset] [(.int (y0 &&& (7 : Int32)))])
        refine own_go (fun _ kk' => XS.iconst X49.here hx rfl (hb hby at_57) kk') ?_
        show own_Go p e below K T49 (mkF m 58 #[.val (.int x0), .val (.int y0), .val (.int z0), .val (.int ((x0 &&& (2147483647 : Int32)) % (3 : Int32))), .val (.ref a3), .val (.int (y0 &&& (7 : Int32))), .unset, .unset, .unset, .unset, .unset, .unset] [(.int (1 : Int32)), (.int (y0 &&& (7 : Int32)))])
        by_cases hc58_60 : (y0 &&& (7 : Int32)) = (1 : Int32)
        · refine own_go (fun _ kk' => XS.icmpNo X49.here hx rfl (hb hby at_58) rfl (teq (hc58_60 : (y0 &&& (7 : Int32)) = (1 : Int32))).2 kk') ?_
          show own_Go p e below K T49 (mkF m 61 #[.val (.int x0), .val (.int y0), .val (.int z0), .val (.int ((x0 &&& (2147483647 : Int32)) % (3 : Int32))), .val (.ref a3), .val (.int (y0 &&& (7 : Int32))), .unset, .unset, .unset, .unset, .unset, .unset] [])
          refine own_go (fun _ kk' => XS.bipush X49.here hx rfl (hb hby at_61) kk') ?_
          show own_Go p e below K T49 (mkF m 63 #[.val (.int x0), .val (.int y0), .val (.int z0), .val (.int ((x0 &&& (2147483647 : Int32)) % (3 : Int32))), .val (.ref a3), .val (.int (y0 &&& (7 : Int32))), .unset, .unset, .unset, .unset, .unset, .unset] [(.int (13 : Int32))])
          refine own_go (fun _ kk' => XS.istore X49.here hx rfl (hb hby at_63) rfl (l' := #[.val (.int x0), .val (.int y0), .val (.int z0), .val (.int ((x0 &&& (2147483647 : Int32)) % (3 : Int32))), .val (.ref a3), .val (.int (y0 &&& (7 : Int32))), .val (.int (13 : Int32)), .unset, .unset, .unset, .unset, .unset]) rfl kk') ?_
          show own_Go p e below K T49 (mkF m 65 #[.val (.int x0), .val (.int y0), .val (.int z0), .val (.int ((x0 &&& (2147483647 : Int32)) % (3 : Int32))), .val (.ref a3), .val (.int (y0 &&& (7 : Int32))), .val (.int (13 : Int32)), .unset, .unset, .unset, .unset, .unset] [])
          refine own_go (fun _ kk' => XS.goto X49.here hx rfl (pc0 := 65) (pc' := 120) rfl (hb hby at_65) (by decide) (by decide) kk') ?_
          show own_Go p e below K T49 (mkF m 120 #[.val (.int x0), .val (.int y0), .val (.int z0), .val (.int ((x0 &&& (2147483647 : Int32)) % (3 : Int32))), .val (.ref a3), .val (.int (y0 &&& (7 : Int32))), .val (.int (13 : Int32)), .unset, .unset, .unset, .unset, .unset] [])
          exact j120_3 _ _
        · refine own_go (fun _ kk' => XS.icmpYes X49.here hx rfl (pc0 := 58) (pc' := 68) rfl (hb hby at_58) rfl (feq (hc58_60 : ¬ ((y0 &&& (7 : Int32)) = (1 : Int32)))).2 (by decide) (by decide) kk') ?_
          show own_Go p e below K T49 (mkF m 68 #[.val (.int x0), .val (.int y0), .val (.int z0), .val (.int ((x0 &&& (2147483647 : Int32)) % (3 : Int32))), .val (.ref a3), .val (.int (y0 &&& (7 : Int32))), .unset, .unset, .unset, .unset, .unset, .unset] [])
          refine own_go (fun _ kk' => XS.iload X49.here hx rfl (hb hby at_68) rfl  kk') ?_
          show own_Go p e below K T49 (mkF m 70 #[.val (.int x0), .val (.int y0), .val (.int z0), .val (.int ((x0 &&& (2147483647 : Int32)) % (3 : Int32))), .val (.ref a3), .val (.int (y0 &&& (7 : Int32))), .unset, .unset, .unset, .unset, .unset, .unset] [(.int (y0 &&& (7 : Int32)))])
          refine own_go (fun _ kk' => XS.iconst X49.here hx rfl (hb hby at_70) kk') ?_
          show own_Go p e below K T49 (mkF m 71 #[.val (.int x0), .val (.int y0), .val (.int z0), .val (.int ((x0 &&& (2147483647 : Int32)) % (3 : Int32))), .val (.ref a3), .val (.int (y0 &&& (7 : Int32))), .unset, .unset, .unset, .unset, .unset, .unset] [(.int (2 : Int32)), (.int (y0 &&& (7 : Int32)))])
          by_cases hc71_61 : (y0 &&& (7 : Int32)) = (2 : Int32)
          · refine own_go (fun _ kk' => XS.icmpNo X49.here hx rfl (hb hby at_71) rfl (teq (hc71_61 : (y0 &&& (7 : Int32)) = (2 : Int32))).2 kk') ?_
            show own_Go p e below K T49 (mkF m 74 #[.val (.int x0), .val (.int y0), .val (.int z0), .val (.int ((x0 &&& (2147483647 : Int32)) % (3 : Int32))), .val (.ref a3), .val (.int (y0 &&& (7 : Int32))), .unset, .unset, .unset, .unset, .unset, .unset] [])
            refine own_go (fun _ kk' => XS.sipush X49.here hx rfl (hb hby at_74) kk') ?_
            show own_Go p e below K T49 (mkF m 77 #[.val (.int x0), .val (.int y0), .val (.int z0), .val (.int ((x0 &&& (2147483647 : Int32)) % (3 : Int32))), .val (.ref a3), .val (.int (y0 &&& (7 : Int32))), .unset, .unset, .unset, .unset, .unset, .unset] [(.int (133 : Int32))])
            refine own_go (fun _ kk' => XS.istore X49.here hx rfl (hb hby at_77) rfl (l' := #[.val (.int x0), .val (.int y0), .val (.int z0), .val (.int ((x0 &&& (2147483647 : Int32)) % (3 : Int32))), .val (.ref a3), .val (.int (y0 &&& (7 : Int32))), .val (.int (133 : Int32)), .unset, .unset, .unset, .unset, .unset]) rfl kk') ?_
            show own_Go p e below K T49 (mkF m 79 #[.val (.int x0), .val (.int y0), .val (.int z0), .val (.int ((x0 &&& (2147483647 : Int32)) % (3 : Int32))), .val (.ref a3), .val (.int (y0 &&& (7 : Int32))), .val (.int (133 : Int32)), .unset, .unset, .unset, .unset, .unset] [])
            refine own_go (fun _ kk' => XS.goto X49.here hx rfl (pc0 := 79) (pc' := 120) rfl (hb hby at_79) (by decide) (by decide) kk') ?_
            show own_Go p e below K T49 (mkF m 120 #[.val (.int x0), .val (.int y0), .val (.int z0), .val (.int ((x0 &&& (2147483647 : Int32)) % (3 : Int32))), .val (.ref a3), .val (.int (y0 &&& (7 : Int32))), .val (.int (133 : Int32)), .unset, .unset, .unset, .unset, .unset] [])
            exact j120_3 _ _
          · refine own_go (fun _ kk' => XS.icmpYes X49.here hx rfl (pc0 := 71) (pc' := 82) rfl (hb hby at_71) rfl (feq (hc71_61 : ¬ ((y0 &&& (7 : Int32)) = (2 : Int32)))).2 (by decide) (by decide) kk') ?_
            show own_Go p e below K T49 (mkF m 82 #[.val (.int x0), .val (.int y0), .val (.int z0), .val (.int ((x0 &&& (2147483647 : Int32)) % (3 : Int32))), .val (.ref a3), .val (.int (y0 &&& (7 : Int32))), .unset, .unset, .unset, .unset, .unset, .unset] [])
            refine own_go (fun _ kk' => XS.iload X49.here hx rfl (hb hby at_82) rfl  kk') ?_
            show own_Go p e below K T49 (mkF m 84 #[.val (.int x0), .val (.int y0), .val (.int z0), .val (.int ((x0 &&& (2147483647 : Int32)) % (3 : Int32))), .val (.ref a3), .val (.int (y0 &&& (7 : Int32))), .unset, .unset, .unset, .unset, .unset, .unset] [(.int (y0 &&& (7 : Int32)))])
            refine own_go (fun _ kk' => XS.iconst X49.here hx rfl (hb hby at_84) kk') ?_
            show own_Go p e below K T49 (mkF m 85 #[.val (.int x0), .val (.int y0), .val (.int z0), .val (.int ((x0 &&& (2147483647 : Int32)) % (3 : Int32))), .val (.ref a3), .val (.int (y0 &&& (7 : Int32))), .unset, .unset, .unset, .unset, .unset, .unset] [(.int (3 : Int32)), (.int (y0 &&& (7 : Int32)))])
            by_cases hc85_62 : (y0 &&& (7 : Int32)) = (3 : Int32)
            · refine own_go (fun _ kk' => XS.icmpNo X49.here hx rfl (hb hby at_85) rfl (teq (hc85_62 : (y0 &&& (7 : Int32)) = (3 : Int32))).2 kk') ?_
              show own_Go p e below K T49 (mkF m 88 #[.val (.int x0), .val (.int y0), .val (.int z0), .val (.int ((x0 &&& (2147483647 : Int32)) % (3 : Int32))), .val (.ref a3), .val (.int (y0 &&& (7 : Int32))), .unset, .unset, .unset, .unset, .unset, .unset] [])
              refine own_go (fun _ kk' => XS.sipush X49.here hx rfl (hb hby at_88) kk') ?_
              show own_Go p e below K T49 (mkF m 91 #[.val (.int x0), .val (.int y0), .val (.int z0), .val (.int ((x0 &&& (2147483647 : Int32)) % (3 : Int32))), .val (.ref a3), .val (.int (y0 &&& (7 : Int32))), .unset, .unset, .unset, .unset, .unset, .unset] [(.int (8232 : Int32))])
              refine own_go (fun _ kk' => XS.istore X49.here hx rfl (hb hby at_91) rfl (l' := #[.val (.int x0), .val (.int y0), .val (.int z0), .val (.int ((x0 &&& (2147483647 : Int32)) % (3 : Int32))), .val (.ref a3), .val (.int (y0 &&& (7 : Int32))), .val (.int (8232 : Int32)), .unset, .unset, .unset, .unset, .unset]) rfl kk') ?_
              show own_Go p e below K T49 (mkF m 93 #[.val (.int x0), .val (.int y0), .val (.int z0), .val (.int ((x0 &&& (2147483647 : Int32)) % (3 : Int32))), .val (.ref a3), .val (.int (y0 &&& (7 : Int32))), .val (.int (8232 : Int32)), .unset, .unset, .unset, .unset, .unset] [])
              refine own_go (fun _ kk' => XS.goto X49.here hx rfl (pc0 := 93) (pc' := 120) rfl (hb hby at_93) (by decide) (by decide) kk') ?_
              show own_Go p e below K T49 (mkF m 120 #[.val (.int x0), .val (.int y0), .val (.int z0), .val (.int ((x0 &&& (2147483647 : Int32)) % (3 : Int32))), .val (.ref a3), .val (.int (y0 &&& (7 : Int32))), .val (.int (8232 : Int32)), .unset, .unset, .unset, .unset, .unset] [])
              exact j120_3 _ _
            · refine own_go (fun _ kk' => XS.icmpYes X49.here hx rfl (pc0 := 85) (pc' := 96) rfl (hb hby at_85) rfl (feq (hc85_62 : ¬ ((y0 &&& (7 : Int32)) = (3 : Int32)))).2 (by decide) (by decide) kk') ?_
              show own_Go p e below K T49 (mkF m 96 #[.val (.int x0), .val (.int y0), .val (.int z0), .val (.int ((x0 &&& (2147483647 : Int32)) % (3 : Int32))), .val (.ref a3), .val (.int (y0 &&& (7 : Int32))), .unset, .unset, .unset, .unset, .unset, .unset] [])
              refine own_go (fun _ kk' => XS.iload X49.here hx rfl (hb hby at_96) rfl  kk') ?_
              show own_Go p e below K T49 (mkF m 98 #[.val (.int x0), .val (.int y0), .val (.int z0), .val (.int ((x0 &&& (2147483647 : Int32)) % (3 : Int32))), .val (.ref a3), .val (.int (y0 &&& (7 : Int32))), .unset, .unset, .unset, .unset, .unset, .unset] [(.int (y0 &&& (7 : Int32)))])
              refine own_go (fun _ kk' => XS.iconst X49.here hx rfl (hb hby at_98) kk') ?_
              show own_Go p e below K T49 (mkF m 99 #[.val (.int x0), .val (.int y0), .val (.int z0), .val (.int ((x0 &&& (2147483647 : Int32)) % (3 : Int32))), .val (.ref a3), .val (.int (y0 &&& (7 : Int32))), .unset, .unset, .unset, .unset, .unset, .unset] [(.int (4 : Int32)), (.int (y0 &&& (7 : Int32)))])
              by_cases hc99_63 : (y0 &&& (7 : Int32)) = (4 : Int32)
              · refine own_go (fun _ kk' => XS.icmpNo X49.here hx rfl (hb hby at_99) rfl (teq (hc99_63 : (y0 &&& (7 : Int32)) = (4 : Int32))).2 kk') ?_
                show own_Go p e below K T49 (mkF m 102 #[.val (.int x0), .val (.int y0), .val (.int z0), .val (.int ((x0 &&& (2147483647 : Int32)) % (3 : Int32))), .val (.ref a3), .val (.int (y0 &&& (7 : Int32))), .unset, .unset, .unset, .unset, .unset, .unset] [])
                refine own_go (fun _ kk' => XS.iloadN X49.here hx rfl (hb hby at_102) rfl  kk') ?_
                show own_Go p e below K T49 (mkF m 103 #[.val (.int x0), .val (.int y0), .val (.int z0), .val (.int ((x0 &&& (2147483647 : Int32)) % (3 : Int32))), .val (.ref a3), .val (.int (y0 &&& (7 : Int32))), .unset, .unset, .unset, .unset, .unset, .unset] [(.int z0)])
                refine own_go (fun _ kk' => XS.sipush X49.here hx rfl (hb hby at_103) kk') ?_
                show own_Go p e below K T49 (mkF m 106 #[.val (.int x0), .val (.int y0), .val (.int z0), .val (.int ((x0 &&& (2147483647 : Int32)) % (3 : Int32))), .val (.ref a3), .val (.int (y0 &&& (7 : Int32))), .unset, .unset, .unset, .unset, .unset, .unset] [(.int (255 : Int32)), (.int z0)])
                refine own_go (fun _ kk' => XS.iand X49.here hx rfl (hb hby at_106) rfl kk') ?_
                show own_Go p e below K T49 (mkF m 107 #[.val (.int x0), .val (.int y0), .val (.int z0), .val (.int ((x0 &&& (2147483647 : Int32)) % (3 : Int32))), .val (.ref a3), .val (.int (y0 &&& (7 : Int32))), .unset, .unset, .unset, .unset, .unset, .unset] [(.int (z0 &&& (255 : Int32)))])
                refine own_go (fun _ kk' => XS.i2c X49.here hx rfl (hb hby at_107) rfl kk') ?_
                show own_Go p e below K T49 (mkF m 108 #[.val (.int x0), .val (.int y0), .val (.int z0), .val (.int ((x0 &&& (2147483647 : Int32)) % (3 : Int32))), .val (.ref a3), .val (.int (y0 &&& (7 : Int32))), .unset, .unset, .unset, .unset, .unset, .unset] [(.int ((z0 &&& (255 : Int32)).toUInt32.toUInt16.toUInt32.toInt32))])
                refine own_go (fun _ kk' => XS.istore X49.here hx rfl (hb hby at_108) rfl (l' := #[.val (.int x0), .val (.int y0), .val (.int z0), .val (.int ((x0 &&& (2147483647 : Int32)) % (3 : Int32))), .val (.ref a3), .val (.int (y0 &&& (7 : Int32))), .val (.int ((z0 &&& (255 : Int32)).toUInt32.toUInt16.toUInt32.toInt32)), .unset, .unset, .unset, .unset, .unset]) rfl kk') ?_
                show own_Go p e below K T49 (mkF m 110 #[.val (.int x0), .val (.int y0), .val (.int z0), .val (.int ((x0 &&& (2147483647 : Int32)) % (3 : Int32))), .val (.ref a3), .val (.int (y0 &&& (7 : Int32))), .val (.int ((z0 &&& (255 : Int32)).toUInt32.toUInt16.toUInt32.toInt32)), .unset, .unset, .unset, .unset, .unset] [])
                refine own_go (fun _ kk' => XS.goto X49.here hx rfl (pc0 := 110) (pc' := 120) rfl (hb hby at_110) (by decide) (by decide) kk') ?_
                show own_Go p e below K T49 (mkF m 120 #[.val (.int x0), .val (.int y0), .val (.int z0), .val (.int ((x0 &&& (2147483647 : Int32)) % (3 : Int32))), .val (.ref a3), .val (.int (y0 &&& (7 : Int32))), .val (.int ((z0 &&& (255 : Int32)).toUInt32.toUInt16.toUInt32.toInt32)), .unset, .unset, .unset, .unset, .unset] [])
                exact j120_3 _ _
              · refine own_go (fun _ kk' => XS.icmpYes X49.here hx rfl (pc0 := 99) (pc' := 113) rfl (hb hby at_99) rfl (feq (hc99_63 : ¬ ((y0 &&& (7 : Int32)) = (4 : Int32)))).2 (by decide) (by decide) kk') ?_
                show own_Go p e below K T49 (mkF m 113 #[.val (.int x0), .val (.int y0), .val (.int z0), .val (.int ((x0 &&& (2147483647 : Int32)) % (3 : Int32))), .val (.ref a3), .val (.int (y0 &&& (7 : Int32))), .unset, .unset, .unset, .unset, .unset, .unset] [])
                refine own_go (fun _ kk' => XS.iloadN X49.here hx rfl (hb hby at_113) rfl  kk') ?_
                show own_Go p e below K T49 (mkF m 114 #[.val (.int x0), .val (.int y0), .val (.int z0), .val (.int ((x0 &&& (2147483647 : Int32)) % (3 : Int32))), .val (.ref a3), .val (.int (y0 &&& (7 : Int32))), .unset, .unset, .unset, .unset, .unset, .unset] [(.int z0)])
                refine own_go (fun tt' kk' => X49.ldcInt hx hown (mvT hZ (hw _ (List.mem_of_getElem? (i := 15) rfl))) (g := (mkF m 114 #[.val (.int x0), .val (.int y0), .val (.int z0), .val (.int ((x0 &&& (2147483647 : Int32)) % (3 : Int32))), .val (.ref a3), .val (.int (y0 &&& (7 : Int32))), .unset, .unset, .unset, .unset, .unset, .unset] [(.int z0)])) rfl (hb hby at_114) tt' kk') ?_
                show own_Go p e below K T49 (mkF m 116 #[.val (.int x0), .val (.int y0), .val (.int z0), .val (.int ((x0 &&& (2147483647 : Int32)) % (3 : Int32))), .val (.ref a3), .val (.int (y0 &&& (7 : Int32))), .unset, .unset, .unset, .unset, .unset, .unset] [(.int (65535 : Int32)), (.int z0)])
                refine own_go (fun _ kk' => XS.iand X49.here hx rfl (hb hby at_116) rfl kk') ?_
                show own_Go p e below K T49 (mkF m 117 #[.val (.int x0), .val (.int y0), .val (.int z0), .val (.int ((x0 &&& (2147483647 : Int32)) % (3 : Int32))), .val (.ref a3), .val (.int (y0 &&& (7 : Int32))), .unset, .unset, .unset, .unset, .unset, .unset] [(.int (z0 &&& (65535 : Int32)))])
                refine own_go (fun _ kk' => XS.i2c X49.here hx rfl (hb hby at_117) rfl kk') ?_
                show own_Go p e below K T49 (mkF m 118 #[.val (.int x0), .val (.int y0), .val (.int z0), .val (.int ((x0 &&& (2147483647 : Int32)) % (3 : Int32))), .val (.ref a3), .val (.int (y0 &&& (7 : Int32))), .unset, .unset, .unset, .unset, .unset, .unset] [(.int ((z0 &&& (65535 : Int32)).toUInt32.toUInt16.toUInt32.toInt32))])
                refine own_go (fun _ kk' => XS.istore X49.here hx rfl (hb hby at_118) rfl (l' := #[.val (.int x0), .val (.int y0), .val (.int z0), .val (.int ((x0 &&& (2147483647 : Int32)) % (3 : Int32))), .val (.ref a3), .val (.int (y0 &&& (7 : Int32))), .val (.int ((z0 &&& (65535 : Int32)).toUInt32.toUInt16.toUInt32.toInt32)), .unset, .unset, .unset, .unset, .unset]) rfl kk') ?_
                show own_Go p e below K T49 (mkF m 120 #[.val (.int x0), .val (.int y0), .val (.int z0), .val (.int ((x0 &&& (2147483647 : Int32)) % (3 : Int32))), .val (.ref a3), .val (.int (y0 &&& (7 : Int32))), .val (.int ((z0 &&& (65535 : Int32)).toUInt32.toUInt16.toUInt32.toInt32)), .unset, .unset, .unset, .unset, .unset] [])
                exact j120_3 _ _
theorem own_fint {args : Array Value} {s : State} {a : Addr} {t u : Jvm.Term} {C n d : String} {v : Int32} {idx : List Nat} (ev : t.eval args s none idx s = some (.ref a)) (eu : u.eval args s none idx s = some (.int v)) (h : (Jvm.Cond.eq (.field t C n d) u).value args s none s idx = some true) : Fld s s.heap a C n d (.int v) := by
  have q := fld_at (C := C) (n := n) (dd := d) ev
  cases hf : s.fieldOf? a C n d with
  | none => rw [hf] at q; simp [Cond.value, q] at h
  | some w =>
    rw [hf] at q
    cases w <;> simp [Cond.value, q, eu] at h
    subst h; exact Fld.start hf
set_option maxRecDepth 65536 in
set_option maxHeartbeats 40000000 in
theorem own_comes {Post : Tables → Env → Array Value → State → Outcome → State → Prop} (hpost : ∀ tb e args s v u, (limb_1_1.after args s (.returned v) u = true ∧ limb_1_2.after args s (.returned v) u = true ∧ True) → FrameEnd s (.returned v) u (Jvm.fieldLocs frame_1_writes args s ++ Jvm.arrayLocs frame_1_arrays args s ++ Jvm.staticLocs frame_1_statics s) 0 0 → Post tb e args s (.returned v) u) :
    ArmFor flags0 classFile x code maxLocals ret World_1 tables_1 room_1 Calls_1 rest_1 Pre_1 Post := by
  intro l hfl _ _ p e ha hc hk s m args below hf hA hF happ hP
  obtain ⟨hcalls, hrest, hpre⟩ := hP
  obtain ⟨-, -, -, hnamed, -, -, -, hat⟩ := (Spec.applies_iff hf).mp happ
  obtain ⟨hg, hn⟩ := and_e (Cond.before_iff.mp (show (Jvm.Cond.and given_1 narrow_1).before args s = true from hpre))
  obtain ⟨hcnt, hg0⟩ := and_e hg
  obtain ⟨hi0, hg1⟩ := and_e hg0
  obtain ⟨hi1, hg2⟩ := and_e hg1
  have hi2 := hg2
  obtain ⟨w0, w1, w2, rfl⟩ : ∃ w0 w1 w2 : Value, args = #[w0, w1, w2] := by
    have hs : args.size = 3 := by simpa [Cond.value, given_1] using hcnt
    obtain ⟨L⟩ := args
    match L, hs with
    | [w0, w1, w2], _ => exact ⟨w0, w1, w2, rfl⟩
  have hw := fun d (hd : d ∈ tables_1) => atoms_spec (ws := Jvm.Cond.code x code maxLocals ret :: tables_1) hat d (List.mem_cons_of_mem _ hd)
  have hfit : Fit s := fun {y c} hc i hi => by
    obtain ⟨ha, rfl⟩ := Array.getElem?_eq_some_iff.mp hc
    have q := List.all_eq_true.mp ((Array.all_eq_true_iff_forall_mem.mp hF) _ (Array.getElem_mem ha)) i (List.mem_range.mpr hi)
    simpa [Array.getElem?_eq_getElem hi] using q
  obtain ⟨x0, ei0⟩ := is_v hi0
  obtain rfl : w0 = (.int x0) := Option.some.inj ei0
  obtain ⟨y0, ei1⟩ := is_v hi1
  obtain rfl : w1 = (.int y0) := Option.some.inj ei1
  obtain ⟨z0, ei2⟩ := is_v hi2
  obtain rfl : w2 = (.int z0) := Option.some.inj ei2
  obtain ⟨hn0, hr0⟩ := and_e (show narrow_1.value _ s none s [] = some true from hn)
  obtain ⟨hn1, hr1⟩ := and_e hr0
  obtain ⟨hn2, hr2⟩ := and_e hr1
  obtain ⟨hn3, hr3⟩ := and_e hr2
  obtain ⟨hn4, hr4⟩ := and_e hr3
  obtain ⟨hn5, hr5⟩ := and_e hr4
  obtain ⟨hn6, hr6⟩ := and_e hr5
  obtain ⟨hn7, hr7⟩ := and_e hr6
  have hn8 := hr7
  obtain ⟨a1, ev1⟩ := exa_v hn0
  have S1 : Sta s s.heap "com/example/copista/copista/io/ReferenceScanner$LineEnds" "XML_1_0" "Lcom/example/copista/copista/io/ReferenceScanner$LineEnds;" (.ref a1) := Sta.start ev1 (Or.inr ⟨(hw _ (List.mem_of_getElem? (i := 2) rfl)), (hw _ (List.mem_of_getElem? (i := 3) rfl))⟩)
  have E1 : Exa s s.heap a1 "com/example/copista/copista/io/ReferenceScanner$LineEnds" := Exa.start ev1 hn0
  obtain ⟨a2, ev2⟩ := exa_v hn2
  have S2 : Sta s s.heap "com/example/copista/copista/io/ReferenceScanner$LineEnds" "XML_1_1" "Lcom/example/copista/copista/io/ReferenceScanner$LineEnds;" (.ref a2) := Sta.start ev2 (Or.inr ⟨(hw _ (List.mem_of_getElem? (i := 2) rfl)), (hw _ (List.mem_of_getElem? (i := 12) rfl))⟩)
  have E2 : Exa s s.heap a2 "com/example/copista/copista/io/ReferenceScanner$LineEnds" := Exa.start ev2 hn2
  obtain ⟨a3, ev3⟩ := exa_v hn3
  have S3 : Sta s s.heap "com/example/copista/copista/io/ReferenceScanner$LineEnds" "REPLACEMENT_TEXT" "Lcom/example/copista/copista/io/ReferenceScanner$LineEnds;" (.ref a3) := Sta.start ev3 (Or.inr ⟨(hw _ (List.mem_of_getElem? (i := 2) rfl)), (hw _ (List.mem_of_getElem? (i := 14) rfl))⟩)
  have E3 : Exa s s.heap a3 "com/example/copista/copista/io/ReferenceScanner$LineEnds" := Exa.start ev3 hn3
  have F1n := own_fint ev1 (Term.int_eval _) hn1
  have F3n := own_fint ev3 (Term.int_eval _) hn4
  have F2n := own_fint ev2 (Term.int_eval _) hn5
  have F3c := own_fint ev3 (Term.int_eval _) hn6
  have F2c := own_fint ev2 (Term.int_eval _) hn7
  have F1c := own_fint ev1 (Term.int_eval _) hn8
  obtain ⟨n, o, q1, q2, q3, _, L, rfl, ⟨rfl, N⟩, hq⟩ := own_law l s _ hw x0 y0 z0 a1 a2 a3 s.heap s.heap.size (Nat.le_refl _) S1 E1 F1c F1n S2 E2 F2c F2n S3 E3 F3c F3n p e ha hc hk s m _ below hf ((Spec.applies_iff_loose hf).mp happ).1 ⟨rfl, State.Warmed39.refl s, rfl⟩ trivial
  refine ⟨n, _, q1, q2, q3, hpost _ _ _ _ _ _ ⟨Cond.after_iff.mpr rfl, Cond.after_iff.mpr (eq_i res_at (Term.int_eval (1)) rfl), trivial⟩ ⟨hq.1, hq.2.1, (hq.2.2.sift fun y hy => Or.inr (N y hy)).mono (by decide) (by decide)⟩⟩
theorem main_1_1 : Claimed_1_1 := own_comes fun _ _ _ _ _ _ h hF => ⟨h.1, hF⟩
theorem main_1_2 : Claimed_1_2 := own_comes fun _ _ _ _ _ _ h hF => ⟨h.2.1, hF⟩
end Jvm.Pilot.@@N@@
namespace Jvm.Pilot.@@N@@
open Jvm Jvm.ClassFile Sem Op Lib Jvm.Free Jvm.Stand Jvm.Pilot.@@N@@.Jvm.D
/-! MADE BY PROGRAM (witnessworld.py) out of the Statement's table words and the real class files: 12 classes; the members and pool entries that the words name. The judged class is class 1, her method 1. -/
namespace start1
open Jvm.ClassFile
def u (s : String) : CpInfo := .utf8 (stringToUtf16 s)
/-- a pool by its gaps: so many unusable entries, then the entry; so many at the end -/
def gap : Nat → List CpInfo → List CpInfo
  | 0, r => r
  | n + 1, r => .unusable :: gap n r
def poolList (es : List (Nat × CpInfo)) (last : Nat) : List CpInfo := es.foldr (fun e r => gap e.1 (e.2 :: r)) (gap last [])
def pool (es : List (Nat × CpInfo)) (last : Nat) : Array CpInfo := ⟨poolList es last⟩
def fileOf (pool : Array CpInfo) (this : Nat) (attrs : Array Attribute := #[]) (ms : Array MethodInfo := #[]) (fl : Nat := 33) (sup : Nat := 0) (ifs : Array Nat := #[]) (fds : Array FieldInfo := #[]) : ClassFile where
  minorVersion := 0
  majorVersion := 65
  constantPool := pool
  accessFlags := fl
  thisClass := this
  superClass := sup
  interfaces := ifs
  fields := fds
  methods := ms
  attributes := attrs
def plain (name : String) (sup : Option ClassId) : Class where
  name := name
  kind := .ordinary
  loader := none
  accessFlags := 33
  super := sup
  interfaces := #[]
  cf := none
  fields := #[]
  methods := #[]
  instanceTypes := #[]
  staticTypes := #[]
  resolved := #[]
  callSites := []
  init := .initialized
  statics := none
  mirror := none

def pool0 : Array CpInfo := pool [(5, u "<init>"), (0, u "()V"), (1, .class_ 10), (1, u "java/lang/Object")] 113

def k0m0 : Method := { name := "<init>", desc := "()V", sig := { parameters := [], returnType := none }, accessFlags := 1, code := none }
/-- java/lang/Object -/
def k0 : Class := { plain "java/lang/Object" none with
  accessFlags := 33
  interfaces := #[]
  cf := some (fileOf pool0 8 #[] #[{ accessFlags := 1, nameIndex := 5, descriptorIndex := 6, attributes := #[] }] 33 0 #[] #[])
  fields := #[]
  methods := #[k0m0]
  instanceTypes := #[]
  staticTypes := #[]
  resolved := Array.replicate 124 none
  statics := none }

def pool1 : Array CpInfo := pool [(2, .class_ 4), (1, u "java/lang/Object"), (0, u "<init>"), (0, u "()V"), (0, .integer 2147483647), (0, .fieldref 9 10), (0, .class_ 11), (0, .nameAndType 12 13), (0, u "com/example/copista/copista/io/ReferenceScanner$LineEnds"), (0, u "XML_1_0"), (0, u "Lcom/example/copista/copista/io/ReferenceScanner$LineEnds;"), (0, .fieldref 9 15), (0, .nameAndType 16 13), (0, u "XML_1_1"), (0, .fieldref 9 18), (0, .nameAndType 19 13), (0, u "REPLACEMENT_TEXT"), (0, .integer 65535), (0, .methodref 9 22), (0, .nameAndType 23 24), (0, u "endsLine"), (0, u "(C)Z"), (0, .class_ 26), (0, u "com/example/copista/copista/io/LineEndsEndsLinePinLaw"), (2, u "law"), (0, u "(III)Z")] 7

def k1m0 : Method := { name := "<init>", desc := "()V", sig := { parameters := [], returnType := none }, accessFlags := 1, code := none }
def k1c1 : Code := { maxStack := 2, maxLocals := 12, code := code, exceptionTable := #[], attributes := #[] }
def k1m1 : Method := { name := "law", desc := "(III)Z", sig := { parameters := [.int, .int, .int], returnType := some .boolean }, accessFlags := 9, code := some k1c1 }
/-- com/example/copista/copista/io/LineEndsEndsLinePinLaw -/
def k1 : Class := { plain "com/example/copista/copista/io/LineEndsEndsLinePinLaw" (some 0) with
  accessFlags := 49
  interfaces := #[]
  cf := some (fileOf pool1 25 #[] #[{ accessFlags := 1, nameIndex := 5, descriptorIndex := 6, attributes := #[] }, { accessFlags := 9, nameIndex := 29, descriptorIndex := 30, attributes := #[] }] 49 2 #[] #[])
  fields := #[]
  methods := #[k1m0, k1m1]
  instanceTypes := #[]
  staticTypes := #[]
  resolved := Array.replicate 38 none
  statics := none }

def pool2 : Array CpInfo := pool [(1, .class_ 2), (0, u "java/lang/constant/Constable"), (0, .class_ 4), (0, u "java/lang/Object")] 6

/-- java/lang/constant/Constable -/
def k2 : Class := { plain "java/lang/constant/Constable" (some 0) with
  accessFlags := 1537
  interfaces := #[]
  cf := some (fileOf pool2 1 #[] #[] 1537 3 #[] #[])
  fields := #[]
  methods := #[]
  instanceTypes := #[]
  staticTypes := #[]
  resolved := Array.replicate 11 none
  statics := none }

def pool3 : Array CpInfo := pool [(1, .class_ 2), (0, u "java/lang/Comparable"), (0, .class_ 4), (0, u "java/lang/Object")] 7

/-- java/lang/Comparable -/
def k3 : Class := { plain "java/lang/Comparable" (some 0) with
  accessFlags := 1537
  interfaces := #[]
  cf := some (fileOf pool3 1 #[] #[] 1537 3 #[] #[])
  fields := #[]
  methods := #[]
  instanceTypes := #[]
  staticTypes := #[]
  resolved := Array.replicate 12 none
  statics := none }

def pool4 : Array CpInfo := pool [(1, .class_ 2), (0, u "java/io/Serializable"), (0, .class_ 4), (0, u "java/lang/Object")] 2

/-- java/io/Serializable -/
def k4 : Class := { plain "java/io/Serializable" (some 0) with
  accessFlags := 1537
  interfaces := #[]
  cf := some (fileOf pool4 1 #[] #[] 1537 3 #[] #[])
  fields := #[]
  methods := #[]
  instanceTypes := #[]
  staticTypes := #[]
  resolved := Array.replicate 7 none
  statics := none }

def pool5 : Array CpInfo := pool [(2, .class_ 4), (1, u "java/lang/Enum"), (0, u "name"), (0, u "Ljava/lang/String;"), (2, u "ordinal"), (0, u "I"), (1, .class_ 14), (1, u "java/lang/Object"), (4, u "hash"), (86, .class_ 108), (1, u "java/lang/Enum$EnumDesc"), (2, .class_ 112), (0, u "java/lang/constant/Constable"), (0, .class_ 114), (0, u "java/lang/Comparable"), (0, .class_ 116), (0, u "java/io/Serializable")] 87

/-- java/lang/Enum -/
def k5 : Class := { plain "java/lang/Enum" (some 0) with
  accessFlags := 1057
  interfaces := #[2, 3, 4]
  cf := some (fileOf pool5 2 #[.nestMembers #[106]] #[] 1057 12 #[111, 113, 115] #[{ accessFlags := 18, nameIndex := 5, descriptorIndex := 6, attributes := #[] }, { accessFlags := 18, nameIndex := 9, descriptorIndex := 10, attributes := #[] }, { accessFlags := 2, nameIndex := 19, descriptorIndex := 10, attributes := #[] }])
  fields := #[{ name := "name", type := (.object "java/lang/String"), accessFlags := 18, slot := 0, constantValue := 0 }, { name := "ordinal", type := .int, accessFlags := 18, slot := 1, constantValue := 0 }, { name := "hash", type := .int, accessFlags := 2, slot := 2, constantValue := 0 }]
  methods := #[]
  instanceTypes := #[(.object "java/lang/String"), .int, .int]
  staticTypes := #[]
  resolved := Array.replicate 204 none
  statics := none }

def pool6 : Array CpInfo := pool [(1, .class_ 2), (0, u "com/example/copista/copista/io/ReferenceScanner$LineEnds"), (2, u "XML_1_0"), (0, u "Lcom/example/copista/copista/io/ReferenceScanner$LineEnds;"), (2, u "XML_1_1"), (2, u "REPLACEMENT_TEXT"), (2, u "$VALUES"), (0, u "[Lcom/example/copista/copista/io/ReferenceScanner$LineEnds;"), (6, .class_ 25), (1, u "java/lang/Enum"), (6, .fieldref 1 33), (0, .nameAndType 34 35), (0, u "endsAtCarriageReturn"), (0, u "Z"), (0, .fieldref 1 37), (0, .nameAndType 38 35), (0, u "endsAtNelAndU2028"), (27, u "endsLine"), (0, u "(C)Z"), (7, .class_ 76), (0, u "com/example/copista/copista/io/ReferenceScanner")] 2

def k6c0 : Code := { maxStack := 2, maxLocals := 2, code := prog_38_method_5_code, exceptionTable := #[], attributes := #[] }
def k6m0 : Method := { name := "endsLine", desc := "(C)Z", sig := { parameters := [.char], returnType := some .boolean }, accessFlags := 0, code := some k6c0 }
/-- com/example/copista/copista/io/ReferenceScanner$LineEnds -/
def k6 : Class := { plain "com/example/copista/copista/io/ReferenceScanner$LineEnds" (some 5) with
  accessFlags := 16432
  interfaces := #[]
  cf := some (fileOf pool6 1 #[.nestHost 75] #[{ accessFlags := 0, nameIndex := 66, descriptorIndex := 67, attributes := #[] }] 16432 23 #[] #[{ accessFlags := 16409, nameIndex := 5, descriptorIndex := 6, attributes := #[] }, { accessFlags := 16409, nameIndex := 9, descriptorIndex := 6, attributes := #[] }, { accessFlags := 16409, nameIndex := 12, descriptorIndex := 6, attributes := #[] }, { accessFlags := 18, nameIndex := 34, descriptorIndex := 35, attributes := #[] }, { accessFlags := 18, nameIndex := 38, descriptorIndex := 35, attributes := #[] }, { accessFlags := 4122, nameIndex := 15, descriptorIndex := 16, attributes := #[] }])
  fields := #[{ name := "XML_1_0", type := (.object "com/example/copista/copista/io/ReferenceScanner$LineEnds"), accessFlags := 16409, slot := 0, constantValue := 0 }, { name := "XML_1_1", type := (.object "com/example/copista/copista/io/ReferenceScanner$LineEnds"), accessFlags := 16409, slot := 1, constantValue := 0 }, { name := "REPLACEMENT_TEXT", type := (.object "com/example/copista/copista/io/ReferenceScanner$LineEnds"), accessFlags := 16409, slot := 2, constantValue := 0 }, { name := "endsAtCarriageReturn", type := .boolean, accessFlags := 18, slot := 3, constantValue := 0 }, { name := "endsAtNelAndU2028", type := .boolean, accessFlags := 18, slot := 4, constantValue := 0 }, { name := "$VALUES", type := (.array (.object "com/example/copista/copista/io/ReferenceScanner$LineEnds")), accessFlags := 4122, slot := 3, constantValue := 0 }]
  methods := #[k6m0]
  instanceTypes := #[(.object "java/lang/String"), .int, .int, .boolean, .boolean]
  staticTypes := #[(.object "com/example/copista/copista/io/ReferenceScanner$LineEnds"), (.object "com/example/copista/copista/io/ReferenceScanner$LineEnds"), (.object "com/example/copista/copista/io/ReferenceScanner$LineEnds"), (.array (.object "com/example/copista/copista/io/ReferenceScanner$LineEnds"))]
  resolved := Array.replicate 79 none
  statics := some 0 }

def pool7 : Array CpInfo := pool [(1, u "java/lang/Cloneable"), (0, .class_ 1), (0, u "java/lang/Object"), (0, .class_ 3)] 3

/-- java/lang/Cloneable -/
def k7 : Class := { plain "java/lang/Cloneable" (some 0) with
  accessFlags := 1537
  interfaces := #[]
  cf := some (fileOf pool7 2 #[] #[] 1537 4 #[] #[])
  fields := #[]
  methods := #[]
  instanceTypes := #[]
  staticTypes := #[]
  resolved := Array.replicate 8 none
  statics := none }

/-- the primitive byte -/
def k8 : Class := { plain "byte" none with kind := .primitive 'B', accessFlags := 0x411 }
/-- [B -/
def k9 : Class := { plain "[B" (some 0) with kind := .array 8 .byte, interfaces := #[7, 4], accessFlags := 1041 }

/-- the primitive int -/
def k10 : Class := { plain "int" none with kind := .primitive 'I', accessFlags := 0x411 }
/-- [I -/
def k11 : Class := { plain "[I" (some 0) with kind := .array 10 .int, interfaces := #[7, 4], accessFlags := 1041 }

def heap : Heap := #[{ cls := 6, slots := #[.ref 1, .ref 2, .ref 3, .null], vm := .statics 6 },
  { cls := 6, slots := #[.null, .int 0, .int 0, .int 1, .int 0], vm := .none },
  { cls := 6, slots := #[.null, .int 1, .int 0, .int 1, .int 1], vm := .none },
  { cls := 6, slots := #[.null, .int 2, .int 0, .int 0, .int 0], vm := .none }]
def classes : Array Class := #[k0, k1, k2, k3, k4, k5, k6, k7, k8, k9, k10, k11]
def interned : List (Array UInt16 × Addr) := []
def slotsUsed : Nat := 19
def theMethod : MethodId := ⟨1, 1⟩
def args0 : Array Value := #[.int 5, .int 7, .int 9]
def aboutOver (below : List Frame) : State where
  vm := { classes := classes, interned := interned.toArray }
  heap := heap
  slotsUsed := slotsUsed
  threads := #[{ frames := .invoking theMethod args0 :: below }]
def below0 : List Frame := [.native { method := ⟨0, 0⟩, args := #[] }]
def about1 : State := aboutOver below0
def p0 : Program := .bare "" "" ""
def e0 : Env := launch0.env 0 0 0
theorem w_frames : about1.frames = Frame.invoking theMethod args0 :: below0 := rfl
set_option maxRecDepth 65536 in
theorem w_args : argsFit about1.vm theMethod args0 = true := by decide +kernel
set_option maxRecDepth 65536 in
theorem w_heap : heapFits about1 = true := by decide +kernel
set_option maxRecDepth 65536 in
theorem w_runnable : about1.curStatus? = some .runnable := by decide +kernel
set_option maxRecDepth 65536 in
theorem w_alone : about1.alone = true := by decide +kernel
set_option maxRecDepth 65536 in
theorem w_named : about1.methodNamed? x = some theMethod := by decide +kernel
set_option maxRecDepth 65536 in
theorem w_hears : about1.hears theMethod below0 = true := by decide +kernel
set_option maxRecDepth 65536 in
theorem w_ripe : about1.ripe theMethod args0 below0 = true := by decide +kernel
theorem w_running : about1.status = .running := rfl
set_option maxRecDepth 65536 in
theorem w_room : about1.hasRoom e0.platform room_1 = true :=
  launch0.hasRoom_least _ room_1 (by decide +kernel) (by decide +kernel) (by decide +kernel) (by decide +kernel) (by decide +kernel) (by decide +kernel)
theorem allAtoms_all (ts : List Jvm.Cond) (a : Array Jvm.Value) (st : Jvm.State) : (allAtoms ts).before a st = ts.all (fun c => c.before a st) := by
  induction ts with
  | nil => rfl
  | cons c t ih =>
    show (Jvm.Cond.and c (allAtoms t)).before a st = _
    rw [Jvm.Cond.before_and, ih, List.all_cons]
def words1 : List Jvm.Cond := Jvm.Cond.code x code maxLocals ret :: tables_1
/-- a 'code' word, met by the world's own term for the bytes: nothing is compared byte by byte -/
theorem code_word {y : MethodName} {bytes : ByteArray} {mx : Nat} {rt : Option FieldType} {a : Array Value} {s : State} {m : MethodId} {meth : Method} {c : Code} (h1 : s.methodNamed? y = some m) (h2 : s.vm.method? m = some meth) (h3 : meth.code = some c) (h4 : c.code = bytes)
    (h5 : (c.maxLocals == mx && c.exceptionTable.isEmpty && decide (c.maxStack ≤ mostOperands) && decide (meth.sig.returnType = rt) && !meth.locks && decide (parseMethodDescriptor y.desc = some meth.sig)) = true) : (Jvm.Cond.code y bytes mx rt).before a s = true := by
  simp only [Bool.and_eq_true, beq_iff_eq, Bool.not_eq_true', decide_eq_true_eq] at h5
  obtain ⟨⟨⟨⟨⟨g1, g2⟩, g3⟩, g4⟩, g5⟩, g6⟩ := h5
  simp [Cond.before, Cond.holds, Cond.value, h1, h2, h3, h4, g1, g2, g3, g4, g5, g6]
def isCode : Jvm.Cond → Bool
  | .code _ _ _ _ => true
  | _ => false
theorem all_split {L : List Jvm.Cond} {P : Jvm.Cond → Bool} (h1 : L.all (fun c => isCode c || P c) = true) (h2 : ∀ c ∈ L.filter isCode, P c = true) : L.all P = true := by
  refine List.all_eq_true.mpr fun c hc => ?_
  have h := List.all_eq_true.mp h1 c hc
  rcases Bool.eq_false_or_eq_true (isCode c) with hi | hi
  · exact h2 c (List.mem_filter.mpr ⟨hc, hi⟩)
  · simpa [hi] using h
set_option maxRecDepth 65536 in
theorem w_c0 : (Jvm.Cond.code x code maxLocals ret).before args0 about1 = true := code_word (m := ⟨1, 1⟩) (meth := k1m1) (c := k1c1) (by decide +kernel) rfl rfl rfl (by decide +kernel)
set_option maxRecDepth 65536 in
theorem w_c1 : (Jvm.Cond.code ({ cls := "com/example/copista/copista/io/ReferenceScanner$LineEnds", name := "endsLine", desc := "(C)Z" } : Jvm.MethodName) prog_38_method_5_code (2 : Nat) (Option.some Jvm.ClassFile.FieldType.boolean)).before args0 about1 = true := code_word (m := ⟨6, 0⟩) (meth := k6m0) (c := k6c0) (by decide +kernel) rfl rfl rfl (by decide +kernel)
def codes1 : List Jvm.Cond := [Jvm.Cond.code x code maxLocals ret, Jvm.Cond.code ({ cls := "com/example/copista/copista/io/ReferenceScanner$LineEnds", name := "endsLine", desc := "(C)Z" } : Jvm.MethodName) prog_38_method_5_code (2 : Nat) (Option.some Jvm.ClassFile.FieldType.boolean)]
set_option maxRecDepth 65536 in
theorem codes_eq : words1.filter isCode = codes1 := rfl
theorem w_codes : ∀ c ∈ words1.filter isCode, c.before args0 about1 = true := by
  rw [codes_eq]
  intro c hc
  simp only [codes1, List.mem_cons, List.not_mem_nil, or_false] at hc
  rcases hc with rfl | rfl
  · exact w_c0
  · exact w_c1
set_option maxRecDepth 65536 in
theorem w_t1 : words1.all (fun c => isCode c || c.before args0 about1) = true := by decide +kernel
theorem w_tables : (allAtoms (Jvm.Cond.code x code maxLocals ret :: tables_1)).before args0 about1 = true := by
  rw [allAtoms_all]
  show words1.all (fun c => c.before args0 about1) = true
  refine all_split ?_ w_codes
  rw [w_t1]
set_option maxRecDepth 65536 in
theorem w_case : (Jvm.Cond.and given_1 narrow_1).before args0 about1 = true := by decide +kernel
theorem w_applies : (headSpec (Jvm.Cond.code x code maxLocals ret :: tables_1) room_1).applies x e0.platform about1 = true :=
  (Spec.applies_iff w_frames).mpr ⟨w_running, w_runnable, w_alone, w_named, w_hears, w_ripe, w_room, w_tables⟩
theorem atStart : AtStart classFile x code maxLocals ret World_1 tables_1 room_1 Calls_1 rest_1 Pre_1 launch0 p0 e0 about1 theMethod args0 below0 :=
  ⟨lists_1, trivial, launch0.admits_env _ _ _, launch0.least_env, fairChoices_fair.cas, fairChoices_fair.clock, w_frames, w_args, w_heap, w_applies, trivial, trivial, w_case⟩
end start1
theorem witness_1 : WitnessClaimed_1 := ⟨start1.p0, start1.e0, start1.about1, start1.theMethod, start1.args0, start1.below0, start1.atStart⟩
end Jvm.Pilot.@@N@@
