import JvmDerived
import JvmDerived.Pilot.@@N@@Statement
import JvmDerived.Pilot.@@N@@Code
set_option linter.unusedVariables false
set_option linter.unusedSimpArgs false

namespace Jvm.Pilot.@@N@@
open Jvm Jvm.ClassFile Sem Op Lib Jvm.Free Jvm.Stand Jvm.LawKit Jvm.RoadKit Bundle Jvm.Pilot.@@N@@.Jvm.D
section OwnLayer
variable {p : Program} {l : Launch} {e : Env} {R : Room} {s : State} {m : MethodId} {args : Array Value} {below : List Frame} {meth : Method} {c : Code} {T : State} {locs : List Loc} {cells slots : Nat} {Z : State} {a0 : Array Value} {h : Heap} {K : State → Prop}
/-- the run from the frame g at T comes to a state of which K holds -/
def own_Go (p : Program) (e : Env) (below : List Frame) (K : State → Prop) (T : State) (g : JFrame) : Prop := ∃ t, Steps p.tables e below (T.setTop g) t ∧ K t
theorem own_go {T' : State} {g g' : JFrame} (st : ∀ t, Steps p.tables e below (T'.setTop g') t → Steps p.tables e below (T.setTop g) t) (k : own_Go p e below K T' g') : own_Go p e below K T g := by
  obtain ⟨t, h1, h2⟩ := k
  exact ⟨t, st t h1, h2⟩
/-- the method has returned, Q says what, and the frame is kept -/
def own_End (s : State) (below : List Frame) (Q : Option Value → Heap → List Loc → Prop) (C N : Nat) (t : State) : Prop :=
  ∃ o, t.status = .running ∧ Ended t below o ∧ ∃ v L, o = .returned v ∧ Q v t.heap L ∧ FrameEnd s o t L C N
/-- a contract, as the callers of this family ask it -/
abbrev own_Met (l : Launch) (Z : State) (y : MethodName) (bytes : ByteArray) (maxL : Nat) (ret : Option FieldType) (ws : List Jvm.Cond) (rm : Room) (as' : Array Value) (h : Heap) (Q : Option Value → Heap → List Loc → Prop) : Prop :=
  MetFree l y (head1 (Jvm.Cond.code y bytes maxL ret :: ws) rm) (fun a U => a = as' ∧ Z.Warmed39 U.vm ∧ U.heap = h) (fun _ _ _ _ _ => True) (fun _ U o U' => ∃ v L, o = .returned v ∧ Q v U'.heap L ∧ FrameEnd U o U' L rm.cells rm.slots)
theorem own_body {y : MethodName} {bytes : ByteArray} {maxL : Nat} {ret : Option FieldType} {ws : List Jvm.Cond} {rm : Room} {as' : Array Value} {h0 : Heap} {Q : Option Value → Heap → List Loc → Prop} {g : MethodId → JFrame}
    (hp : plainFor y = true) (hef : ∀ m, entryFrame m as' maxL = g m)
    (H : ∀ (p : Program) (e : Env) (s : State) (m : MethodId) (A : Array Value) (below : List Frame) (meth : Method) (c : Code) (T : State) (K : State → Prop), Stand p l e rm s m A below meth c T [] 0 0 → p.tables.exec = Jvm.exec → c.code = bytes → c.maxLocals = maxL → s.vm.findClass y.cls = some m.cls → meth.name = y.name → meth.sig.returnType = ret → meth.locks = false → Z.Warmed39 s.vm → T.heap = h0 → (∀ t, own_End s below Q rm.cells rm.slots t → K t) → own_Go p e below K T (g m)) :
    own_Met l Z y bytes maxL ret ws rm as' h0 Q := by
  refine MetFree.of_bodySF hp hisR ?_
  intro p e s m args below meth c s₁ Bd hml0 hP hK
  obtain ⟨rfl, hZ, hh⟩ := hP
  have e0 : s₁.heap = h0 := by rw [← hh, Bd.state]; rfl
  obtain ⟨t, h1, o, h2, h3, h4⟩ := H p e s m args below meth c s₁ _ (Stand.of_body Bd) Bd.exec Bd.bytes hml0 (findClass_of_methodNamed Bd.named) (name_of_methodNamed Bd.named Bd.method).1 Bd.returns Bd.notSynchronized hZ e0 (fun _ q => q)
  exact ⟨t, o, castTop (hef m) h1, h2, h3, h4⟩
theorem own_ret {Q : Option Value → Heap → List Loc → Prop} {C N : Nat} (X : Stand p l e R s m args below meth c T locs cells slots) (hx : p.tables.exec = Jvm.exec) (hlk : meth.locks = false) (hK : ∀ t, own_End s below Q C N t → K t) {pc : Nat} {Ls : Array Slot} {w : Value} {t : FieldType} {i : Instr} {rest : List Value} (hret : meth.sig.returnType = some t) (hn : narrow t w = w)
    (hi : (i = .ireturn ∧ (t = .int ∨ t = .boolean ∨ t = .byte ∨ t = .char ∨ t = .short) ∧ ∃ z, w = .int z) ∨ (i = .lreturn ∧ t = .long ∧ ∃ z, w = .long z) ∨ (i = .dreturn ∧ t = .double ∧ ∃ z, w = .double z) ∨ (i = .freturn ∧ t = .float ∧ ∃ z, w = .float z) ∨ (i = .areturn ∧ t.isReference = true ∧ w.isRef = true))
    (hd : decode c.code pc = .ok (i, 1)) (hC : cells ≤ C) (hN : slots ≤ N) (hQ : Q (some w) T.heap locs) : own_Go p e below K T (mkF m pc Ls (w :: rest)) := by
  obtain ⟨fs, hr, hrun, hended, hW, hsame⟩ := X.leave (v := some w) (fun h => by rw [hret] at h; cases h) hlk
  exact ⟨_, retOut X hx hret hn hi hd hr, hK _ ⟨_, hrun, hended, _, _, rfl, hQ, ⟨_, rfl⟩, hW, hsame.mono hC hN⟩⟩
theorem own_retI {Q : Option Value → Heap → List Loc → Prop} {C N : Nat} (X : Stand p l e R s m args below meth c T locs cells slots) (hx : p.tables.exec = Jvm.exec) (hlk : meth.locks = false) (hK : ∀ t, own_End s below Q C N t → K t) {pc : Nat} {Ls : Array Slot} {z : Int32} {rest : List Value} (hret : meth.sig.returnType = some .int)
    (hd : decode c.code pc = .ok (.ireturn, 1)) (hC : cells ≤ C) (hN : slots ≤ N) (hQ : Q (some (.int z)) T.heap locs) : own_Go p e below K T (mkF m pc Ls (.int z :: rest)) :=
  own_ret X hx hlk hK hret rfl (Or.inl ⟨rfl, Or.inl rfl, z, rfl⟩) hd hC hN hQ
theorem own_retZ {Q : Option Value → Heap → List Loc → Prop} {C N : Nat} (X : Stand p l e R s m args below meth c T locs cells slots) (hx : p.tables.exec = Jvm.exec) (hlk : meth.locks = false) (hK : ∀ t, own_End s below Q C N t → K t) {pc : Nat} {Ls : Array Slot} {z : Int32} {rest : List Value} (hret : meth.sig.returnType = some .boolean) (hz : z &&& 1 = z)
    (hd : decode c.code pc = .ok (.ireturn, 1)) (hC : cells ≤ C) (hN : slots ≤ N) (hQ : Q (some (.int z)) T.heap locs) : own_Go p e below K T (mkF m pc Ls (.int z :: rest)) :=
  own_ret X hx hlk hK hret (by show Value.int (z &&& 1) = _; rw [hz]) (Or.inl ⟨rfl, Or.inr (Or.inl rfl), z, rfl⟩) hd hC hN hQ
theorem own_retR {Q : Option Value → Heap → List Loc → Prop} {C N : Nat} (X : Stand p l e R s m args below meth c T locs cells slots) (hx : p.tables.exec = Jvm.exec) (hlk : meth.locks = false) (hK : ∀ t, own_End s below Q C N t → K t) {pc : Nat} {Ls : Array Slot} {w : Value} {t : FieldType} {rest : List Value} (hret : meth.sig.returnType = some t) (ht : t.isReference = true) (hw : w.isRef = true)
    (hd : decode c.code pc = .ok (.areturn, 1)) (hC : cells ≤ C) (hN : slots ≤ N) (hQ : Q (some w) T.heap locs) : own_Go p e below K T (mkF m pc Ls (w :: rest)) :=
  own_ret X hx hlk hK hret (by cases t <;> first | (cases ht; done) | rfl) (Or.inr (Or.inr (Or.inr (Or.inr ⟨rfl, ht, hw⟩)))) hd hC hN hQ
theorem own_retV {Q : Option Value → Heap → List Loc → Prop} {C N : Nat} (X : Stand p l e R s m args below meth c T locs cells slots) (hx : p.tables.exec = Jvm.exec) (hlk : meth.locks = false) (hK : ∀ t, own_End s below Q C N t → K t) {pc : Nat} {Ls : Array Slot} (hret : meth.sig.returnType = none)
    (hd : decode c.code pc = .ok (.return_, 1)) (hC : cells ≤ C) (hN : slots ≤ N) (hQ : Q none T.heap locs) : own_Go p e below K T (mkF m pc Ls []) := by
  obtain ⟨fs, hr, hrun, hended, hW, hsame⟩ := X.leave (v := none) (fun _ => rfl) hlk
  exact ⟨_, X.returnOut hx hret hd hr, hK _ ⟨_, hrun, hended, _, _, rfl, hQ, ⟨_, rfl⟩, hW, hsame.mono hC hN⟩⟩
theorem own_callS (X : Stand p l e R s m args below meth c T locs cells slots) (hx : p.tables.exec = Jvm.exec) (hZ : Z.Warmed39 s.vm) {own : String} {index : Nat} {y : MethodName} {bytes : ByteArray} {maxL : Nat} {ret : Option FieldType}
    (hown : s.vm.findClass own = some m.cls) (wl : (Jvm.Cond.methodLink own index y).before a0 Z = true) (wt : (Jvm.Cond.static y).before a0 Z = true) (wz : (Jvm.Cond.initialized y.cls).before a0 Z = true) (wc : (Jvm.Cond.code y bytes maxL ret).before a0 Z = true)
    (hy : y.cls ≠ "java/lang/invoke/MethodHandle" ∧ y.cls ≠ "java/lang/invoke/VarHandle") (eT : T.heap = h) {rm : Room} {Q : Option Value → Heap → List Loc → Prop} {argsL rest : List Value} (hM : own_Met l Z y bytes maxL ret [] rm argsL.toArray h Q)
    {W : Nat} (hf : rm.frames + 1 ≤ R.frames) (hl : W + (maxL + 11) + rm.locals ≤ R.locals) (hc : cells + rm.cells ≤ R.cells) (hs : slots + rm.slots ≤ R.slots)
    {g : JFrame} (hg : g.method = m) (hsize : g.locals.size = c.maxLocals) (hlen : ∀ sig, parseMethodDescriptor y.desc = some sig → argsL.length = sig.parameters.length)
    (hstack : g.stack = argsL.reverse ++ rest) (hW : 2 * g.monitorRoom + (rest.map fun v => v.category).sum ≤ W) (hd : decode c.code g.pc = .ok (.invokestatic index, 3))
    (k : ∀ (v : Option Value) (T' : State) (L : List Loc), Stand p l e R s m args below meth c T' (locs ++ L) (cells + rm.cells) (slots + rm.slots) → Q v T'.heap L → own_Go p e below K T' { g with pc := g.pc + 3, stack := v.toList ++ rest }) : own_Go p e below K T g := by
  obtain ⟨v, vm₁, ⟨T', L', k', n'⟩, -, X', ⟨L, hQ, hl', hk', hn'⟩, st⟩ := Jvm.LawKit.callS X hx (y := y) hown (mvT hZ wl) (mvT hZ wt) (mvT hZ wz) (mvT hZ wc) hy (backOf (W := W) hM hZ wc wz hf hl) (g := g) hg hsize (argsL := argsL) (rest := rest) hlen hstack hW hd (fun _ _ => ⟨rfl, eT, hc, hs⟩)
  dsimp only [Pt.U, Pt.locs, Pt.cells, Pt.slots] at X' hl' hk' hn' st hQ
  subst hl' hk' hn'
  exact own_go st (k v T' L X' hQ)
theorem own_callI (X : Stand p l e R s m args below meth c T locs cells slots) (hx : p.tables.exec = Jvm.exec) (hZ : Z.Warmed39 s.vm) {own : String} {index : Nat} {y : MethodName} (hy1 : y.name = "<init>") {bytes : ByteArray} {maxL : Nat}
    (hown : s.vm.findClass own = some m.cls) (wl : (Jvm.Cond.methodLink own index y).before a0 Z = true) (wt : (Jvm.Cond.instanceMethod y).before a0 Z = true) (wz : (Jvm.Cond.initialized y.cls).before a0 Z = true) (wc : (Jvm.Cond.code y bytes maxL none).before a0 Z = true)
    (hy : y.cls ≠ "java/lang/invoke/MethodHandle" ∧ y.cls ≠ "java/lang/invoke/VarHandle") (eT : T.heap = h) {rm : Room} {Q : Option Value → Heap → List Loc → Prop} {a : Addr} {argsL rest : List Value} (hM : own_Met l Z y bytes maxL none [] rm (.ref a :: argsL).toArray h Q)
    {W : Nat} (hf : rm.frames + 1 ≤ R.frames) (hl : W + (maxL + 11) + rm.locals ≤ R.locals) (hc : cells + rm.cells ≤ R.cells) (hs : slots + rm.slots ≤ R.slots)
    {g : JFrame} (hg : g.method = m) (hsize : g.locals.size = c.maxLocals) (hlen : ∀ sig, parseMethodDescriptor y.desc = some sig → argsL.length = sig.parameters.length)
    (hstack : g.stack = argsL.reverse ++ .ref a :: rest) (hW : 2 * g.monitorRoom + (rest.map fun v => v.category).sum ≤ W) (hd : decode c.code g.pc = .ok (.invokespecial index, 3))
    (k : ∀ (v : Option Value) (T' : State) (L : List Loc), Stand p l e R s m args below meth c T' (locs ++ L) (cells + rm.cells) (slots + rm.slots) → Q v T'.heap L → own_Go p e below K T' { g with pc := g.pc + 3, stack := v.toList ++ rest }) : own_Go p e below K T g := by
  obtain ⟨v, vm₁, ⟨T', L', k', n'⟩, -, X', ⟨L, hQ, hl', hk', hn'⟩, st⟩ := X.specialBack hx (y := y) hy1 hown (mvT hZ wl) (mvT hZ wt) (mvT hZ wc) hy (backOf (W := W) hM hZ wc wz hf hl) (g := g) hg hsize (Steps.refl _) (a := a) (argsL := argsL) (rest := rest) hlen hstack hW hd (fun _ _ => ⟨rfl, eT, hc, hs⟩)
  dsimp only [Pt.U, Pt.locs, Pt.cells, Pt.slots] at X' hl' hk' hn' st hQ
  subst hl' hk' hn'
  exact own_go (fun _ q => st.trans q) (k v T' L X' hQ)
theorem own_callV (X : Stand p l e R s m args below meth c T locs cells slots) (hx : p.tables.exec = Jvm.exec) (hZ : Z.Warmed39 s.vm) {own C : String} {index : Nat} {y z : MethodName} {bytes : ByteArray} {maxL : Nat} {ret : Option FieldType}
    (hown : s.vm.findClass own = some m.cls) (wl : (Jvm.Cond.methodLink own index y).before a0 Z = true) (wd : (Jvm.Cond.declares y).before a0 Z = true) (hnf : NotFace s y) (wsel : (Jvm.Cond.selects C y z).before a0 Z = true) (wt : (Jvm.Cond.instanceMethod z).before a0 Z = true) (wz : (Jvm.Cond.initialized z.cls).before a0 Z = true) (wc : (Jvm.Cond.code z bytes maxL ret).before a0 Z = true)
    (hy : y.cls ≠ "java/lang/invoke/MethodHandle" ∧ y.cls ≠ "java/lang/invoke/VarHandle") (eT : T.heap = h) {rm : Room} {Q : Option Value → Heap → List Loc → Prop} {a : Addr} (E : Exa Z h a C) {argsL rest : List Value} (hM : own_Met l Z z bytes maxL ret [] rm (.ref a :: argsL).toArray h Q)
    {W : Nat} (hf : rm.frames + 1 ≤ R.frames) (hl : W + (maxL + 11) + rm.locals ≤ R.locals) (hc : cells + rm.cells ≤ R.cells) (hs : slots + rm.slots ≤ R.slots)
    {g : JFrame} (hg : g.method = m) (hsize : g.locals.size = c.maxLocals) (hlen : ∀ sig, parseMethodDescriptor y.desc = some sig → argsL.length = sig.parameters.length)
    (hstack : g.stack = argsL.reverse ++ .ref a :: rest) (hW : 2 * g.monitorRoom + (rest.map fun v => v.category).sum ≤ W) (hd : decode c.code g.pc = .ok (.invokevirtual index, 3))
    (k : ∀ (v : Option Value) (T' : State) (L : List Loc), Stand p l e R s m args below meth c T' (locs ++ L) (cells + rm.cells) (slots + rm.slots) → Q v T'.heap L → own_Go p e below K T' { g with pc := g.pc + 3, stack := v.toList ++ rest }) : own_Go p e below K T g := by
  obtain ⟨cq, kq, qa, qb, qc⟩ := isOf hZ eT E
  obtain ⟨v, vm₁, ⟨T', L', k', n'⟩, -, X', ⟨L, hQ, hl', hk', hn'⟩, st⟩ := X.virtualBack hx (y := y) (z := z) hown (mvT hZ wl) (mvT hZ wd) hnf (mvT hZ wsel) (mvT hZ wt) hy (backOf (W := W) hM hZ wc wz hf hl) qa qc (g := g) hg hsize (Steps.refl _) (argsL := argsL) (rest := rest) hlen hstack hW hd (fun _ _ => ⟨rfl, eT, hc, hs⟩)
  dsimp only [Pt.U, Pt.locs, Pt.cells, Pt.slots] at X' hl' hk' hn' st hQ
  subst hl' hk' hn'
  exact own_go (fun _ q => st.trans q) (k v T' L X' hQ)
theorem own_callF (X : Stand p l e R s m args below meth c T locs cells slots) (hx : p.tables.exec = Jvm.exec) (hZ : Z.Warmed39 s.vm) {own C : String} {index count : Nat} {xi z : MethodName} {bytes : ByteArray} {maxL : Nat} {ret : Option FieldType}
    (hown : s.vm.findClass own = some m.cls) (wl : (Jvm.Cond.methodLink own index xi).before a0 Z = true) (wd : (Jvm.Cond.declares xi).before a0 Z = true) (wf : (Jvm.Cond.interfaceMethod xi.cls xi.cls xi.name xi.desc).before args s = true) (wsel : (Jvm.Cond.selects C xi z).before a0 Z = true) (wt : (Jvm.Cond.instanceMethod z).before a0 Z = true)
    (wp : (Jvm.Cond.publicMethod z).before a0 Z = true) (wu : (Jvm.Cond.unhidden C xi.name xi.desc).before a0 Z = true) (wk : (Jvm.Cond.castable C xi.cls).before a0 Z = true) (wz : (Jvm.Cond.initialized z.cls).before a0 Z = true) (wc : (Jvm.Cond.code z bytes maxL ret).before a0 Z = true)
    (hy : xi.cls ≠ "java/lang/invoke/MethodHandle" ∧ xi.cls ≠ "java/lang/invoke/VarHandle") (eT : T.heap = h) {rm : Room} {Q : Option Value → Heap → List Loc → Prop} {a : Addr} (E : Exa Z h a C) {argsL rest : List Value} (hM : own_Met l Z z bytes maxL ret [] rm (.ref a :: argsL).toArray h Q)
    {W : Nat} (hf : rm.frames + 1 ≤ R.frames) (hl : W + (maxL + 11) + rm.locals ≤ R.locals) (hc : cells + rm.cells ≤ R.cells) (hs : slots + rm.slots ≤ R.slots)
    {g : JFrame} (hg : g.method = m) (hsize : g.locals.size = c.maxLocals) (hlen : ∀ sig, parseMethodDescriptor xi.desc = some sig → argsL.length = sig.parameters.length)
    (hstack : g.stack = argsL.reverse ++ .ref a :: rest) (hW : 2 * g.monitorRoom + (rest.map fun v => v.category).sum ≤ W) (hd : decode c.code g.pc = .ok (.invokeinterface index count, 5))
    (k : ∀ (v : Option Value) (T' : State) (L : List Loc), Stand p l e R s m args below meth c T' (locs ++ L) (cells + rm.cells) (slots + rm.slots) → Q v T'.heap L → own_Go p e below K T' { g with pc := g.pc + 5, stack := v.toList ++ rest }) : own_Go p e below K T g := by
  obtain ⟨cq, kq, qa, qb, qc⟩ := isOf hZ eT E
  obtain ⟨v, vm₁, ⟨T', L', k', n'⟩, -, X', ⟨L, hQ, hl', hk', hn'⟩, st⟩ := X.interfaceBack hx (xi := xi) (y := z) hown (mvT hZ wl) (mvT hZ wd) wf (mvT hZ wsel) (mvT hZ wt) (mvT hZ wp) (mvT hZ wu) (mvT hZ wk) hy (backOf (W := W) hM hZ wc wz hf hl) qa qb qc (g := g) hg hsize (Steps.refl _) (argsL := argsL) (rest := rest) hlen hstack hW hd (fun _ _ => ⟨rfl, eT, hc, hs⟩)
  dsimp only [Pt.U, Pt.locs, Pt.cells, Pt.slots] at X' hl' hk' hn' st hQ
  subst hl' hk' hn'
  exact own_go (fun _ q => st.trans q) (k v T' L X' hQ)
theorem own_callP (X : Stand p l e R s m args below meth c T locs cells slots) (hx : p.tables.exec = Jvm.exec) (hZ : Z.Warmed39 s.vm) {own : String} {index : Nat} {y : MethodName} {bytes : ByteArray} {maxL : Nat} {ret : Option FieldType}
    (hown : s.vm.findClass own = some m.cls) (wl : (Jvm.Cond.methodLink own index y).before a0 Z = true) (wt : (Jvm.Cond.instanceMethod y).before a0 Z = true) (wsel : (Jvm.Cond.selects y.cls y y).before a0 Z = true) (wp : (Jvm.Cond.privateMethod y).before a0 Z = true) (wz : (Jvm.Cond.initialized y.cls).before a0 Z = true) (wc : (Jvm.Cond.code y bytes maxL ret).before a0 Z = true)
    (hy : y.cls ≠ "java/lang/invoke/MethodHandle" ∧ y.cls ≠ "java/lang/invoke/VarHandle") (eT : T.heap = h) {rm : Room} {Q : Option Value → Heap → List Loc → Prop} {a : Addr} {C : String} (E : Exa Z h a C) {argsL rest : List Value} (hM : own_Met l Z y bytes maxL ret [] rm (.ref a :: argsL).toArray h Q)
    {W : Nat} (hf : rm.frames + 1 ≤ R.frames) (hl : W + (maxL + 11) + rm.locals ≤ R.locals) (hc : cells + rm.cells ≤ R.cells) (hs : slots + rm.slots ≤ R.slots)
    {g : JFrame} (hg : g.method = m) (hsize : g.locals.size = c.maxLocals) (hlen : ∀ sig, parseMethodDescriptor y.desc = some sig → argsL.length = sig.parameters.length)
    (hstack : g.stack = argsL.reverse ++ .ref a :: rest) (hW : 2 * g.monitorRoom + (rest.map fun v => v.category).sum ≤ W) (hd : decode c.code g.pc = .ok (.invokevirtual index, 3))
    (k : ∀ (v : Option Value) (T' : State) (L : List Loc), Stand p l e R s m args below meth c T' (locs ++ L) (cells + rm.cells) (slots + rm.slots) → Q v T'.heap L → own_Go p e below K T' { g with pc := g.pc + 3, stack := v.toList ++ rest }) : own_Go p e below K T g := by
  obtain ⟨cq, q1, q2⟩ := E.cell
  obtain ⟨v, vm₁, ⟨T', L', k', n'⟩, -, X', ⟨L, hQ, hl', hk', hn'⟩, st⟩ := X.privateBack hx (y := y) hown (mvT hZ wl) (mvT hZ wt) (mvT hZ wsel) (Cond.privateMethod_at (mvP hZ wp (args := #[]))) (mvT hZ wc) hy (backOf (W := W) hM hZ wc wz hf hl) (g := g) hg hsize (Steps.refl _) (a := a) (by rw [eT]; exact q1) q2 (argsL := argsL) (rest := rest) hlen hstack hW hd (fun _ _ => ⟨rfl, eT, hc, hs⟩)
  dsimp only [Pt.U, Pt.locs, Pt.cells, Pt.slots] at X' hl' hk' hn' st hQ
  subst hl' hk' hn'
  exact own_go (fun _ q => st.trans q) (k v T' L X' hQ)
theorem own_ins_keep {h h' : Heap} {a : Addr} {C : String} {b : Bool} {ws : List Addr} (F : Ins Z h a C b) (K : Keep h h' ws) : Ins Z h' a C b := by
  obtain ⟨cell, cT, h1, h2, h3⟩ := F
  obtain ⟨c', q1, q2, q3, -⟩ := K.2.2 _ _ h1
  exact ⟨c', cT, q1, h2, by rw [q2, q3]; exact h3⟩
theorem own_ne_arv {h : Heap} {a b : Addr} {C : String} {n : Nat} {k : ClassId} {ty : FieldType} {z : Int32} {vs : List Value} {d : Value} (F : Exa Z h a C) (wi : (Jvm.Cond.instantiable C n).before a0 Z = true) (G : Arv Z h b k ty z vs d) : a ≠ b := by
  obtain ⟨c, A, -⟩ := G
  exact ne_arr F wi A
end OwnLayer
theorem own_d1_0 : decode prog_15_method_4_code 0 = .ok (.ldc2_w 41, 3) := by decide +kernel
theorem own_d1_3 : decode prog_15_method_4_code 3 = .ok (.iload_n 0, 1) := by decide +kernel
theorem own_d1_4 : decode prog_15_method_4_code 4 = .ok (.i2l, 1) := by decide +kernel
theorem own_d1_5 : decode prog_15_method_4_code 5 = .ok (.lmul, 1) := by decide +kernel
theorem own_d1_6 : decode prog_15_method_4_code 6 = .ok (.ldc2_w 43, 3) := by decide +kernel
theorem own_d1_9 : decode prog_15_method_4_code 9 = .ok (.iload_n 1, 1) := by decide +kernel
theorem own_d1_10 : decode prog_15_method_4_code 10 = .ok (.i2l, 1) := by decide +kernel
theorem own_d1_11 : decode prog_15_method_4_code 11 = .ok (.lmul, 1) := by decide +kernel
theorem own_d1_12 : decode prog_15_method_4_code 12 = .ok (.lcmp, 1) := by decide +kernel
theorem own_d1_13 : decode prog_15_method_4_code 13 = .ok (.ifCond .ge 10, 3) := by decide +kernel
theorem own_d1_16 : decode prog_15_method_4_code 16 = .ok (.getstatic 7, 3) := by decide +kernel
theorem own_d1_19 : decode prog_15_method_4_code 19 = .ok (.astore_n 2, 1) := by decide +kernel
theorem own_d1_20 : decode prog_15_method_4_code 20 = .ok (.goto 131, 3) := by decide +kernel
theorem own_d1_23 : decode prog_15_method_4_code 23 = .ok (.ldc2_w 45, 3) := by decide +kernel
theorem own_d1_26 : decode prog_15_method_4_code 26 = .ok (.iload_n 0, 1) := by decide +kernel
theorem own_d1_27 : decode prog_15_method_4_code 27 = .ok (.i2l, 1) := by decide +kernel
theorem own_d1_28 : decode prog_15_method_4_code 28 = .ok (.lmul, 1) := by decide +kernel
theorem own_d1_29 : decode prog_15_method_4_code 29 = .ok (.ldc2_w 47, 3) := by decide +kernel
theorem own_d1_32 : decode prog_15_method_4_code 32 = .ok (.iload_n 1, 1) := by decide +kernel
theorem own_d1_33 : decode prog_15_method_4_code 33 = .ok (.i2l, 1) := by decide +kernel
theorem own_d1_34 : decode prog_15_method_4_code 34 = .ok (.lmul, 1) := by decide +kernel
theorem own_d1_35 : decode prog_15_method_4_code 35 = .ok (.lcmp, 1) := by decide +kernel
theorem own_d1_36 : decode prog_15_method_4_code 36 = .ok (.ifCond .lt 26, 3) := by decide +kernel
theorem own_d1_39 : decode prog_15_method_4_code 39 = .ok (.ldc2_w 45, 3) := by decide +kernel
theorem own_d1_42 : decode prog_15_method_4_code 42 = .ok (.iload_n 0, 1) := by decide +kernel
theorem own_d1_43 : decode prog_15_method_4_code 43 = .ok (.i2l, 1) := by decide +kernel
theorem own_d1_44 : decode prog_15_method_4_code 44 = .ok (.lmul, 1) := by decide +kernel
theorem own_d1_45 : decode prog_15_method_4_code 45 = .ok (.ldc2_w 49, 3) := by decide +kernel
theorem own_d1_48 : decode prog_15_method_4_code 48 = .ok (.iload_n 1, 1) := by decide +kernel
theorem own_d1_49 : decode prog_15_method_4_code 49 = .ok (.i2l, 1) := by decide +kernel
theorem own_d1_50 : decode prog_15_method_4_code 50 = .ok (.lmul, 1) := by decide +kernel
theorem own_d1_51 : decode prog_15_method_4_code 51 = .ok (.lcmp, 1) := by decide +kernel
theorem own_d1_52 : decode prog_15_method_4_code 52 = .ok (.ifCond .gt 10, 3) := by decide +kernel
theorem own_d1_55 : decode prog_15_method_4_code 55 = .ok (.getstatic 10, 3) := by decide +kernel
theorem own_d1_58 : decode prog_15_method_4_code 58 = .ok (.astore_n 2, 1) := by decide +kernel
theorem own_d1_59 : decode prog_15_method_4_code 59 = .ok (.goto 92, 3) := by decide +kernel
theorem own_d1_62 : decode prog_15_method_4_code 62 = .ok (.ldc2_w 45, 3) := by decide +kernel
theorem own_d1_65 : decode prog_15_method_4_code 65 = .ok (.iload_n 0, 1) := by decide +kernel
theorem own_d1_66 : decode prog_15_method_4_code 66 = .ok (.i2l, 1) := by decide +kernel
theorem own_d1_67 : decode prog_15_method_4_code 67 = .ok (.lmul, 1) := by decide +kernel
theorem own_d1_68 : decode prog_15_method_4_code 68 = .ok (.ldc2_w 51, 3) := by decide +kernel
theorem own_d1_71 : decode prog_15_method_4_code 71 = .ok (.iload_n 1, 1) := by decide +kernel
theorem own_d1_72 : decode prog_15_method_4_code 72 = .ok (.i2l, 1) := by decide +kernel
theorem own_d1_73 : decode prog_15_method_4_code 73 = .ok (.lmul, 1) := by decide +kernel
theorem own_d1_74 : decode prog_15_method_4_code 74 = .ok (.lcmp, 1) := by decide +kernel
theorem own_d1_75 : decode prog_15_method_4_code 75 = .ok (.ifCond .lt 10, 3) := by decide +kernel
theorem own_d1_78 : decode prog_15_method_4_code 78 = .ok (.getstatic 13, 3) := by decide +kernel
theorem own_d1_81 : decode prog_15_method_4_code 81 = .ok (.astore_n 2, 1) := by decide +kernel
theorem own_d1_82 : decode prog_15_method_4_code 82 = .ok (.goto 69, 3) := by decide +kernel
theorem own_d1_85 : decode prog_15_method_4_code 85 = .ok (.ldc2_w 45, 3) := by decide +kernel
theorem own_d1_88 : decode prog_15_method_4_code 88 = .ok (.iload_n 0, 1) := by decide +kernel
theorem own_d1_89 : decode prog_15_method_4_code 89 = .ok (.i2l, 1) := by decide +kernel
theorem own_d1_90 : decode prog_15_method_4_code 90 = .ok (.lmul, 1) := by decide +kernel
theorem own_d1_91 : decode prog_15_method_4_code 91 = .ok (.ldc2_w 53, 3) := by decide +kernel
theorem own_d1_94 : decode prog_15_method_4_code 94 = .ok (.iload_n 1, 1) := by decide +kernel
theorem own_d1_95 : decode prog_15_method_4_code 95 = .ok (.i2l, 1) := by decide +kernel
theorem own_d1_96 : decode prog_15_method_4_code 96 = .ok (.lmul, 1) := by decide +kernel
theorem own_d1_97 : decode prog_15_method_4_code 97 = .ok (.lcmp, 1) := by decide +kernel
theorem own_d1_98 : decode prog_15_method_4_code 98 = .ok (.ifCond .lt 26, 3) := by decide +kernel
theorem own_d1_101 : decode prog_15_method_4_code 101 = .ok (.ldc2_w 45, 3) := by decide +kernel
theorem own_d1_104 : decode prog_15_method_4_code 104 = .ok (.iload_n 0, 1) := by decide +kernel
theorem own_d1_105 : decode prog_15_method_4_code 105 = .ok (.i2l, 1) := by decide +kernel
theorem own_d1_106 : decode prog_15_method_4_code 106 = .ok (.lmul, 1) := by decide +kernel
theorem own_d1_107 : decode prog_15_method_4_code 107 = .ok (.ldc2_w 47, 3) := by decide +kernel
theorem own_d1_110 : decode prog_15_method_4_code 110 = .ok (.iload_n 1, 1) := by decide +kernel
theorem own_d1_111 : decode prog_15_method_4_code 111 = .ok (.i2l, 1) := by decide +kernel
theorem own_d1_112 : decode prog_15_method_4_code 112 = .ok (.lmul, 1) := by decide +kernel
theorem own_d1_113 : decode prog_15_method_4_code 113 = .ok (.lcmp, 1) := by decide +kernel
theorem own_d1_114 : decode prog_15_method_4_code 114 = .ok (.ifCond .ge 10, 3) := by decide +kernel
theorem own_d1_117 : decode prog_15_method_4_code 117 = .ok (.getstatic 3, 3) := by decide +kernel
theorem own_d1_120 : decode prog_15_method_4_code 120 = .ok (.astore_n 2, 1) := by decide +kernel
theorem own_d1_121 : decode prog_15_method_4_code 121 = .ok (.goto 30, 3) := by decide +kernel
theorem own_d1_124 : decode prog_15_method_4_code 124 = .ok (.ldc2_w 45, 3) := by decide +kernel
theorem own_d1_127 : decode prog_15_method_4_code 127 = .ok (.iload_n 0, 1) := by decide +kernel
theorem own_d1_128 : decode prog_15_method_4_code 128 = .ok (.i2l, 1) := by decide +kernel
theorem own_d1_129 : decode prog_15_method_4_code 129 = .ok (.lmul, 1) := by decide +kernel
theorem own_d1_130 : decode prog_15_method_4_code 130 = .ok (.ldc2_w 53, 3) := by decide +kernel
theorem own_d1_133 : decode prog_15_method_4_code 133 = .ok (.iload_n 1, 1) := by decide +kernel
theorem own_d1_134 : decode prog_15_method_4_code 134 = .ok (.i2l, 1) := by decide +kernel
theorem own_d1_135 : decode prog_15_method_4_code 135 = .ok (.lmul, 1) := by decide +kernel
theorem own_d1_136 : decode prog_15_method_4_code 136 = .ok (.lcmp, 1) := by decide +kernel
theorem own_d1_137 : decode prog_15_method_4_code 137 = .ok (.ifCond .ge 10, 3) := by decide +kernel
theorem own_d1_140 : decode prog_15_method_4_code 140 = .ok (.getstatic 19, 3) := by decide +kernel
theorem own_d1_143 : decode prog_15_method_4_code 143 = .ok (.astore_n 2, 1) := by decide +kernel
theorem own_d1_144 : decode prog_15_method_4_code 144 = .ok (.goto 7, 3) := by decide +kernel
theorem own_d1_147 : decode prog_15_method_4_code 147 = .ok (.getstatic 16, 3) := by decide +kernel
theorem own_d1_150 : decode prog_15_method_4_code 150 = .ok (.astore_n 2, 1) := by decide +kernel
theorem own_d1_151 : decode prog_15_method_4_code 151 = .ok (.aload_n 2, 1) := by decide +kernel
theorem own_d1_152 : decode prog_15_method_4_code 152 = .ok (.areturn, 1) := by decide +kernel
theorem own_d2_0 : decode method_3_code 0 = .ok (.ldc2_w 19, 3) := by decide +kernel
theorem own_d2_3 : decode method_3_code 3 = .ok (.iload_n 0, 1) := by decide +kernel
theorem own_d2_4 : decode method_3_code 4 = .ok (.i2l, 1) := by decide +kernel
theorem own_d2_5 : decode method_3_code 5 = .ok (.lmul, 1) := by decide +kernel
theorem own_d2_6 : decode method_3_code 6 = .ok (.lstore_n 2, 1) := by decide +kernel
theorem own_d2_7 : decode method_3_code 7 = .ok (.iload_n 1, 1) := by decide +kernel
theorem own_d2_8 : decode method_3_code 8 = .ok (.i2l, 1) := by decide +kernel
theorem own_d2_9 : decode method_3_code 9 = .ok (.lstore 4, 2) := by decide +kernel
theorem own_d2_11 : decode method_3_code 11 = .ok (.lload_n 2, 1) := by decide +kernel
theorem own_d2_12 : decode method_3_code 12 = .ok (.ldc2_w 21, 3) := by decide +kernel
theorem own_d2_15 : decode method_3_code 15 = .ok (.lload 4, 2) := by decide +kernel
theorem own_d2_17 : decode method_3_code 17 = .ok (.lmul, 1) := by decide +kernel
theorem own_d2_18 : decode method_3_code 18 = .ok (.lcmp, 1) := by decide +kernel
theorem own_d2_19 : decode method_3_code 19 = .ok (.ifCond .ge 7, 3) := by decide +kernel
theorem own_d2_22 : decode method_3_code 22 = .ok (.getstatic 23, 3) := by decide +kernel
theorem own_d2_25 : decode method_3_code 25 = .ok (.areturn, 1) := by decide +kernel
theorem own_d2_26 : decode method_3_code 26 = .ok (.lload_n 2, 1) := by decide +kernel
theorem own_d2_27 : decode method_3_code 27 = .ok (.ldc2_w 27, 3) := by decide +kernel
theorem own_d2_30 : decode method_3_code 30 = .ok (.lload 4, 2) := by decide +kernel
theorem own_d2_32 : decode method_3_code 32 = .ok (.lmul, 1) := by decide +kernel
theorem own_d2_33 : decode method_3_code 33 = .ok (.lcmp, 1) := by decide +kernel
theorem own_d2_34 : decode method_3_code 34 = .ok (.ifCond .ge 7, 3) := by decide +kernel
theorem own_d2_37 : decode method_3_code 37 = .ok (.getstatic 29, 3) := by decide +kernel
theorem own_d2_40 : decode method_3_code 40 = .ok (.areturn, 1) := by decide +kernel
theorem own_d2_41 : decode method_3_code 41 = .ok (.lload_n 2, 1) := by decide +kernel
theorem own_d2_42 : decode method_3_code 42 = .ok (.ldc2_w 32, 3) := by decide +kernel
theorem own_d2_45 : decode method_3_code 45 = .ok (.lload 4, 2) := by decide +kernel
theorem own_d2_47 : decode method_3_code 47 = .ok (.lmul, 1) := by decide +kernel
theorem own_d2_48 : decode method_3_code 48 = .ok (.lcmp, 1) := by decide +kernel
theorem own_d2_49 : decode method_3_code 49 = .ok (.ifCond .ge 7, 3) := by decide +kernel
theorem own_d2_52 : decode method_3_code 52 = .ok (.getstatic 34, 3) := by decide +kernel
theorem own_d2_55 : decode method_3_code 55 = .ok (.areturn, 1) := by decide +kernel
theorem own_d2_56 : decode method_3_code 56 = .ok (.lload_n 2, 1) := by decide +kernel
theorem own_d2_57 : decode method_3_code 57 = .ok (.ldc2_w 37, 3) := by decide +kernel
theorem own_d2_60 : decode method_3_code 60 = .ok (.lload 4, 2) := by decide +kernel
theorem own_d2_62 : decode method_3_code 62 = .ok (.lmul, 1) := by decide +kernel
theorem own_d2_63 : decode method_3_code 63 = .ok (.lcmp, 1) := by decide +kernel
theorem own_d2_64 : decode method_3_code 64 = .ok (.ifCond .gt 7, 3) := by decide +kernel
theorem own_d2_67 : decode method_3_code 67 = .ok (.getstatic 39, 3) := by decide +kernel
theorem own_d2_70 : decode method_3_code 70 = .ok (.areturn, 1) := by decide +kernel
theorem own_d2_71 : decode method_3_code 71 = .ok (.lload_n 2, 1) := by decide +kernel
theorem own_d2_72 : decode method_3_code 72 = .ok (.ldc2_w 42, 3) := by decide +kernel
theorem own_d2_75 : decode method_3_code 75 = .ok (.lload 4, 2) := by decide +kernel
theorem own_d2_77 : decode method_3_code 77 = .ok (.lmul, 1) := by decide +kernel
theorem own_d2_78 : decode method_3_code 78 = .ok (.lcmp, 1) := by decide +kernel
theorem own_d2_79 : decode method_3_code 79 = .ok (.ifCond .ge 7, 3) := by decide +kernel
theorem own_d2_82 : decode method_3_code 82 = .ok (.getstatic 44, 3) := by decide +kernel
theorem own_d2_85 : decode method_3_code 85 = .ok (.areturn, 1) := by decide +kernel
theorem own_d2_86 : decode method_3_code 86 = .ok (.getstatic 47, 3) := by decide +kernel
theorem own_d2_89 : decode method_3_code 89 = .ok (.areturn, 1) := by decide +kernel
def own_spec (b l : Int32) (a1 a2 a3 a4 a5 a6 : Addr) : Addr := if 100 * b.toInt < 105 * l.toInt then a1 else if 100 * b.toInt < 176 * l.toInt then a2 else if 100 * b.toInt < 199 * l.toInt then a3 else if 201 * l.toInt < 100 * b.toInt then (if 100 * b.toInt < 280 * l.toInt then a5 else a6) else a4
theorem own_LT (x y : Int64) : (lcmpW x y < (0 : Int32)) = (x.toInt < y.toInt) := propext ((lw_lt x y).trans Int64.lt_iff_toInt_lt)
theorem own_GT (x y : Int64) : ((0 : Int32) < lcmpW x y) = (y.toInt < x.toInt) := propext ((lw_gt x y).trans Int64.lt_iff_toInt_lt)
theorem own_k20 (x : Int32) : ((20 : Int64) * x.toInt64).toInt = 20 * x.toInt := by
  have h := c_lmul (20 : Int64) x.toInt64
  have r := rng64 ((20 : Int64) * x.toInt64)
  have q := rng32 x
  rw [c_i2l, show (20 : Int64).toInt = 20 from rfl] at h
  omega
theorem own_k21 (x : Int32) : ((21 : Int64) * x.toInt64).toInt = 21 * x.toInt := by
  have h := c_lmul (21 : Int64) x.toInt64
  have r := rng64 ((21 : Int64) * x.toInt64)
  have q := rng32 x
  rw [c_i2l, show (21 : Int64).toInt = 21 from rfl] at h
  omega
theorem own_k100 (x : Int32) : ((100 : Int64) * x.toInt64).toInt = 100 * x.toInt := by
  have h := c_lmul (100 : Int64) x.toInt64
  have r := rng64 ((100 : Int64) * x.toInt64)
  have q := rng32 x
  rw [c_i2l, show (100 : Int64).toInt = 100 from rfl] at h
  omega
theorem own_k105 (x : Int32) : ((105 : Int64) * x.toInt64).toInt = 105 * x.toInt := by
  have h := c_lmul (105 : Int64) x.toInt64
  have r := rng64 ((105 : Int64) * x.toInt64)
  have q := rng32 x
  rw [c_i2l, show (105 : Int64).toInt = 105 from rfl] at h
  omega
theorem own_k176 (x : Int32) : ((176 : Int64) * x.toInt64).toInt = 176 * x.toInt := by
  have h := c_lmul (176 : Int64) x.toInt64
  have r := rng64 ((176 : Int64) * x.toInt64)
  have q := rng32 x
  rw [c_i2l, show (176 : Int64).toInt = 176 from rfl] at h
  omega
theorem own_k199 (x : Int32) : ((199 : Int64) * x.toInt64).toInt = 199 * x.toInt := by
  have h := c_lmul (199 : Int64) x.toInt64
  have r := rng64 ((199 : Int64) * x.toInt64)
  have q := rng32 x
  rw [c_i2l, show (199 : Int64).toInt = 199 from rfl] at h
  omega
theorem own_k201 (x : Int32) : ((201 : Int64) * x.toInt64).toInt = 201 * x.toInt := by
  have h := c_lmul (201 : Int64) x.toInt64
  have r := rng64 ((201 : Int64) * x.toInt64)
  have q := rng32 x
  rw [c_i2l, show (201 : Int64).toInt = 201 from rfl] at h
  omega
theorem own_k280 (x : Int32) : ((280 : Int64) * x.toInt64).toInt = 280 * x.toInt := by
  have h := c_lmul (280 : Int64) x.toInt64
  have r := rng64 ((280 : Int64) * x.toInt64)
  have q := rng32 x
  rw [c_i2l, show (280 : Int64).toInt = 280 from rfl] at h
  omega
def own_Qs (b l : Int32) (a1 a2 a3 a4 a5 a6 : Addr) (h0 : Heap) (n0 : Nat) (v : Option Value) (h : Heap) (L : List Loc) : Prop := v = some (.ref (own_spec b l a1 a2 a3 a4 a5 a6)) ∧ Fr n0 L ∧ h = h0
abbrev own_rma : Room := { frames := 0, cells := 0, slots := 0, locals := 0 }
set_option maxRecDepth 65536 in
set_option maxHeartbeats 40000000 in
theorem own_ma (l : Launch) (Z : State) (a0 : Array Value) (hw : ∀ d ∈ tables_1, d.before a0 Z = true) (b l' : Int32) (a1 a2 a3 a4 a5 a6 : Addr) (h0 : Heap) (n0 : Nat) (Z0 : n0 ≤ h0.size) (S1 : Sta Z h0 "com/example/bitstride/bitstride/text/CopyEncoder$Segment" "MOSTLY_ASCII" "Lcom/example/bitstride/bitstride/text/CopyEncoder$Segment;" (.ref a1)) (S2 : Sta Z h0 "com/example/bitstride/bitstride/text/CopyEncoder$Segment" "SHORT_ASCII_RUNS" "Lcom/example/bitstride/bitstride/text/CopyEncoder$Segment;" (.ref a2)) (S3 : Sta Z h0 "com/example/bitstride/bitstride/text/CopyEncoder$Segment" "TWO_BYTE" "Lcom/example/bitstride/bitstride/text/CopyEncoder$Segment;" (.ref a3)) (S4 : Sta Z h0 "com/example/bitstride/bitstride/text/CopyEncoder$Segment" "MOSTLY_PAIRS" "Lcom/example/bitstride/bitstride/text/CopyEncoder$Segment;" (.ref a4)) (S5 : Sta Z h0 "com/example/bitstride/bitstride/text/CopyEncoder$Segment" "MIXED" "Lcom/example/bitstride/bitstride/text/CopyEncoder$Segment;" (.ref a5)) (S6 : Sta Z h0 "com/example/bitstride/bitstride/text/CopyEncoder$Segment" "THREE_BYTE" "Lcom/example/bitstride/bitstride/text/CopyEncoder$Segment;" (.ref a6)) (hl : 0 ≤ l'.toInt) :
    own_Met l Z (⟨"com/example/bitstride/bitstride/text/CopyEncoder$Segment", "after", "(II)Lcom/example/bitstride/bitstride/text/CopyEncoder$Segment;"⟩ : MethodName) prog_15_method_4_code 3 (some (.object "com/example/bitstride/bitstride/text/CopyEncoder$Segment")) [] own_rma #[(.int b), (.int l')] h0 (own_Qs b l' a1 a2 a3 a4 a5 a6 h0 n0) := by
  refine own_body (plainFor_of_name (by first | (simp [plainName, overriddenIn]; done) | decide +kernel)) (g := fun m => mkF m 0 #[.val (.int b), .val (.int l'), .unset] []) (fun m => by first | (simp [entryFrame, mkF, argsToLocals, Value.category]; done) | rfl) ?_
  intro p e s m A below meth c T0 K X0 hx hby hml hown hnm hret hlk hZ e0 hK
  have N0 := Fr.nil n0
  show own_Go p e below K T0 (mkF m 0 #[.val (.int b), .val (.int l'), .unset] [])
  refine own_go (fun tt' kk' => X0.ldc2Long hx hown (mvT hZ (hw _ (List.mem_of_getElem? (i := 5) rfl))) (g := (mkF m 0 #[.val (.int b), .val (.int l'), .unset] [])) rfl (hb hby own_d1_0) tt' kk') ?_
  show own_Go p e below K T0 (mkF m 3 #[.val (.int b), .val (.int l'), .unset] [(.long (20 : Int64))])
  refine own_go (fun _ kk' => XS.iloadN X0.here hx rfl (hb hby own_d1_3) rfl  kk') ?_
  show own_Go p e below K T0 (mkF m 4 #[.val (.int b), .val (.int l'), .unset] [(.int b), (.long (20 : Int64))])
  refine own_go (fun _ kk' => XS.i2l X0.here hx rfl (hb hby own_d1_4) rfl kk') ?_
  show own_Go p e below K T0 (mkF m 5 #[.val (.int b), .val (.int l'), .unset] [(.long (b.toInt64)), (.long (20 : Int64))])
  refine own_go (fun _ kk' => XS.lmul X0.here hx rfl (hb hby own_d1_5) rfl kk') ?_
  show own_Go p e below K T0 (mkF m 6 #[.val (.int b), .val (.int l'), .unset] [(.long ((20 : Int64) * (b.toInt64)))])
  refine own_go (fun tt' kk' => X0.ldc2Long hx hown (mvT hZ (hw _ (List.mem_of_getElem? (i := 6) rfl))) (g := (mkF m 6 #[.val (.int b), .val (.int l'), .unset] [(.long ((20 : Int64) * (b.toInt64)))])) rfl (hb hby own_d1_6) tt' kk') ?_
  show own_Go p e below K T0 (mkF m 9 #[.val (.int b), .val (.int l'), .unset] [(.long (21 : Int64)), (.long ((20 : Int64) * (b.toInt64)))])
  refine own_go (fun _ kk' => XS.iloadN X0.here hx rfl (hb hby own_d1_9) rfl  kk') ?_
  show own_Go p e below K T0 (mkF m 10 #[.val (.int b), .val (.int l'), .unset] [(.int l'), (.long (21 : Int64)), (.long ((20 : Int64) * (b.toInt64)))])
  refine own_go (fun _ kk' => XS.i2l X0.here hx rfl (hb hby own_d1_10) rfl kk') ?_
  show own_Go p e below K T0 (mkF m 11 #[.val (.int b), .val (.int l'), .unset] [(.long (l'.toInt64)), (.long (21 : Int64)), (.long ((20 : Int64) * (b.toInt64)))])
  refine own_go (fun _ kk' => XS.lmul X0.here hx rfl (hb hby own_d1_11) rfl kk') ?_
  show own_Go p e below K T0 (mkF m 12 #[.val (.int b), .val (.int l'), .unset] [(.long ((21 : Int64) * (l'.toInt64))), (.long ((20 : Int64) * (b.toInt64)))])
  refine own_go (fun _ kk' => XS.lcmp X0.here hx rfl (hb hby own_d1_12) rfl kk') ?_
  show own_Go p e below K T0 (mkF m 13 #[.val (.int b), .val (.int l'), .unset] [(.int (lcmpW ((20 : Int64) * (b.toInt64)) ((21 : Int64) * (l'.toInt64))))])
  by_cases hc13_1 : (lcmpW ((20 : Int64) * (b.toInt64)) ((21 : Int64) * (l'.toInt64))) < (0 : Int32)
  · refine own_go (fun _ kk' => XS.ifNo X0.here hx rfl (hb hby own_d1_13) rfl ((if0 _ _).trans (tlt (hc13_1 : (lcmpW ((20 : Int64) * (b.toInt64)) ((21 : Int64) * (l'.toInt64))) < (0 : Int32))).2.1) kk') ?_
    show own_Go p e below K T0 (mkF m 16 #[.val (.int b), .val (.int l'), .unset] [])
    obtain ⟨T2, X2, e2, st2⟩ := getS2 X0 hx hZ hown (host := "") (Or.inl (hw _ (List.mem_of_getElem? (i := 7) rfl))) Via.refl e0 S1 (g := (mkF m 16 #[.val (.int b), .val (.int l'), .unset] [])) rfl (hb hby own_d1_16)
    refine own_go st2 ?_
    show own_Go p e below K T2 (mkF m 19 #[.val (.int b), .val (.int l'), .unset] [(.ref a1)])
    refine own_go (fun _ kk' => XS.astoreN X2.here hx rfl (hb hby own_d1_19) rfl rfl (l' := #[.val (.int b), .val (.int l'), .val (.ref a1)]) rfl kk') ?_
    show own_Go p e below K T2 (mkF m 20 #[.val (.int b), .val (.int l'), .val (.ref a1)] [])
    refine own_go (fun _ kk' => XS.goto X2.here hx rfl (pc0 := 20) (pc' := 151) rfl (hb hby own_d1_20) (by decide) (by decide) kk') ?_
    show own_Go p e below K T2 (mkF m 151 #[.val (.int b), .val (.int l'), .val (.ref a1)] [])
    refine own_go (fun _ kk' => XS.aloadN X2.here hx rfl (hb hby own_d1_151) rfl rfl  kk') ?_
    show own_Go p e below K T2 (mkF m 152 #[.val (.int b), .val (.int l'), .val (.ref a1)] [(.ref a1)])
    simp only [own_LT, own_GT, own_k20, own_k21, own_k100, own_k105, own_k176, own_k199, own_k201, own_k280] at hc13_1
    have hv : own_spec b l' a1 a2 a3 a4 a5 a6 = a1 := by unfold own_spec; (repeat' split) <;> first | rfl | (exfalso; omega)
    exact own_retR X2 hx hlk hK hret rfl rfl (hb hby own_d1_152) (by decide) (by decide) ⟨by rw [hv], N0, e2⟩
  · refine own_go (fun _ kk' => XS.ifYes X0.here hx rfl (pc0 := 13) (pc' := 23) rfl (hb hby own_d1_13) rfl ((if0 _ _).trans (flt (hc13_1 : ¬ ((lcmpW ((20 : Int64) * (b.toInt64)) ((21 : Int64) * (l'.toInt64))) < (0 : Int32)))).2.1) (by decide) (by decide) kk') ?_
    show own_Go p e below K T0 (mkF m 23 #[.val (.int b), .val (.int l'), .unset] [])
    refine own_go (fun tt' kk' => X0.ldc2Long hx hown (mvT hZ (hw _ (List.mem_of_getElem? (i := 16) rfl))) (g := (mkF m 23 #[.val (.int b), .val (.int l'), .unset] [])) rfl (hb hby own_d1_23) tt' kk') ?_
    show own_Go p e below K T0 (mkF m 26 #[.val (.int b), .val (.int l'), .unset] [(.long (100 : Int64))])
    refine own_go (fun _ kk' => XS.iloadN X0.here hx rfl (hb hby own_d1_26) rfl  kk') ?_
    show own_Go p e below K T0 (mkF m 27 #[.val (.int b), .val (.int l'), .unset] [(.int b), (.long (100 : Int64))])
    refine own_go (fun _ kk' => XS.i2l X0.here hx rfl (hb hby own_d1_27) rfl kk') ?_
    show own_Go p e below K T0 (mkF m 28 #[.val (.int b), .val (.int l'), .unset] [(.long (b.toInt64)), (.long (100 : Int64))])
    refine own_go (fun _ kk' => XS.lmul X0.here hx rfl (hb hby own_d1_28) rfl kk') ?_
    show own_Go p e below K T0 (mkF m 29 #[.val (.int b), .val (.int l'), .unset] [(.long ((100 : Int64) * (b.toInt64)))])
    refine own_go (fun tt' kk' => X0.ldc2Long hx hown (mvT hZ (hw _ (List.mem_of_getElem? (i := 17) rfl))) (g := (mkF m 29 #[.val (.int b), .val (.int l'), .unset] [(.long ((100 : Int64) * (b.toInt64)))])) rfl (hb hby own_d1_29) tt' kk') ?_
    show own_Go p e below K T0 (mkF m 32 #[.val (.int b), .val (.int l'), .unset] [(.long (199 : Int64)), (.long ((100 : Int64) * (b.toInt64)))])
    refine own_go (fun _ kk' => XS.iloadN X0.here hx rfl (hb hby own_d1_32) rfl  kk') ?_
    show own_Go p e below K T0 (mkF m 33 #[.val (.int b), .val (.int l'), .unset] [(.int l'), (.long (199 : Int64)), (.long ((100 : Int64) * (b.toInt64)))])
    refine own_go (fun _ kk' => XS.i2l X0.here hx rfl (hb hby own_d1_33) rfl kk') ?_
    show own_Go p e below K T0 (mkF m 34 #[.val (.int b), .val (.int l'), .unset] [(.long (l'.toInt64)), (.long (199 : Int64)), (.long ((100 : Int64) * (b.toInt64)))])
    refine own_go (fun _ kk' => XS.lmul X0.here hx rfl (hb hby own_d1_34) rfl kk') ?_
    show own_Go p e below K T0 (mkF m 35 #[.val (.int b), .val (.int l'), .unset] [(.long ((199 : Int64) * (l'.toInt64))), (.long ((100 : Int64) * (b.toInt64)))])
    refine own_go (fun _ kk' => XS.lcmp X0.here hx rfl (hb hby own_d1_35) rfl kk') ?_
    show own_Go p e below K T0 (mkF m 36 #[.val (.int b), .val (.int l'), .unset] [(.int (lcmpW ((100 : Int64) * (b.toInt64)) ((199 : Int64) * (l'.toInt64))))])
    by_cases hc36_3 : (lcmpW ((100 : Int64) * (b.toInt64)) ((199 : Int64) * (l'.toInt64))) < (0 : Int32)
    · refine own_go (fun _ kk' => XS.ifYes X0.here hx rfl (pc0 := 36) (pc' := 62) rfl (hb hby own_d1_36) rfl ((if0 _ _).trans (tlt (hc36_3 : (lcmpW ((100 : Int64) * (b.toInt64)) ((199 : Int64) * (l'.toInt64))) < (0 : Int32))).1) (by decide) (by decide) kk') ?_
      show own_Go p e below K T0 (mkF m 62 #[.val (.int b), .val (.int l'), .unset] [])
      refine own_go (fun tt' kk' => X0.ldc2Long hx hown (mvT hZ (hw _ (List.mem_of_getElem? (i := 16) rfl))) (g := (mkF m 62 #[.val (.int b), .val (.int l'), .unset] [])) rfl (hb hby own_d1_62) tt' kk') ?_
      show own_Go p e below K T0 (mkF m 65 #[.val (.int b), .val (.int l'), .unset] [(.long (100 : Int64))])
      refine own_go (fun _ kk' => XS.iloadN X0.here hx rfl (hb hby own_d1_65) rfl  kk') ?_
      show own_Go p e below K T0 (mkF m 66 #[.val (.int b), .val (.int l'), .unset] [(.int b), (.long (100 : Int64))])
      refine own_go (fun _ kk' => XS.i2l X0.here hx rfl (hb hby own_d1_66) rfl kk') ?_
      show own_Go p e below K T0 (mkF m 67 #[.val (.int b), .val (.int l'), .unset] [(.long (b.toInt64)), (.long (100 : Int64))])
      refine own_go (fun _ kk' => XS.lmul X0.here hx rfl (hb hby own_d1_67) rfl kk') ?_
      show own_Go p e below K T0 (mkF m 68 #[.val (.int b), .val (.int l'), .unset] [(.long ((100 : Int64) * (b.toInt64)))])
      refine own_go (fun tt' kk' => X0.ldc2Long hx hown (mvT hZ (hw _ (List.mem_of_getElem? (i := 19) rfl))) (g := (mkF m 68 #[.val (.int b), .val (.int l'), .unset] [(.long ((100 : Int64) * (b.toInt64)))])) rfl (hb hby own_d1_68) tt' kk') ?_
      show own_Go p e below K T0 (mkF m 71 #[.val (.int b), .val (.int l'), .unset] [(.long (280 : Int64)), (.long ((100 : Int64) * (b.toInt64)))])
      refine own_go (fun _ kk' => XS.iloadN X0.here hx rfl (hb hby own_d1_71) rfl  kk') ?_
      show own_Go p e below K T0 (mkF m 72 #[.val (.int b), .val (.int l'), .unset] [(.int l'), (.long (280 : Int64)), (.long ((100 : Int64) * (b.toInt64)))])
      refine own_go (fun _ kk' => XS.i2l X0.here hx rfl (hb hby own_d1_72) rfl kk') ?_
      show own_Go p e below K T0 (mkF m 73 #[.val (.int b), .val (.int l'), .unset] [(.long (l'.toInt64)), (.long (280 : Int64)), (.long ((100 : Int64) * (b.toInt64)))])
      refine own_go (fun _ kk' => XS.lmul X0.here hx rfl (hb hby own_d1_73) rfl kk') ?_
      show own_Go p e below K T0 (mkF m 74 #[.val (.int b), .val (.int l'), .unset] [(.long ((280 : Int64) * (l'.toInt64))), (.long ((100 : Int64) * (b.toInt64)))])
      refine own_go (fun _ kk' => XS.lcmp X0.here hx rfl (hb hby own_d1_74) rfl kk') ?_
      show own_Go p e below K T0 (mkF m 75 #[.val (.int b), .val (.int l'), .unset] [(.int (lcmpW ((100 : Int64) * (b.toInt64)) ((280 : Int64) * (l'.toInt64))))])
      by_cases hc75_4 : (lcmpW ((100 : Int64) * (b.toInt64)) ((280 : Int64) * (l'.toInt64))) < (0 : Int32)
      · refine own_go (fun _ kk' => XS.ifYes X0.here hx rfl (pc0 := 75) (pc' := 85) rfl (hb hby own_d1_75) rfl ((if0 _ _).trans (tlt (hc75_4 : (lcmpW ((100 : Int64) * (b.toInt64)) ((280 : Int64) * (l'.toInt64))) < (0 : Int32))).1) (by decide) (by decide) kk') ?_
        show own_Go p e below K T0 (mkF m 85 #[.val (.int b), .val (.int l'), .unset] [])
        refine own_go (fun tt' kk' => X0.ldc2Long hx hown (mvT hZ (hw _ (List.mem_of_getElem? (i := 16) rfl))) (g := (mkF m 85 #[.val (.int b), .val (.int l'), .unset] [])) rfl (hb hby own_d1_85) tt' kk') ?_
        show own_Go p e below K T0 (mkF m 88 #[.val (.int b), .val (.int l'), .unset] [(.long (100 : Int64))])
        refine own_go (fun _ kk' => XS.iloadN X0.here hx rfl (hb hby own_d1_88) rfl  kk') ?_
        show own_Go p e below K T0 (mkF m 89 #[.val (.int b), .val (.int l'), .unset] [(.int b), (.long (100 : Int64))])
        refine own_go (fun _ kk' => XS.i2l X0.here hx rfl (hb hby own_d1_89) rfl kk') ?_
        show own_Go p e below K T0 (mkF m 90 #[.val (.int b), .val (.int l'), .unset] [(.long (b.toInt64)), (.long (100 : Int64))])
        refine own_go (fun _ kk' => XS.lmul X0.here hx rfl (hb hby own_d1_90) rfl kk') ?_
        show own_Go p e below K T0 (mkF m 91 #[.val (.int b), .val (.int l'), .unset] [(.long ((100 : Int64) * (b.toInt64)))])
        refine own_go (fun tt' kk' => X0.ldc2Long hx hown (mvT hZ (hw _ (List.mem_of_getElem? (i := 27) rfl))) (g := (mkF m 91 #[.val (.int b), .val (.int l'), .unset] [(.long ((100 : Int64) * (b.toInt64)))])) rfl (hb hby own_d1_91) tt' kk') ?_
        show own_Go p e below K T0 (mkF m 94 #[.val (.int b), .val (.int l'), .unset] [(.long (176 : Int64)), (.long ((100 : Int64) * (b.toInt64)))])
        refine own_go (fun _ kk' => XS.iloadN X0.here hx rfl (hb hby own_d1_94) rfl  kk') ?_
        show own_Go p e below K T0 (mkF m 95 #[.val (.int b), .val (.int l'), .unset] [(.int l'), (.long (176 : Int64)), (.long ((100 : Int64) * (b.toInt64)))])
        refine own_go (fun _ kk' => XS.i2l X0.here hx rfl (hb hby own_d1_95) rfl kk') ?_
        show own_Go p e below K T0 (mkF m 96 #[.val (.int b), .val (.int l'), .unset] [(.long (l'.toInt64)), (.long (176 : Int64)), (.long ((100 : Int64) * (b.toInt64)))])
        refine own_go (fun _ kk' => XS.lmul X0.here hx rfl (hb hby own_d1_96) rfl kk') ?_
        show own_Go p e below K T0 (mkF m 97 #[.val (.int b), .val (.int l'), .unset] [(.long ((176 : Int64) * (l'.toInt64))), (.long ((100 : Int64) * (b.toInt64)))])
        refine own_go (fun _ kk' => XS.lcmp X0.here hx rfl (hb hby own_d1_97) rfl kk') ?_
        show own_Go p e below K T0 (mkF m 98 #[.val (.int b), .val (.int l'), .unset] [(.int (lcmpW ((100 : Int64) * (b.toInt64)) ((176 : Int64) * (l'.toInt64))))])
        by_cases hc98_5 : (lcmpW ((100 : Int64) * (b.toInt64)) ((176 : Int64) * (l'.toInt64))) < (0 : Int32)
        · refine own_go (fun _ kk' => XS.ifYes X0.here hx rfl (pc0 := 98) (pc' := 124) rfl (hb hby own_d1_98) rfl ((if0 _ _).trans (tlt (hc98_5 : (lcmpW ((100 : Int64) * (b.toInt64)) ((176 : Int64) * (l'.toInt64))) < (0 : Int32))).1) (by decide) (by decide) kk') ?_
          show own_Go p e below K T0 (mkF m 124 #[.val (.int b), .val (.int l'), .unset] [])
          refine own_go (fun tt' kk' => X0.ldc2Long hx hown (mvT hZ (hw _ (List.mem_of_getElem? (i := 16) rfl))) (g := (mkF m 124 #[.val (.int b), .val (.int l'), .unset] [])) rfl (hb hby own_d1_124) tt' kk') ?_
          show own_Go p e below K T0 (mkF m 127 #[.val (.int b), .val (.int l'), .unset] [(.long (100 : Int64))])
          refine own_go (fun _ kk' => XS.iloadN X0.here hx rfl (hb hby own_d1_127) rfl  kk') ?_
          show own_Go p e below K T0 (mkF m 128 #[.val (.int b), .val (.int l'), .unset] [(.int b), (.long (100 : Int64))])
          refine own_go (fun _ kk' => XS.i2l X0.here hx rfl (hb hby own_d1_128) rfl kk') ?_
          show own_Go p e below K T0 (mkF m 129 #[.val (.int b), .val (.int l'), .unset] [(.long (b.toInt64)), (.long (100 : Int64))])
          refine own_go (fun _ kk' => XS.lmul X0.here hx rfl (hb hby own_d1_129) rfl kk') ?_
          show own_Go p e below K T0 (mkF m 130 #[.val (.int b), .val (.int l'), .unset] [(.long ((100 : Int64) * (b.toInt64)))])
          refine own_go (fun tt' kk' => X0.ldc2Long hx hown (mvT hZ (hw _ (List.mem_of_getElem? (i := 27) rfl))) (g := (mkF m 130 #[.val (.int b), .val (.int l'), .unset] [(.long ((100 : Int64) * (b.toInt64)))])) rfl (hb hby own_d1_130) tt' kk') ?_
          show own_Go p e below K T0 (mkF m 133 #[.val (.int b), .val (.int l'), .unset] [(.long (176 : Int64)), (.long ((100 : Int64) * (b.toInt64)))])
          refine own_go (fun _ kk' => XS.iloadN X0.here hx rfl (hb hby own_d1_133) rfl  kk') ?_
          show own_Go p e below K T0 (mkF m 134 #[.val (.int b), .val (.int l'), .unset] [(.int l'), (.long (176 : Int64)), (.long ((100 : Int64) * (b.toInt64)))])
          refine own_go (fun _ kk' => XS.i2l X0.here hx rfl (hb hby own_d1_134) rfl kk') ?_
          show own_Go p e below K T0 (mkF m 135 #[.val (.int b), .val (.int l'), .unset] [(.long (l'.toInt64)), (.long (176 : Int64)), (.long ((100 : Int64) * (b.toInt64)))])
          refine own_go (fun _ kk' => XS.lmul X0.here hx rfl (hb hby own_d1_135) rfl kk') ?_
          show own_Go p e below K T0 (mkF m 136 #[.val (.int b), .val (.int l'), .unset] [(.long ((176 : Int64) * (l'.toInt64))), (.long ((100 : Int64) * (b.toInt64)))])
          refine own_go (fun _ kk' => XS.lcmp X0.here hx rfl (hb hby own_d1_136) rfl kk') ?_
          show own_Go p e below K T0 (mkF m 137 #[.val (.int b), .val (.int l'), .unset] [(.int (lcmpW ((100 : Int64) * (b.toInt64)) ((176 : Int64) * (l'.toInt64))))])
          refine own_go (fun _ kk' => XS.ifNo X0.here hx rfl (hb hby own_d1_137) rfl ((if0 _ _).trans (tlt (hc98_5 : (lcmpW ((100 : Int64) * (b.toInt64)) ((176 : Int64) * (l'.toInt64))) < (0 : Int32))).2.1) kk') ?_
          show own_Go p e below K T0 (mkF m 140 #[.val (.int b), .val (.int l'), .unset] [])
          obtain ⟨T6, X6, e6, st6⟩ := getS2 X0 hx hZ hown (host := "") (Or.inl (hw _ (List.mem_of_getElem? (i := 31) rfl))) Via.refl e0 S2 (g := (mkF m 140 #[.val (.int b), .val (.int l'), .unset] [])) rfl (hb hby own_d1_140)
          refine own_go st6 ?_
          show own_Go p e below K T6 (mkF m 143 #[.val (.int b), .val (.int l'), .unset] [(.ref a2)])
          refine own_go (fun _ kk' => XS.astoreN X6.here hx rfl (hb hby own_d1_143) rfl rfl (l' := #[.val (.int b), .val (.int l'), .val (.ref a2)]) rfl kk') ?_
          show own_Go p e below K T6 (mkF m 144 #[.val (.int b), .val (.int l'), .val (.ref a2)] [])
          refine own_go (fun _ kk' => XS.goto X6.here hx rfl (pc0 := 144) (pc' := 151) rfl (hb hby own_d1_144) (by decide) (by decide) kk') ?_
          show own_Go p e below K T6 (mkF m 151 #[.val (.int b), .val (.int l'), .val (.ref a2)] [])
          refine own_go (fun _ kk' => XS.aloadN X6.here hx rfl (hb hby own_d1_151) rfl rfl  kk') ?_
          show own_Go p e below K T6 (mkF m 152 #[.val (.int b), .val (.int l'), .val (.ref a2)] [(.ref a2)])
          simp only [own_LT, own_GT, own_k20, own_k21, own_k100, own_k105, own_k176, own_k199, own_k201, own_k280] at hc13_1 hc36_3 hc75_4 hc98_5
          have hv : own_spec b l' a1 a2 a3 a4 a5 a6 = a2 := by unfold own_spec; (repeat' split) <;> first | rfl | (exfalso; omega)
          exact own_retR X6 hx hlk hK hret rfl rfl (hb hby own_d1_152) (by decide) (by decide) ⟨by rw [hv], N0, e6⟩
        · refine own_go (fun _ kk' => XS.ifNo X0.here hx rfl (hb hby own_d1_98) rfl ((if0 _ _).trans (flt (hc98_5 : ¬ ((lcmpW ((100 : Int64) * (b.toInt64)) ((176 : Int64) * (l'.toInt64))) < (0 : Int32)))).1) kk') ?_
          show own_Go p e below K T0 (mkF m 101 #[.val (.int b), .val (.int l'), .unset] [])
          refine own_go (fun tt' kk' => X0.ldc2Long hx hown (mvT hZ (hw _ (List.mem_of_getElem? (i := 16) rfl))) (g := (mkF m 101 #[.val (.int b), .val (.int l'), .unset] [])) rfl (hb hby own_d1_101) tt' kk') ?_
          show own_Go p e below K T0 (mkF m 104 #[.val (.int b), .val (.int l'), .unset] [(.long (100 : Int64))])
          refine own_go (fun _ kk' => XS.iloadN X0.here hx rfl (hb hby own_d1_104) rfl  kk') ?_
          show own_Go p e below K T0 (mkF m 105 #[.val (.int b), .val (.int l'), .unset] [(.int b), (.long (100 : Int64))])
          refine own_go (fun _ kk' => XS.i2l X0.here hx rfl (hb hby own_d1_105) rfl kk') ?_
          show own_Go p e below K T0 (mkF m 106 #[.val (.int b), .val (.int l'), .unset] [(.long (b.toInt64)), (.long (100 : Int64))])
          refine own_go (fun _ kk' => XS.lmul X0.here hx rfl (hb hby own_d1_106) rfl kk') ?_
          show own_Go p e below K T0 (mkF m 107 #[.val (.int b), .val (.int l'), .unset] [(.long ((100 : Int64) * (b.toInt64)))])
          refine own_go (fun tt' kk' => X0.ldc2Long hx hown (mvT hZ (hw _ (List.mem_of_getElem? (i := 17) rfl))) (g := (mkF m 107 #[.val (.int b), .val (.int l'), .unset] [(.long ((100 : Int64) * (b.toInt64)))])) rfl (hb hby own_d1_107) tt' kk') ?_
          show own_Go p e below K T0 (mkF m 110 #[.val (.int b), .val (.int l'), .unset] [(.long (199 : Int64)), (.long ((100 : Int64) * (b.toInt64)))])
          refine own_go (fun _ kk' => XS.iloadN X0.here hx rfl (hb hby own_d1_110) rfl  kk') ?_
          show own_Go p e below K T0 (mkF m 111 #[.val (.int b), .val (.int l'), .unset] [(.int l'), (.long (199 : Int64)), (.long ((100 : Int64) * (b.toInt64)))])
          refine own_go (fun _ kk' => XS.i2l X0.here hx rfl (hb hby own_d1_111) rfl kk') ?_
          show own_Go p e below K T0 (mkF m 112 #[.val (.int b), .val (.int l'), .unset] [(.long (l'.toInt64)), (.long (199 : Int64)), (.long ((100 : Int64) * (b.toInt64)))])
          refine own_go (fun _ kk' => XS.lmul X0.here hx rfl (hb hby own_d1_112) rfl kk') ?_
          show own_Go p e below K T0 (mkF m 113 #[.val (.int b), .val (.int l'), .unset] [(.long ((199 : Int64) * (l'.toInt64))), (.long ((100 : Int64) * (b.toInt64)))])
          refine own_go (fun _ kk' => XS.lcmp X0.here hx rfl (hb hby own_d1_113) rfl kk') ?_
          show own_Go p e below K T0 (mkF m 114 #[.val (.int b), .val (.int l'), .unset] [(.int (lcmpW ((100 : Int64) * (b.toInt64)) ((199 : Int64) * (l'.toInt64))))])
          refine own_go (fun _ kk' => XS.ifNo X0.here hx rfl (hb hby own_d1_114) rfl ((if0 _ _).trans (tlt (hc36_3 : (lcmpW ((100 : Int64) * (b.toInt64)) ((199 : Int64) * (l'.toInt64))) < (0 : Int32))).2.1) kk') ?_
          show own_Go p e below K T0 (mkF m 117 #[.val (.int b), .val (.int l'), .unset] [])
          obtain ⟨T7, X7, e7, st7⟩ := getS2 X0 hx hZ hown (host := "") (Or.inl (hw _ (List.mem_of_getElem? (i := 37) rfl))) Via.refl e0 S3 (g := (mkF m 117 #[.val (.int b), .val (.int l'), .unset] [])) rfl (hb hby own_d1_117)
          refine own_go st7 ?_
          show own_Go p e below K T7 (mkF m 120 #[.val (.int b), .val (.int l'), .unset] [(.ref a3)])
          refine own_go (fun _ kk' => XS.astoreN X7.here hx rfl (hb hby own_d1_120) rfl rfl (l' := #[.val (.int b), .val (.int l'), .val (.ref a3)]) rfl kk') ?_
          show own_Go p e below K T7 (mkF m 121 #[.val (.int b), .val (.int l'), .val (.ref a3)] [])
          refine own_go (fun _ kk' => XS.goto X7.here hx rfl (pc0 := 121) (pc' := 151) rfl (hb hby own_d1_121) (by decide) (by decide) kk') ?_
          show own_Go p e below K T7 (mkF m 151 #[.val (.int b), .val (.int l'), .val (.ref a3)] [])
          refine own_go (fun _ kk' => XS.aloadN X7.here hx rfl (hb hby own_d1_151) rfl rfl  kk') ?_
          show own_Go p e below K T7 (mkF m 152 #[.val (.int b), .val (.int l'), .val (.ref a3)] [(.ref a3)])
          simp only [own_LT, own_GT, own_k20, own_k21, own_k100, own_k105, own_k176, own_k199, own_k201, own_k280] at hc13_1 hc36_3 hc75_4 hc98_5
          have hv : own_spec b l' a1 a2 a3 a4 a5 a6 = a3 := by unfold own_spec; (repeat' split) <;> first | rfl | (exfalso; omega)
          exact own_retR X7 hx hlk hK hret rfl rfl (hb hby own_d1_152) (by decide) (by decide) ⟨by rw [hv], N0, e7⟩
      · refine own_go (fun _ kk' => XS.ifNo X0.here hx rfl (hb hby own_d1_75) rfl ((if0 _ _).trans (flt (hc75_4 : ¬ ((lcmpW ((100 : Int64) * (b.toInt64)) ((280 : Int64) * (l'.toInt64))) < (0 : Int32)))).1) kk') ?_
        show own_Go p e below K T0 (mkF m 78 #[.val (.int b), .val (.int l'), .unset] [])
        obtain ⟨T8, X8, e8, st8⟩ := getS2 X0 hx hZ hown (host := "") (Or.inl (hw _ (List.mem_of_getElem? (i := 20) rfl))) Via.refl e0 S6 (g := (mkF m 78 #[.val (.int b), .val (.int l'), .unset] [])) rfl (hb hby own_d1_78)
        refine own_go st8 ?_
        show own_Go p e below K T8 (mkF m 81 #[.val (.int b), .val (.int l'), .unset] [(.ref a6)])
        refine own_go (fun _ kk' => XS.astoreN X8.here hx rfl (hb hby own_d1_81) rfl rfl (l' := #[.val (.int b), .val (.int l'), .val (.ref a6)]) rfl kk') ?_
        show own_Go p e below K T8 (mkF m 82 #[.val (.int b), .val (.int l'), .val (.ref a6)] [])
        refine own_go (fun _ kk' => XS.goto X8.here hx rfl (pc0 := 82) (pc' := 151) rfl (hb hby own_d1_82) (by decide) (by decide) kk') ?_
        show own_Go p e below K T8 (mkF m 151 #[.val (.int b), .val (.int l'), .val (.ref a6)] [])
        refine own_go (fun _ kk' => XS.aloadN X8.here hx rfl (hb hby own_d1_151) rfl rfl  kk') ?_
        show own_Go p e below K T8 (mkF m 152 #[.val (.int b), .val (.int l'), .val (.ref a6)] [(.ref a6)])
        simp only [own_LT, own_GT, own_k20, own_k21, own_k100, own_k105, own_k176, own_k199, own_k201, own_k280] at hc13_1 hc36_3 hc75_4
        have hv : own_spec b l' a1 a2 a3 a4 a5 a6 = a6 := by unfold own_spec; (repeat' split) <;> first | rfl | (exfalso; omega)
        exact own_retR X8 hx hlk hK hret rfl rfl (hb hby own_d1_152) (by decide) (by decide) ⟨by rw [hv], N0, e8⟩
    · refine own_go (fun _ kk' => XS.ifNo X0.here hx rfl (hb hby own_d1_36) rfl ((if0 _ _).trans (flt (hc36_3 : ¬ ((lcmpW ((100 : Int64) * (b.toInt64)) ((199 : Int64) * (l'.toInt64))) < (0 : Int32)))).1) kk') ?_
      show own_Go p e below K T0 (mkF m 39 #[.val (.int b), .val (.int l'), .unset] [])
      refine own_go (fun tt' kk' => X0.ldc2Long hx hown (mvT hZ (hw _ (List.mem_of_getElem? (i := 16) rfl))) (g := (mkF m 39 #[.val (.int b), .val (.int l'), .unset] [])) rfl (hb hby own_d1_39) tt' kk') ?_
      show own_Go p e below K T0 (mkF m 42 #[.val (.int b), .val (.int l'), .unset] [(.long (100 : Int64))])
      refine own_go (fun _ kk' => XS.iloadN X0.here hx rfl (hb hby own_d1_42) rfl  kk') ?_
      show own_Go p e below K T0 (mkF m 43 #[.val (.int b), .val (.int l'), .unset] [(.int b), (.long (100 : Int64))])
      refine own_go (fun _ kk' => XS.i2l X0.here hx rfl (hb hby own_d1_43) rfl kk') ?_
      show own_Go p e below K T0 (mkF m 44 #[.val (.int b), .val (.int l'), .unset] [(.long (b.toInt64)), (.long (100 : Int64))])
      refine own_go (fun _ kk' => XS.lmul X0.here hx rfl (hb hby own_d1_44) rfl kk') ?_
      show own_Go p e below K T0 (mkF m 45 #[.val (.int b), .val (.int l'), .unset] [(.long ((100 : Int64) * (b.toInt64)))])
      refine own_go (fun tt' kk' => X0.ldc2Long hx hown (mvT hZ (hw _ (List.mem_of_getElem? (i := 18) rfl))) (g := (mkF m 45 #[.val (.int b), .val (.int l'), .unset] [(.long ((100 : Int64) * (b.toInt64)))])) rfl (hb hby own_d1_45) tt' kk') ?_
      show own_Go p e below K T0 (mkF m 48 #[.val (.int b), .val (.int l'), .unset] [(.long (201 : Int64)), (.long ((100 : Int64) * (b.toInt64)))])
      refine own_go (fun _ kk' => XS.iloadN X0.here hx rfl (hb hby own_d1_48) rfl  kk') ?_
      show own_Go p e below K T0 (mkF m 49 #[.val (.int b), .val (.int l'), .unset] [(.int l'), (.long (201 : Int64)), (.long ((100 : Int64) * (b.toInt64)))])
      refine own_go (fun _ kk' => XS.i2l X0.here hx rfl (hb hby own_d1_49) rfl kk') ?_
      show own_Go p e below K T0 (mkF m 50 #[.val (.int b), .val (.int l'), .unset] [(.long (l'.toInt64)), (.long (201 : Int64)), (.long ((100 : Int64) * (b.toInt64)))])
      refine own_go (fun _ kk' => XS.lmul X0.here hx rfl (hb hby own_d1_50) rfl kk') ?_
      show own_Go p e below K T0 (mkF m 51 #[.val (.int b), .val (.int l'), .unset] [(.long ((201 : Int64) * (l'.toInt64))), (.long ((100 : Int64) * (b.toInt64)))])
      refine own_go (fun _ kk' => XS.lcmp X0.here hx rfl (hb hby own_d1_51) rfl kk') ?_
      show own_Go p e below K T0 (mkF m 52 #[.val (.int b), .val (.int l'), .unset] [(.int (lcmpW ((100 : Int64) * (b.toInt64)) ((201 : Int64) * (l'.toInt64))))])
      by_cases hc52_9 : (0 : Int32) < (lcmpW ((100 : Int64) * (b.toInt64)) ((201 : Int64) * (l'.toInt64)))
      · refine own_go (fun _ kk' => XS.ifYes X0.here hx rfl (pc0 := 52) (pc' := 62) rfl (hb hby own_d1_52) rfl ((if0 _ _).trans (tlt (hc52_9 : (0 : Int32) < (lcmpW ((100 : Int64) * (b.toInt64)) ((201 : Int64) * (l'.toInt64))))).2.2.1) (by decide) (by decide) kk') ?_
        show own_Go p e below K T0 (mkF m 62 #[.val (.int b), .val (.int l'), .unset] [])
        refine own_go (fun tt' kk' => X0.ldc2Long hx hown (mvT hZ (hw _ (List.mem_of_getElem? (i := 16) rfl))) (g := (mkF m 62 #[.val (.int b), .val (.int l'), .unset] [])) rfl (hb hby own_d1_62) tt' kk') ?_
        show own_Go p e below K T0 (mkF m 65 #[.val (.int b), .val (.int l'), .unset] [(.long (100 : Int64))])
        refine own_go (fun _ kk' => XS.iloadN X0.here hx rfl (hb hby own_d1_65) rfl  kk') ?_
        show own_Go p e below K T0 (mkF m 66 #[.val (.int b), .val (.int l'), .unset] [(.int b), (.long (100 : Int64))])
        refine own_go (fun _ kk' => XS.i2l X0.here hx rfl (hb hby own_d1_66) rfl kk') ?_
        show own_Go p e below K T0 (mkF m 67 #[.val (.int b), .val (.int l'), .unset] [(.long (b.toInt64)), (.long (100 : Int64))])
        refine own_go (fun _ kk' => XS.lmul X0.here hx rfl (hb hby own_d1_67) rfl kk') ?_
        show own_Go p e below K T0 (mkF m 68 #[.val (.int b), .val (.int l'), .unset] [(.long ((100 : Int64) * (b.toInt64)))])
        refine own_go (fun tt' kk' => X0.ldc2Long hx hown (mvT hZ (hw _ (List.mem_of_getElem? (i := 19) rfl))) (g := (mkF m 68 #[.val (.int b), .val (.int l'), .unset] [(.long ((100 : Int64) * (b.toInt64)))])) rfl (hb hby own_d1_68) tt' kk') ?_
        show own_Go p e below K T0 (mkF m 71 #[.val (.int b), .val (.int l'), .unset] [(.long (280 : Int64)), (.long ((100 : Int64) * (b.toInt64)))])
        refine own_go (fun _ kk' => XS.iloadN X0.here hx rfl (hb hby own_d1_71) rfl  kk') ?_
        show own_Go p e below K T0 (mkF m 72 #[.val (.int b), .val (.int l'), .unset] [(.int l'), (.long (280 : Int64)), (.long ((100 : Int64) * (b.toInt64)))])
        refine own_go (fun _ kk' => XS.i2l X0.here hx rfl (hb hby own_d1_72) rfl kk') ?_
        show own_Go p e below K T0 (mkF m 73 #[.val (.int b), .val (.int l'), .unset] [(.long (l'.toInt64)), (.long (280 : Int64)), (.long ((100 : Int64) * (b.toInt64)))])
        refine own_go (fun _ kk' => XS.lmul X0.here hx rfl (hb hby own_d1_73) rfl kk') ?_
        show own_Go p e below K T0 (mkF m 74 #[.val (.int b), .val (.int l'), .unset] [(.long ((280 : Int64) * (l'.toInt64))), (.long ((100 : Int64) * (b.toInt64)))])
        refine own_go (fun _ kk' => XS.lcmp X0.here hx rfl (hb hby own_d1_74) rfl kk') ?_
        show own_Go p e below K T0 (mkF m 75 #[.val (.int b), .val (.int l'), .unset] [(.int (lcmpW ((100 : Int64) * (b.toInt64)) ((280 : Int64) * (l'.toInt64))))])
        by_cases hc75_10 : (lcmpW ((100 : Int64) * (b.toInt64)) ((280 : Int64) * (l'.toInt64))) < (0 : Int32)
        · refine own_go (fun _ kk' => XS.ifYes X0.here hx rfl (pc0 := 75) (pc' := 85) rfl (hb hby own_d1_75) rfl ((if0 _ _).trans (tlt (hc75_10 : (lcmpW ((100 : Int64) * (b.toInt64)) ((280 : Int64) * (l'.toInt64))) < (0 : Int32))).1) (by decide) (by decide) kk') ?_
          show own_Go p e below K T0 (mkF m 85 #[.val (.int b), .val (.int l'), .unset] [])
          refine own_go (fun tt' kk' => X0.ldc2Long hx hown (mvT hZ (hw _ (List.mem_of_getElem? (i := 16) rfl))) (g := (mkF m 85 #[.val (.int b), .val (.int l'), .unset] [])) rfl (hb hby own_d1_85) tt' kk') ?_
          show own_Go p e below K T0 (mkF m 88 #[.val (.int b), .val (.int l'), .unset] [(.long (100 : Int64))])
          refine own_go (fun _ kk' => XS.iloadN X0.here hx rfl (hb hby own_d1_88) rfl  kk') ?_
          show own_Go p e below K T0 (mkF m 89 #[.val (.int b), .val (.int l'), .unset] [(.int b), (.long (100 : Int64))])
          refine own_go (fun _ kk' => XS.i2l X0.here hx rfl (hb hby own_d1_89) rfl kk') ?_
          show own_Go p e below K T0 (mkF m 90 #[.val (.int b), .val (.int l'), .unset] [(.long (b.toInt64)), (.long (100 : Int64))])
          refine own_go (fun _ kk' => XS.lmul X0.here hx rfl (hb hby own_d1_90) rfl kk') ?_
          show own_Go p e below K T0 (mkF m 91 #[.val (.int b), .val (.int l'), .unset] [(.long ((100 : Int64) * (b.toInt64)))])
          refine own_go (fun tt' kk' => X0.ldc2Long hx hown (mvT hZ (hw _ (List.mem_of_getElem? (i := 27) rfl))) (g := (mkF m 91 #[.val (.int b), .val (.int l'), .unset] [(.long ((100 : Int64) * (b.toInt64)))])) rfl (hb hby own_d1_91) tt' kk') ?_
          show own_Go p e below K T0 (mkF m 94 #[.val (.int b), .val (.int l'), .unset] [(.long (176 : Int64)), (.long ((100 : Int64) * (b.toInt64)))])
          refine own_go (fun _ kk' => XS.iloadN X0.here hx rfl (hb hby own_d1_94) rfl  kk') ?_
          show own_Go p e below K T0 (mkF m 95 #[.val (.int b), .val (.int l'), .unset] [(.int l'), (.long (176 : Int64)), (.long ((100 : Int64) * (b.toInt64)))])
          refine own_go (fun _ kk' => XS.i2l X0.here hx rfl (hb hby own_d1_95) rfl kk') ?_
          show own_Go p e below K T0 (mkF m 96 #[.val (.int b), .val (.int l'), .unset] [(.long (l'.toInt64)), (.long (176 : Int64)), (.long ((100 : Int64) * (b.toInt64)))])
          refine own_go (fun _ kk' => XS.lmul X0.here hx rfl (hb hby own_d1_96) rfl kk') ?_
          show own_Go p e below K T0 (mkF m 97 #[.val (.int b), .val (.int l'), .unset] [(.long ((176 : Int64) * (l'.toInt64))), (.long ((100 : Int64) * (b.toInt64)))])
          refine own_go (fun _ kk' => XS.lcmp X0.here hx rfl (hb hby own_d1_97) rfl kk') ?_
          show own_Go p e below K T0 (mkF m 98 #[.val (.int b), .val (.int l'), .unset] [(.int (lcmpW ((100 : Int64) * (b.toInt64)) ((176 : Int64) * (l'.toInt64))))])
          by_cases hc98_11 : (lcmpW ((100 : Int64) * (b.toInt64)) ((176 : Int64) * (l'.toInt64))) < (0 : Int32)
          · refine own_go (fun _ kk' => XS.ifYes X0.here hx rfl (pc0 := 98) (pc' := 124) rfl (hb hby own_d1_98) rfl ((if0 _ _).trans (tlt (hc98_11 : (lcmpW ((100 : Int64) * (b.toInt64)) ((176 : Int64) * (l'.toInt64))) < (0 : Int32))).1) (by decide) (by decide) kk') ?_
            show own_Go p e below K T0 (mkF m 124 #[.val (.int b), .val (.int l'), .unset] [])
            refine own_go (fun tt' kk' => X0.ldc2Long hx hown (mvT hZ (hw _ (List.mem_of_getElem? (i := 16) rfl))) (g := (mkF m 124 #[.val (.int b), .val (.int l'), .unset] [])) rfl (hb hby own_d1_124) tt' kk') ?_
            show own_Go p e below K T0 (mkF m 127 #[.val (.int b), .val (.int l'), .unset] [(.long (100 : Int64))])
            refine own_go (fun _ kk' => XS.iloadN X0.here hx rfl (hb hby own_d1_127) rfl  kk') ?_
            show own_Go p e below K T0 (mkF m 128 #[.val (.int b), .val (.int l'), .unset] [(.int b), (.long (100 : Int64))])
            refine own_go (fun _ kk' => XS.i2l X0.here hx rfl (hb hby own_d1_128) rfl kk') ?_
            show own_Go p e below K T0 (mkF m 129 #[.val (.int b), .val (.int l'), .unset] [(.long (b.toInt64)), (.long (100 : Int64))])
            refine own_go (fun _ kk' => XS.lmul X0.here hx rfl (hb hby own_d1_129) rfl kk') ?_
            show own_Go p e below K T0 (mkF m 130 #[.val (.int b), .val (.int l'), .unset] [(.long ((100 : Int64) * (b.toInt64)))])
            refine own_go (fun tt' kk' => X0.ldc2Long hx hown (mvT hZ (hw _ (List.mem_of_getElem? (i := 27) rfl))) (g := (mkF m 130 #[.val (.int b), .val (.int l'), .unset] [(.long ((100 : Int64) * (b.toInt64)))])) rfl (hb hby own_d1_130) tt' kk') ?_
            show own_Go p e below K T0 (mkF m 133 #[.val (.int b), .val (.int l'), .unset] [(.long (176 : Int64)), (.long ((100 : Int64) * (b.toInt64)))])
            refine own_go (fun _ kk' => XS.iloadN X0.here hx rfl (hb hby own_d1_133) rfl  kk') ?_
            show own_Go p e below K T0 (mkF m 134 #[.val (.int b), .val (.int l'), .unset] [(.int l'), (.long (176 : Int64)), (.long ((100 : Int64) * (b.toInt64)))])
            refine own_go (fun _ kk' => XS.i2l X0.here hx rfl (hb hby own_d1_134) rfl kk') ?_
            show own_Go p e below K T0 (mkF m 135 #[.val (.int b), .val (.int l'), .unset] [(.long (l'.toInt64)), (.long (176 : Int64)), (.long ((100 : Int64) * (b.toInt64)))])
            refine own_go (fun _ kk' => XS.lmul X0.here hx rfl (hb hby own_d1_135) rfl kk') ?_
            show own_Go p e below K T0 (mkF m 136 #[.val (.int b), .val (.int l'), .unset] [(.long ((176 : Int64) * (l'.toInt64))), (.long ((100 : Int64) * (b.toInt64)))])
            refine own_go (fun _ kk' => XS.lcmp X0.here hx rfl (hb hby own_d1_136) rfl kk') ?_
            show own_Go p e below K T0 (mkF m 137 #[.val (.int b), .val (.int l'), .unset] [(.int (lcmpW ((100 : Int64) * (b.toInt64)) ((176 : Int64) * (l'.toInt64))))])
            refine own_go (fun _ kk' => XS.ifNo X0.here hx rfl (hb hby own_d1_137) rfl ((if0 _ _).trans (tlt (hc98_11 : (lcmpW ((100 : Int64) * (b.toInt64)) ((176 : Int64) * (l'.toInt64))) < (0 : Int32))).2.1) kk') ?_
            show own_Go p e below K T0 (mkF m 140 #[.val (.int b), .val (.int l'), .unset] [])
            obtain ⟨T12, X12, e12, st12⟩ := getS2 X0 hx hZ hown (host := "") (Or.inl (hw _ (List.mem_of_getElem? (i := 31) rfl))) Via.refl e0 S2 (g := (mkF m 140 #[.val (.int b), .val (.int l'), .unset] [])) rfl (hb hby own_d1_140)
            refine own_go st12 ?_
            show own_Go p e below K T12 (mkF m 143 #[.val (.int b), .val (.int l'), .unset] [(.ref a2)])
            refine own_go (fun _ kk' => XS.astoreN X12.here hx rfl (hb hby own_d1_143) rfl rfl (l' := #[.val (.int b), .val (.int l'), .val (.ref a2)]) rfl kk') ?_
            show own_Go p e below K T12 (mkF m 144 #[.val (.int b), .val (.int l'), .val (.ref a2)] [])
            refine own_go (fun _ kk' => XS.goto X12.here hx rfl (pc0 := 144) (pc' := 151) rfl (hb hby own_d1_144) (by decide) (by decide) kk') ?_
            show own_Go p e below K T12 (mkF m 151 #[.val (.int b), .val (.int l'), .val (.ref a2)] [])
            refine own_go (fun _ kk' => XS.aloadN X12.here hx rfl (hb hby own_d1_151) rfl rfl  kk') ?_
            show own_Go p e below K T12 (mkF m 152 #[.val (.int b), .val (.int l'), .val (.ref a2)] [(.ref a2)])
            simp only [own_LT, own_GT, own_k20, own_k21, own_k100, own_k105, own_k176, own_k199, own_k201, own_k280] at hc13_1 hc36_3 hc52_9 hc75_10 hc98_11
            have hv : own_spec b l' a1 a2 a3 a4 a5 a6 = a2 := by unfold own_spec; (repeat' split) <;> first | rfl | (exfalso; omega)
            exact own_retR X12 hx hlk hK hret rfl rfl (hb hby own_d1_152) (by decide) (by decide) ⟨by rw [hv], N0, e12⟩
          · refine own_go (fun _ kk' => XS.ifNo X0.here hx rfl (hb hby own_d1_98) rfl ((if0 _ _).trans (flt (hc98_11 : ¬ ((lcmpW ((100 : Int64) * (b.toInt64)) ((176 : Int64) * (l'.toInt64))) < (0 : Int32)))).1) kk') ?_
            show own_Go p e below K T0 (mkF m 101 #[.val (.int b), .val (.int l'), .unset] [])
            refine own_go (fun tt' kk' => X0.ldc2Long hx hown (mvT hZ (hw _ (List.mem_of_getElem? (i := 16) rfl))) (g := (mkF m 101 #[.val (.int b), .val (.int l'), .unset] [])) rfl (hb hby own_d1_101) tt' kk') ?_
            show own_Go p e below K T0 (mkF m 104 #[.val (.int b), .val (.int l'), .unset] [(.long (100 : Int64))])
            refine own_go (fun _ kk' => XS.iloadN X0.here hx rfl (hb hby own_d1_104) rfl  kk') ?_
            show own_Go p e below K T0 (mkF m 105 #[.val (.int b), .val (.int l'), .unset] [(.int b), (.long (100 : Int64))])
            refine own_go (fun _ kk' => XS.i2l X0.here hx rfl (hb hby own_d1_105) rfl kk') ?_
            show own_Go p e below K T0 (mkF m 106 #[.val (.int b), .val (.int l'), .unset] [(.long (b.toInt64)), (.long (100 : Int64))])
            refine own_go (fun _ kk' => XS.lmul X0.here hx rfl (hb hby own_d1_106) rfl kk') ?_
            show own_Go p e below K T0 (mkF m 107 #[.val (.int b), .val (.int l'), .unset] [(.long ((100 : Int64) * (b.toInt64)))])
            refine own_go (fun tt' kk' => X0.ldc2Long hx hown (mvT hZ (hw _ (List.mem_of_getElem? (i := 17) rfl))) (g := (mkF m 107 #[.val (.int b), .val (.int l'), .unset] [(.long ((100 : Int64) * (b.toInt64)))])) rfl (hb hby own_d1_107) tt' kk') ?_
            show own_Go p e below K T0 (mkF m 110 #[.val (.int b), .val (.int l'), .unset] [(.long (199 : Int64)), (.long ((100 : Int64) * (b.toInt64)))])
            refine own_go (fun _ kk' => XS.iloadN X0.here hx rfl (hb hby own_d1_110) rfl  kk') ?_
            show own_Go p e below K T0 (mkF m 111 #[.val (.int b), .val (.int l'), .unset] [(.int l'), (.long (199 : Int64)), (.long ((100 : Int64) * (b.toInt64)))])
            refine own_go (fun _ kk' => XS.i2l X0.here hx rfl (hb hby own_d1_111) rfl kk') ?_
            show own_Go p e below K T0 (mkF m 112 #[.val (.int b), .val (.int l'), .unset] [(.long (l'.toInt64)), (.long (199 : Int64)), (.long ((100 : Int64) * (b.toInt64)))])
            refine own_go (fun _ kk' => XS.lmul X0.here hx rfl (hb hby own_d1_112) rfl kk') ?_
            show own_Go p e below K T0 (mkF m 113 #[.val (.int b), .val (.int l'), .unset] [(.long ((199 : Int64) * (l'.toInt64))), (.long ((100 : Int64) * (b.toInt64)))])
            refine own_go (fun _ kk' => XS.lcmp X0.here hx rfl (hb hby own_d1_113) rfl kk') ?_
            show own_Go p e below K T0 (mkF m 114 #[.val (.int b), .val (.int l'), .unset] [(.int (lcmpW ((100 : Int64) * (b.toInt64)) ((199 : Int64) * (l'.toInt64))))])
            refine own_go (fun _ kk' => XS.ifYes X0.here hx rfl (pc0 := 114) (pc' := 124) rfl (hb hby own_d1_114) rfl ((if0 _ _).trans (flt (hc36_3 : ¬ ((lcmpW ((100 : Int64) * (b.toInt64)) ((199 : Int64) * (l'.toInt64))) < (0 : Int32)))).2.1) (by decide) (by decide) kk') ?_
            show own_Go p e below K T0 (mkF m 124 #[.val (.int b), .val (.int l'), .unset] [])
            refine own_go (fun tt' kk' => X0.ldc2Long hx hown (mvT hZ (hw _ (List.mem_of_getElem? (i := 16) rfl))) (g := (mkF m 124 #[.val (.int b), .val (.int l'), .unset] [])) rfl (hb hby own_d1_124) tt' kk') ?_
            show own_Go p e below K T0 (mkF m 127 #[.val (.int b), .val (.int l'), .unset] [(.long (100 : Int64))])
            refine own_go (fun _ kk' => XS.iloadN X0.here hx rfl (hb hby own_d1_127) rfl  kk') ?_
            show own_Go p e below K T0 (mkF m 128 #[.val (.int b), .val (.int l'), .unset] [(.int b), (.long (100 : Int64))])
            refine own_go (fun _ kk' => XS.i2l X0.here hx rfl (hb hby own_d1_128) rfl kk') ?_
            show own_Go p e below K T0 (mkF m 129 #[.val (.int b), .val (.int l'), .unset] [(.long (b.toInt64)), (.long (100 : Int64))])
            refine own_go (fun _ kk' => XS.lmul X0.here hx rfl (hb hby own_d1_129) rfl kk') ?_
            show own_Go p e below K T0 (mkF m 130 #[.val (.int b), .val (.int l'), .unset] [(.long ((100 : Int64) * (b.toInt64)))])
            refine own_go (fun tt' kk' => X0.ldc2Long hx hown (mvT hZ (hw _ (List.mem_of_getElem? (i := 27) rfl))) (g := (mkF m 130 #[.val (.int b), .val (.int l'), .unset] [(.long ((100 : Int64) * (b.toInt64)))])) rfl (hb hby own_d1_130) tt' kk') ?_
            show own_Go p e below K T0 (mkF m 133 #[.val (.int b), .val (.int l'), .unset] [(.long (176 : Int64)), (.long ((100 : Int64) * (b.toInt64)))])
            refine own_go (fun _ kk' => XS.iloadN X0.here hx rfl (hb hby own_d1_133) rfl  kk') ?_
            show own_Go p e below K T0 (mkF m 134 #[.val (.int b), .val (.int l'), .unset] [(.int l'), (.long (176 : Int64)), (.long ((100 : Int64) * (b.toInt64)))])
            refine own_go (fun _ kk' => XS.i2l X0.here hx rfl (hb hby own_d1_134) rfl kk') ?_
            show own_Go p e below K T0 (mkF m 135 #[.val (.int b), .val (.int l'), .unset] [(.long (l'.toInt64)), (.long (176 : Int64)), (.long ((100 : Int64) * (b.toInt64)))])
            refine own_go (fun _ kk' => XS.lmul X0.here hx rfl (hb hby own_d1_135) rfl kk') ?_
            show own_Go p e below K T0 (mkF m 136 #[.val (.int b), .val (.int l'), .unset] [(.long ((176 : Int64) * (l'.toInt64))), (.long ((100 : Int64) * (b.toInt64)))])
            refine own_go (fun _ kk' => XS.lcmp X0.here hx rfl (hb hby own_d1_136) rfl kk') ?_
            show own_Go p e below K T0 (mkF m 137 #[.val (.int b), .val (.int l'), .unset] [(.int (lcmpW ((100 : Int64) * (b.toInt64)) ((176 : Int64) * (l'.toInt64))))])
            refine own_go (fun _ kk' => XS.ifYes X0.here hx rfl (pc0 := 137) (pc' := 147) rfl (hb hby own_d1_137) rfl ((if0 _ _).trans (flt (hc98_11 : ¬ ((lcmpW ((100 : Int64) * (b.toInt64)) ((176 : Int64) * (l'.toInt64))) < (0 : Int32)))).2.1) (by decide) (by decide) kk') ?_
            show own_Go p e below K T0 (mkF m 147 #[.val (.int b), .val (.int l'), .unset] [])
            obtain ⟨T13, X13, e13, st13⟩ := getS2 X0 hx hZ hown (host := "") (Or.inl (hw _ (List.mem_of_getElem? (i := 28) rfl))) Via.refl e0 S5 (g := (mkF m 147 #[.val (.int b), .val (.int l'), .unset] [])) rfl (hb hby own_d1_147)
            refine own_go st13 ?_
            show own_Go p e below K T13 (mkF m 150 #[.val (.int b), .val (.int l'), .unset] [(.ref a5)])
            refine own_go (fun _ kk' => XS.astoreN X13.here hx rfl (hb hby own_d1_150) rfl rfl (l' := #[.val (.int b), .val (.int l'), .val (.ref a5)]) rfl kk') ?_
            show own_Go p e below K T13 (mkF m 151 #[.val (.int b), .val (.int l'), .val (.ref a5)] [])
            refine own_go (fun _ kk' => XS.aloadN X13.here hx rfl (hb hby own_d1_151) rfl rfl  kk') ?_
            show own_Go p e below K T13 (mkF m 152 #[.val (.int b), .val (.int l'), .val (.ref a5)] [(.ref a5)])
            simp only [own_LT, own_GT, own_k20, own_k21, own_k100, own_k105, own_k176, own_k199, own_k201, own_k280] at hc13_1 hc36_3 hc52_9 hc75_10 hc98_11
            have hv : own_spec b l' a1 a2 a3 a4 a5 a6 = a5 := by unfold own_spec; (repeat' split) <;> first | rfl | (exfalso; omega)
            exact own_retR X13 hx hlk hK hret rfl rfl (hb hby own_d1_152) (by decide) (by decide) ⟨by rw [hv], N0, e13⟩
        · refine own_go (fun _ kk' => XS.ifNo X0.here hx rfl (hb hby own_d1_75) rfl ((if0 _ _).trans (flt (hc75_10 : ¬ ((lcmpW ((100 : Int64) * (b.toInt64)) ((280 : Int64) * (l'.toInt64))) < (0 : Int32)))).1) kk') ?_
          show own_Go p e below K T0 (mkF m 78 #[.val (.int b), .val (.int l'), .unset] [])
          obtain ⟨T14, X14, e14, st14⟩ := getS2 X0 hx hZ hown (host := "") (Or.inl (hw _ (List.mem_of_getElem? (i := 20) rfl))) Via.refl e0 S6 (g := (mkF m 78 #[.val (.int b), .val (.int l'), .unset] [])) rfl (hb hby own_d1_78)
          refine own_go st14 ?_
          show own_Go p e below K T14 (mkF m 81 #[.val (.int b), .val (.int l'), .unset] [(.ref a6)])
          refine own_go (fun _ kk' => XS.astoreN X14.here hx rfl (hb hby own_d1_81) rfl rfl (l' := #[.val (.int b), .val (.int l'), .val (.ref a6)]) rfl kk') ?_
          show own_Go p e below K T14 (mkF m 82 #[.val (.int b), .val (.int l'), .val (.ref a6)] [])
          refine own_go (fun _ kk' => XS.goto X14.here hx rfl (pc0 := 82) (pc' := 151) rfl (hb hby own_d1_82) (by decide) (by decide) kk') ?_
          show own_Go p e below K T14 (mkF m 151 #[.val (.int b), .val (.int l'), .val (.ref a6)] [])
          refine own_go (fun _ kk' => XS.aloadN X14.here hx rfl (hb hby own_d1_151) rfl rfl  kk') ?_
          show own_Go p e below K T14 (mkF m 152 #[.val (.int b), .val (.int l'), .val (.ref a6)] [(.ref a6)])
          simp only [own_LT, own_GT, own_k20, own_k21, own_k100, own_k105, own_k176, own_k199, own_k201, own_k280] at hc13_1 hc36_3 hc52_9 hc75_10
          have hv : own_spec b l' a1 a2 a3 a4 a5 a6 = a6 := by unfold own_spec; (repeat' split) <;> first | rfl | (exfalso; omega)
          exact own_retR X14 hx hlk hK hret rfl rfl (hb hby own_d1_152) (by decide) (by decide) ⟨by rw [hv], N0, e14⟩
      · refine own_go (fun _ kk' => XS.ifNo X0.here hx rfl (hb hby own_d1_52) rfl ((if0 _ _).trans (flt (hc52_9 : ¬ ((0 : Int32) < (lcmpW ((100 : Int64) * (b.toInt64)) ((201 : Int64) * (l'.toInt64)))))).2.2.1) kk') ?_
        show own_Go p e below K T0 (mkF m 55 #[.val (.int b), .val (.int l'), .unset] [])
        obtain ⟨T15, X15, e15, st15⟩ := getS2 X0 hx hZ hown (host := "") (Or.inl (hw _ (List.mem_of_getElem? (i := 34) rfl))) Via.refl e0 S4 (g := (mkF m 55 #[.val (.int b), .val (.int l'), .unset] [])) rfl (hb hby own_d1_55)
        refine own_go st15 ?_
        show own_Go p e below K T15 (mkF m 58 #[.val (.int b), .val (.int l'), .unset] [(.ref a4)])
        refine own_go (fun _ kk' => XS.astoreN X15.here hx rfl (hb hby own_d1_58) rfl rfl (l' := #[.val (.int b), .val (.int l'), .val (.ref a4)]) rfl kk') ?_
        show own_Go p e below K T15 (mkF m 59 #[.val (.int b), .val (.int l'), .val (.ref a4)] [])
        refine own_go (fun _ kk' => XS.goto X15.here hx rfl (pc0 := 59) (pc' := 151) rfl (hb hby own_d1_59) (by decide) (by decide) kk') ?_
        show own_Go p e below K T15 (mkF m 151 #[.val (.int b), .val (.int l'), .val (.ref a4)] [])
        refine own_go (fun _ kk' => XS.aloadN X15.here hx rfl (hb hby own_d1_151) rfl rfl  kk') ?_
        show own_Go p e below K T15 (mkF m 152 #[.val (.int b), .val (.int l'), .val (.ref a4)] [(.ref a4)])
        simp only [own_LT, own_GT, own_k20, own_k21, own_k100, own_k105, own_k176, own_k199, own_k201, own_k280] at hc13_1 hc36_3 hc52_9
        have hv : own_spec b l' a1 a2 a3 a4 a5 a6 = a4 := by unfold own_spec; (repeat' split) <;> first | rfl | (exfalso; omega)
        exact own_retR X15 hx hlk hK hret rfl rfl (hb hby own_d1_152) (by decide) (by decide) ⟨by rw [hv], N0, e15⟩
abbrev own_rme : Room := { frames := 0, cells := 0, slots := 0, locals := 0 }
set_option maxRecDepth 65536 in
set_option maxHeartbeats 40000000 in
theorem own_me (l : Launch) (Z : State) (a0 : Array Value) (hw : ∀ d ∈ tables_1, d.before a0 Z = true) (b l' : Int32) (a1 a2 a3 a4 a5 a6 : Addr) (h0 : Heap) (n0 : Nat) (Z0 : n0 ≤ h0.size) (S1 : Sta Z h0 "com/example/bitstride/bitstride/text/CopyEncoder$Segment" "MOSTLY_ASCII" "Lcom/example/bitstride/bitstride/text/CopyEncoder$Segment;" (.ref a1)) (S2 : Sta Z h0 "com/example/bitstride/bitstride/text/CopyEncoder$Segment" "SHORT_ASCII_RUNS" "Lcom/example/bitstride/bitstride/text/CopyEncoder$Segment;" (.ref a2)) (S3 : Sta Z h0 "com/example/bitstride/bitstride/text/CopyEncoder$Segment" "TWO_BYTE" "Lcom/example/bitstride/bitstride/text/CopyEncoder$Segment;" (.ref a3)) (S4 : Sta Z h0 "com/example/bitstride/bitstride/text/CopyEncoder$Segment" "MOSTLY_PAIRS" "Lcom/example/bitstride/bitstride/text/CopyEncoder$Segment;" (.ref a4)) (S5 : Sta Z h0 "com/example/bitstride/bitstride/text/CopyEncoder$Segment" "MIXED" "Lcom/example/bitstride/bitstride/text/CopyEncoder$Segment;" (.ref a5)) (S6 : Sta Z h0 "com/example/bitstride/bitstride/text/CopyEncoder$Segment" "THREE_BYTE" "Lcom/example/bitstride/bitstride/text/CopyEncoder$Segment;" (.ref a6)) (hl : 0 ≤ l'.toInt) :
    own_Met l Z (⟨"com/example/bitstride/bitstride/text/SegmentAfterPinLaw", "expected", "(II)Lcom/example/bitstride/bitstride/text/CopyEncoder$Segment;"⟩ : MethodName) method_3_code 6 (some (.object "com/example/bitstride/bitstride/text/CopyEncoder$Segment")) [] own_rme #[(.int b), (.int l')] h0 (own_Qs b l' a1 a2 a3 a4 a5 a6 h0 n0) := by
  refine own_body (plainFor_of_name (by first | (simp [plainName, overriddenIn]; done) | decide +kernel)) (g := fun m => mkF m 0 #[.val (.int b), .val (.int l'), .unset, .unset, .unset, .unset] []) (fun m => by first | (simp [entryFrame, mkF, argsToLocals, Value.category]; done) | rfl) ?_
  intro p e s m A below meth c T0 K X0 hx hby hml hown hnm hret hlk hZ e0 hK
  have N0 := Fr.nil n0
  show own_Go p e below K T0 (mkF m 0 #[.val (.int b), .val (.int l'), .unset, .unset, .unset, .unset] [])
  refine own_go (fun tt' kk' => X0.ldc2Long hx hown (mvT hZ (hw _ (List.mem_of_getElem? (i := 13) rfl))) (g := (mkF m 0 #[.val (.int b), .val (.int l'), .unset, .unset, .unset, .unset] [])) rfl (hb hby own_d2_0) tt' kk') ?_
  show own_Go p e below K T0 (mkF m 3 #[.val (.int b), .val (.int l'), .unset, .unset, .unset, .unset] [(.long (100 : Int64))])
  refine own_go (fun _ kk' => XS.iloadN X0.here hx rfl (hb hby own_d2_3) rfl  kk') ?_
  show own_Go p e below K T0 (mkF m 4 #[.val (.int b), .val (.int l'), .unset, .unset, .unset, .unset] [(.int b), (.long (100 : Int64))])
  refine own_go (fun _ kk' => XS.i2l X0.here hx rfl (hb hby own_d2_4) rfl kk') ?_
  show own_Go p e below K T0 (mkF m 5 #[.val (.int b), .val (.int l'), .unset, .unset, .unset, .unset] [(.long (b.toInt64)), (.long (100 : Int64))])
  refine own_go (fun _ kk' => XS.lmul X0.here hx rfl (hb hby own_d2_5) rfl kk') ?_
  show own_Go p e below K T0 (mkF m 6 #[.val (.int b), .val (.int l'), .unset, .unset, .unset, .unset] [(.long ((100 : Int64) * (b.toInt64)))])
  refine own_go (fun _ kk' => XS.lstoreN X0.here hx rfl (hb hby own_d2_6) rfl (l' := #[.val (.int b), .val (.int l'), .val (.long ((100 : Int64) * (b.toInt64))), .second, .unset, .unset]) rfl kk') ?_
  show own_Go p e below K T0 (mkF m 7 #[.val (.int b), .val (.int l'), .val (.long ((100 : Int64) * (b.toInt64))), .second, .unset, .unset] [])
  refine own_go (fun _ kk' => XS.iloadN X0.here hx rfl (hb hby own_d2_7) rfl  kk') ?_
  show own_Go p e below K T0 (mkF m 8 #[.val (.int b), .val (.int l'), .val (.long ((100 : Int64) * (b.toInt64))), .second, .unset, .unset] [(.int l')])
  refine own_go (fun _ kk' => XS.i2l X0.here hx rfl (hb hby own_d2_8) rfl kk') ?_
  show own_Go p e below K T0 (mkF m 9 #[.val (.int b), .val (.int l'), .val (.long ((100 : Int64) * (b.toInt64))), .second, .unset, .unset] [(.long (l'.toInt64))])
  refine own_go (fun _ kk' => XS.lstore X0.here hx rfl (hb hby own_d2_9) rfl (l' := #[.val (.int b), .val (.int l'), .val (.long ((100 : Int64) * (b.toInt64))), .second, .val (.long (l'.toInt64)), .second]) rfl kk') ?_
  show own_Go p e below K T0 (mkF m 11 #[.val (.int b), .val (.int l'), .val (.long ((100 : Int64) * (b.toInt64))), .second, .val (.long (l'.toInt64)), .second] [])
  refine own_go (fun _ kk' => XS.lloadN X0.here hx rfl (hb hby own_d2_11) rfl  kk') ?_
  show own_Go p e below K T0 (mkF m 12 #[.val (.int b), .val (.int l'), .val (.long ((100 : Int64) * (b.toInt64))), .second, .val (.long (l'.toInt64)), .second] [(.long ((100 : Int64) * (b.toInt64)))])
  refine own_go (fun tt' kk' => X0.ldc2Long hx hown (mvT hZ (hw _ (List.mem_of_getElem? (i := 14) rfl))) (g := (mkF m 12 #[.val (.int b), .val (.int l'), .val (.long ((100 : Int64) * (b.toInt64))), .second, .val (.long (l'.toInt64)), .second] [(.long ((100 : Int64) * (b.toInt64)))])) rfl (hb hby own_d2_12) tt' kk') ?_
  show own_Go p e below K T0 (mkF m 15 #[.val (.int b), .val (.int l'), .val (.long ((100 : Int64) * (b.toInt64))), .second, .val (.long (l'.toInt64)), .second] [(.long (105 : Int64)), (.long ((100 : Int64) * (b.toInt64)))])
  refine own_go (fun _ kk' => XS.lload X0.here hx rfl (hb hby own_d2_15) rfl  kk') ?_
  show own_Go p e below K T0 (mkF m 17 #[.val (.int b), .val (.int l'), .val (.long ((100 : Int64) * (b.toInt64))), .second, .val (.long (l'.toInt64)), .second] [(.long (l'.toInt64)), (.long (105 : Int64)), (.long ((100 : Int64) * (b.toInt64)))])
  refine own_go (fun _ kk' => XS.lmul X0.here hx rfl (hb hby own_d2_17) rfl kk') ?_
  show own_Go p e below K T0 (mkF m 18 #[.val (.int b), .val (.int l'), .val (.long ((100 : Int64) * (b.toInt64))), .second, .val (.long (l'.toInt64)), .second] [(.long ((105 : Int64) * (l'.toInt64))), (.long ((100 : Int64) * (b.toInt64)))])
  refine own_go (fun _ kk' => XS.lcmp X0.here hx rfl (hb hby own_d2_18) rfl kk') ?_
  show own_Go p e below K T0 (mkF m 19 #[.val (.int b), .val (.int l'), .val (.long ((100 : Int64) * (b.toInt64))), .second, .val (.long (l'.toInt64)), .second] [(.int (lcmpW ((100 : Int64) * (b.toInt64)) ((105 : Int64) * (l'.toInt64))))])
  by_cases hc19_16 : (lcmpW ((100 : Int64) * (b.toInt64)) ((105 : Int64) * (l'.toInt64))) < (0 : Int32)
  · refine own_go (fun _ kk' => XS.ifNo X0.here hx rfl (hb hby own_d2_19) rfl ((if0 _ _).trans (tlt (hc19_16 : (lcmpW ((100 : Int64) * (b.toInt64)) ((105 : Int64) * (l'.toInt64))) < (0 : Int32))).2.1) kk') ?_
    show own_Go p e below K T0 (mkF m 22 #[.val (.int b), .val (.int l'), .val (.long ((100 : Int64) * (b.toInt64))), .second, .val (.long (l'.toInt64)), .second] [])
    obtain ⟨T17, X17, e17, st17⟩ := getS2 X0 hx hZ hown (host := "") (Or.inl (hw _ (List.mem_of_getElem? (i := 15) rfl))) Via.refl e0 S1 (g := (mkF m 22 #[.val (.int b), .val (.int l'), .val (.long ((100 : Int64) * (b.toInt64))), .second, .val (.long (l'.toInt64)), .second] [])) rfl (hb hby own_d2_22)
    refine own_go st17 ?_
    show own_Go p e below K T17 (mkF m 25 #[.val (.int b), .val (.int l'), .val (.long ((100 : Int64) * (b.toInt64))), .second, .val (.long (l'.toInt64)), .second] [(.ref a1)])
    simp only [own_LT, own_GT, own_k20, own_k21, own_k100, own_k105, own_k176, own_k199, own_k201, own_k280] at hc19_16
    have hv : own_spec b l' a1 a2 a3 a4 a5 a6 = a1 := by unfold own_spec; (repeat' split) <;> first | rfl | (exfalso; omega)
    exact own_retR X17 hx hlk hK hret rfl rfl (hb hby own_d2_25) (by decide) (by decide) ⟨by rw [hv], N0, e17⟩
  · refine own_go (fun _ kk' => XS.ifYes X0.here hx rfl (pc0 := 19) (pc' := 26) rfl (hb hby own_d2_19) rfl ((if0 _ _).trans (flt (hc19_16 : ¬ ((lcmpW ((100 : Int64) * (b.toInt64)) ((105 : Int64) * (l'.toInt64))) < (0 : Int32)))).2.1) (by decide) (by decide) kk') ?_
    show own_Go p e below K T0 (mkF m 26 #[.val (.int b), .val (.int l'), .val (.long ((100 : Int64) * (b.toInt64))), .second, .val (.long (l'.toInt64)), .second] [])
    refine own_go (fun _ kk' => XS.lloadN X0.here hx rfl (hb hby own_d2_26) rfl  kk') ?_
    show own_Go p e below K T0 (mkF m 27 #[.val (.int b), .val (.int l'), .val (.long ((100 : Int64) * (b.toInt64))), .second, .val (.long (l'.toInt64)), .second] [(.long ((100 : Int64) * (b.toInt64)))])
    refine own_go (fun tt' kk' => X0.ldc2Long hx hown (mvT hZ (hw _ (List.mem_of_getElem? (i := 22) rfl))) (g := (mkF m 27 #[.val (.int b), .val (.int l'), .val (.long ((100 : Int64) * (b.toInt64))), .second, .val (.long (l'.toInt64)), .second] [(.long ((100 : Int64) * (b.toInt64)))])) rfl (hb hby own_d2_27) tt' kk') ?_
    show own_Go p e below K T0 (mkF m 30 #[.val (.int b), .val (.int l'), .val (.long ((100 : Int64) * (b.toInt64))), .second, .val (.long (l'.toInt64)), .second] [(.long (176 : Int64)), (.long ((100 : Int64) * (b.toInt64)))])
    refine own_go (fun _ kk' => XS.lload X0.here hx rfl (hb hby own_d2_30) rfl  kk') ?_
    show own_Go p e below K T0 (mkF m 32 #[.val (.int b), .val (.int l'), .val (.long ((100 : Int64) * (b.toInt64))), .second, .val (.long (l'.toInt64)), .second] [(.long (l'.toInt64)), (.long (176 : Int64)), (.long ((100 : Int64) * (b.toInt64)))])
    refine own_go (fun _ kk' => XS.lmul X0.here hx rfl (hb hby own_d2_32) rfl kk') ?_
    show own_Go p e below K T0 (mkF m 33 #[.val (.int b), .val (.int l'), .val (.long ((100 : Int64) * (b.toInt64))), .second, .val (.long (l'.toInt64)), .second] [(.long ((176 : Int64) * (l'.toInt64))), (.long ((100 : Int64) * (b.toInt64)))])
    refine own_go (fun _ kk' => XS.lcmp X0.here hx rfl (hb hby own_d2_33) rfl kk') ?_
    show own_Go p e below K T0 (mkF m 34 #[.val (.int b), .val (.int l'), .val (.long ((100 : Int64) * (b.toInt64))), .second, .val (.long (l'.toInt64)), .second] [(.int (lcmpW ((100 : Int64) * (b.toInt64)) ((176 : Int64) * (l'.toInt64))))])
    by_cases hc34_18 : (lcmpW ((100 : Int64) * (b.toInt64)) ((176 : Int64) * (l'.toInt64))) < (0 : Int32)
    · refine own_go (fun _ kk' => XS.ifNo X0.here hx rfl (hb hby own_d2_34) rfl ((if0 _ _).trans (tlt (hc34_18 : (lcmpW ((100 : Int64) * (b.toInt64)) ((176 : Int64) * (l'.toInt64))) < (0 : Int32))).2.1) kk') ?_
      show own_Go p e below K T0 (mkF m 37 #[.val (.int b), .val (.int l'), .val (.long ((100 : Int64) * (b.toInt64))), .second, .val (.long (l'.toInt64)), .second] [])
      obtain ⟨T19, X19, e19, st19⟩ := getS2 X0 hx hZ hown (host := "") (Or.inl (hw _ (List.mem_of_getElem? (i := 33) rfl))) Via.refl e0 S2 (g := (mkF m 37 #[.val (.int b), .val (.int l'), .val (.long ((100 : Int64) * (b.toInt64))), .second, .val (.long (l'.toInt64)), .second] [])) rfl (hb hby own_d2_37)
      refine own_go st19 ?_
      show own_Go p e below K T19 (mkF m 40 #[.val (.int b), .val (.int l'), .val (.long ((100 : Int64) * (b.toInt64))), .second, .val (.long (l'.toInt64)), .second] [(.ref a2)])
      simp only [own_LT, own_GT, own_k20, own_k21, own_k100, own_k105, own_k176, own_k199, own_k201, own_k280] at hc19_16 hc34_18
      have hv : own_spec b l' a1 a2 a3 a4 a5 a6 = a2 := by unfold own_spec; (repeat' split) <;> first | rfl | (exfalso; omega)
      exact own_retR X19 hx hlk hK hret rfl rfl (hb hby own_d2_40) (by decide) (by decide) ⟨by rw [hv], N0, e19⟩
    · refine own_go (fun _ kk' => XS.ifYes X0.here hx rfl (pc0 := 34) (pc' := 41) rfl (hb hby own_d2_34) rfl ((if0 _ _).trans (flt (hc34_18 : ¬ ((lcmpW ((100 : Int64) * (b.toInt64)) ((176 : Int64) * (l'.toInt64))) < (0 : Int32)))).2.1) (by decide) (by decide) kk') ?_
      show own_Go p e below K T0 (mkF m 41 #[.val (.int b), .val (.int l'), .val (.long ((100 : Int64) * (b.toInt64))), .second, .val (.long (l'.toInt64)), .second] [])
      refine own_go (fun _ kk' => XS.lloadN X0.here hx rfl (hb hby own_d2_41) rfl  kk') ?_
      show own_Go p e below K T0 (mkF m 42 #[.val (.int b), .val (.int l'), .val (.long ((100 : Int64) * (b.toInt64))), .second, .val (.long (l'.toInt64)), .second] [(.long ((100 : Int64) * (b.toInt64)))])
      refine own_go (fun tt' kk' => X0.ldc2Long hx hown (mvT hZ (hw _ (List.mem_of_getElem? (i := 23) rfl))) (g := (mkF m 42 #[.val (.int b), .val (.int l'), .val (.long ((100 : Int64) * (b.toInt64))), .second, .val (.long (l'.toInt64)), .second] [(.long ((100 : Int64) * (b.toInt64)))])) rfl (hb hby own_d2_42) tt' kk') ?_
      show own_Go p e below K T0 (mkF m 45 #[.val (.int b), .val (.int l'), .val (.long ((100 : Int64) * (b.toInt64))), .second, .val (.long (l'.toInt64)), .second] [(.long (199 : Int64)), (.long ((100 : Int64) * (b.toInt64)))])
      refine own_go (fun _ kk' => XS.lload X0.here hx rfl (hb hby own_d2_45) rfl  kk') ?_
      show own_Go p e below K T0 (mkF m 47 #[.val (.int b), .val (.int l'), .val (.long ((100 : Int64) * (b.toInt64))), .second, .val (.long (l'.toInt64)), .second] [(.long (l'.toInt64)), (.long (199 : Int64)), (.long ((100 : Int64) * (b.toInt64)))])
      refine own_go (fun _ kk' => XS.lmul X0.here hx rfl (hb hby own_d2_47) rfl kk') ?_
      show own_Go p e below K T0 (mkF m 48 #[.val (.int b), .val (.int l'), .val (.long ((100 : Int64) * (b.toInt64))), .second, .val (.long (l'.toInt64)), .second] [(.long ((199 : Int64) * (l'.toInt64))), (.long ((100 : Int64) * (b.toInt64)))])
      refine own_go (fun _ kk' => XS.lcmp X0.here hx rfl (hb hby own_d2_48) rfl kk') ?_
      show own_Go p e below K T0 (mkF m 49 #[.val (.int b), .val (.int l'), .val (.long ((100 : Int64) * (b.toInt64))), .second, .val (.long (l'.toInt64)), .second] [(.int (lcmpW ((100 : Int64) * (b.toInt64)) ((199 : Int64) * (l'.toInt64))))])
      by_cases hc49_20 : (lcmpW ((100 : Int64) * (b.toInt64)) ((199 : Int64) * (l'.toInt64))) < (0 : Int32)
      · refine own_go (fun _ kk' => XS.ifNo X0.here hx rfl (hb hby own_d2_49) rfl ((if0 _ _).trans (tlt (hc49_20 : (lcmpW ((100 : Int64) * (b.toInt64)) ((199 : Int64) * (l'.toInt64))) < (0 : Int32))).2.1) kk') ?_
        show own_Go p e below K T0 (mkF m 52 #[.val (.int b), .val (.int l'), .val (.long ((100 : Int64) * (b.toInt64))), .second, .val (.long (l'.toInt64)), .second] [])
        obtain ⟨T21, X21, e21, st21⟩ := getS2 X0 hx hZ hown (host := "") (Or.inl (hw _ (List.mem_of_getElem? (i := 39) rfl))) Via.refl e0 S3 (g := (mkF m 52 #[.val (.int b), .val (.int l'), .val (.long ((100 : Int64) * (b.toInt64))), .second, .val (.long (l'.toInt64)), .second] [])) rfl (hb hby own_d2_52)
        refine own_go st21 ?_
        show own_Go p e below K T21 (mkF m 55 #[.val (.int b), .val (.int l'), .val (.long ((100 : Int64) * (b.toInt64))), .second, .val (.long (l'.toInt64)), .second] [(.ref a3)])
        simp only [own_LT, own_GT, own_k20, own_k21, own_k100, own_k105, own_k176, own_k199, own_k201, own_k280] at hc19_16 hc34_18 hc49_20
        have hv : own_spec b l' a1 a2 a3 a4 a5 a6 = a3 := by unfold own_spec; (repeat' split) <;> first | rfl | (exfalso; omega)
        exact own_retR X21 hx hlk hK hret rfl rfl (hb hby own_d2_55) (by decide) (by decide) ⟨by rw [hv], N0, e21⟩
      · refine own_go (fun _ kk' => XS.ifYes X0.here hx rfl (pc0 := 49) (pc' := 56) rfl (hb hby own_d2_49) rfl ((if0 _ _).trans (flt (hc49_20 : ¬ ((lcmpW ((100 : Int64) * (b.toInt64)) ((199 : Int64) * (l'.toInt64))) < (0 : Int32)))).2.1) (by decide) (by decide) kk') ?_
        show own_Go p e below K T0 (mkF m 56 #[.val (.int b), .val (.int l'), .val (.long ((100 : Int64) * (b.toInt64))), .second, .val (.long (l'.toInt64)), .second] [])
        refine own_go (fun _ kk' => XS.lloadN X0.here hx rfl (hb hby own_d2_56) rfl  kk') ?_
        show own_Go p e below K T0 (mkF m 57 #[.val (.int b), .val (.int l'), .val (.long ((100 : Int64) * (b.toInt64))), .second, .val (.long (l'.toInt64)), .second] [(.long ((100 : Int64) * (b.toInt64)))])
        refine own_go (fun tt' kk' => X0.ldc2Long hx hown (mvT hZ (hw _ (List.mem_of_getElem? (i := 24) rfl))) (g := (mkF m 57 #[.val (.int b), .val (.int l'), .val (.long ((100 : Int64) * (b.toInt64))), .second, .val (.long (l'.toInt64)), .second] [(.long ((100 : Int64) * (b.toInt64)))])) rfl (hb hby own_d2_57) tt' kk') ?_
        show own_Go p e below K T0 (mkF m 60 #[.val (.int b), .val (.int l'), .val (.long ((100 : Int64) * (b.toInt64))), .second, .val (.long (l'.toInt64)), .second] [(.long (201 : Int64)), (.long ((100 : Int64) * (b.toInt64)))])
        refine own_go (fun _ kk' => XS.lload X0.here hx rfl (hb hby own_d2_60) rfl  kk') ?_
        show own_Go p e below K T0 (mkF m 62 #[.val (.int b), .val (.int l'), .val (.long ((100 : Int64) * (b.toInt64))), .second, .val (.long (l'.toInt64)), .second] [(.long (l'.toInt64)), (.long (201 : Int64)), (.long ((100 : Int64) * (b.toInt64)))])
        refine own_go (fun _ kk' => XS.lmul X0.here hx rfl (hb hby own_d2_62) rfl kk') ?_
        show own_Go p e below K T0 (mkF m 63 #[.val (.int b), .val (.int l'), .val (.long ((100 : Int64) * (b.toInt64))), .second, .val (.long (l'.toInt64)), .second] [(.long ((201 : Int64) * (l'.toInt64))), (.long ((100 : Int64) * (b.toInt64)))])
        refine own_go (fun _ kk' => XS.lcmp X0.here hx rfl (hb hby own_d2_63) rfl kk') ?_
        show own_Go p e below K T0 (mkF m 64 #[.val (.int b), .val (.int l'), .val (.long ((100 : Int64) * (b.toInt64))), .second, .val (.long (l'.toInt64)), .second] [(.int (lcmpW ((100 : Int64) * (b.toInt64)) ((201 : Int64) * (l'.toInt64))))])
        by_cases hc64_22 : (0 : Int32) < (lcmpW ((100 : Int64) * (b.toInt64)) ((201 : Int64) * (l'.toInt64)))
        · refine own_go (fun _ kk' => XS.ifYes X0.here hx rfl (pc0 := 64) (pc' := 71) rfl (hb hby own_d2_64) rfl ((if0 _ _).trans (tlt (hc64_22 : (0 : Int32) < (lcmpW ((100 : Int64) * (b.toInt64)) ((201 : Int64) * (l'.toInt64))))).2.2.1) (by decide) (by decide) kk') ?_
          show own_Go p e below K T0 (mkF m 71 #[.val (.int b), .val (.int l'), .val (.long ((100 : Int64) * (b.toInt64))), .second, .val (.long (l'.toInt64)), .second] [])
          refine own_go (fun _ kk' => XS.lloadN X0.here hx rfl (hb hby own_d2_71) rfl  kk') ?_
          show own_Go p e below K T0 (mkF m 72 #[.val (.int b), .val (.int l'), .val (.long ((100 : Int64) * (b.toInt64))), .second, .val (.long (l'.toInt64)), .second] [(.long ((100 : Int64) * (b.toInt64)))])
          refine own_go (fun tt' kk' => X0.ldc2Long hx hown (mvT hZ (hw _ (List.mem_of_getElem? (i := 25) rfl))) (g := (mkF m 72 #[.val (.int b), .val (.int l'), .val (.long ((100 : Int64) * (b.toInt64))), .second, .val (.long (l'.toInt64)), .second] [(.long ((100 : Int64) * (b.toInt64)))])) rfl (hb hby own_d2_72) tt' kk') ?_
          show own_Go p e below K T0 (mkF m 75 #[.val (.int b), .val (.int l'), .val (.long ((100 : Int64) * (b.toInt64))), .second, .val (.long (l'.toInt64)), .second] [(.long (280 : Int64)), (.long ((100 : Int64) * (b.toInt64)))])
          refine own_go (fun _ kk' => XS.lload X0.here hx rfl (hb hby own_d2_75) rfl  kk') ?_
          show own_Go p e below K T0 (mkF m 77 #[.val (.int b), .val (.int l'), .val (.long ((100 : Int64) * (b.toInt64))), .second, .val (.long (l'.toInt64)), .second] [(.long (l'.toInt64)), (.long (280 : Int64)), (.long ((100 : Int64) * (b.toInt64)))])
          refine own_go (fun _ kk' => XS.lmul X0.here hx rfl (hb hby own_d2_77) rfl kk') ?_
          show own_Go p e below K T0 (mkF m 78 #[.val (.int b), .val (.int l'), .val (.long ((100 : Int64) * (b.toInt64))), .second, .val (.long (l'.toInt64)), .second] [(.long ((280 : Int64) * (l'.toInt64))), (.long ((100 : Int64) * (b.toInt64)))])
          refine own_go (fun _ kk' => XS.lcmp X0.here hx rfl (hb hby own_d2_78) rfl kk') ?_
          show own_Go p e below K T0 (mkF m 79 #[.val (.int b), .val (.int l'), .val (.long ((100 : Int64) * (b.toInt64))), .second, .val (.long (l'.toInt64)), .second] [(.int (lcmpW ((100 : Int64) * (b.toInt64)) ((280 : Int64) * (l'.toInt64))))])
          by_cases hc79_23 : (lcmpW ((100 : Int64) * (b.toInt64)) ((280 : Int64) * (l'.toInt64))) < (0 : Int32)
          · refine own_go (fun _ kk' => XS.ifNo X0.here hx rfl (hb hby own_d2_79) rfl ((if0 _ _).trans (tlt (hc79_23 : (lcmpW ((100 : Int64) * (b.toInt64)) ((280 : Int64) * (l'.toInt64))) < (0 : Int32))).2.1) kk') ?_
            show own_Go p e below K T0 (mkF m 82 #[.val (.int b), .val (.int l'), .val (.long ((100 : Int64) * (b.toInt64))), .second, .val (.long (l'.toInt64)), .second] [])
            obtain ⟨T24, X24, e24, st24⟩ := getS2 X0 hx hZ hown (host := "") (Or.inl (hw _ (List.mem_of_getElem? (i := 30) rfl))) Via.refl e0 S5 (g := (mkF m 82 #[.val (.int b), .val (.int l'), .val (.long ((100 : Int64) * (b.toInt64))), .second, .val (.long (l'.toInt64)), .second] [])) rfl (hb hby own_d2_82)
            refine own_go st24 ?_
            show own_Go p e below K T24 (mkF m 85 #[.val (.int b), .val (.int l'), .val (.long ((100 : Int64) * (b.toInt64))), .second, .val (.long (l'.toInt64)), .second] [(.ref a5)])
            simp only [own_LT, own_GT, own_k20, own_k21, own_k100, own_k105, own_k176, own_k199, own_k201, own_k280] at hc19_16 hc34_18 hc49_20 hc64_22 hc79_23
            have hv : own_spec b l' a1 a2 a3 a4 a5 a6 = a5 := by unfold own_spec; (repeat' split) <;> first | rfl | (exfalso; omega)
            exact own_retR X24 hx hlk hK hret rfl rfl (hb hby own_d2_85) (by decide) (by decide) ⟨by rw [hv], N0, e24⟩
          · refine own_go (fun _ kk' => XS.ifYes X0.here hx rfl (pc0 := 79) (pc' := 86) rfl (hb hby own_d2_79) rfl ((if0 _ _).trans (flt (hc79_23 : ¬ ((lcmpW ((100 : Int64) * (b.toInt64)) ((280 : Int64) * (l'.toInt64))) < (0 : Int32)))).2.1) (by decide) (by decide) kk') ?_
            show own_Go p e below K T0 (mkF m 86 #[.val (.int b), .val (.int l'), .val (.long ((100 : Int64) * (b.toInt64))), .second, .val (.long (l'.toInt64)), .second] [])
            obtain ⟨T25, X25, e25, st25⟩ := getS2 X0 hx hZ hown (host := "") (Or.inl (hw _ (List.mem_of_getElem? (i := 26) rfl))) Via.refl e0 S6 (g := (mkF m 86 #[.val (.int b), .val (.int l'), .val (.long ((100 : Int64) * (b.toInt64))), .second, .val (.long (l'.toInt64)), .second] [])) rfl (hb hby own_d2_86)
            refine own_go st25 ?_
            show own_Go p e below K T25 (mkF m 89 #[.val (.int b), .val (.int l'), .val (.long ((100 : Int64) * (b.toInt64))), .second, .val (.long (l'.toInt64)), .second] [(.ref a6)])
            simp only [own_LT, own_GT, own_k20, own_k21, own_k100, own_k105, own_k176, own_k199, own_k201, own_k280] at hc19_16 hc34_18 hc49_20 hc64_22 hc79_23
            have hv : own_spec b l' a1 a2 a3 a4 a5 a6 = a6 := by unfold own_spec; (repeat' split) <;> first | rfl | (exfalso; omega)
            exact own_retR X25 hx hlk hK hret rfl rfl (hb hby own_d2_89) (by decide) (by decide) ⟨by rw [hv], N0, e25⟩
        · refine own_go (fun _ kk' => XS.ifNo X0.here hx rfl (hb hby own_d2_64) rfl ((if0 _ _).trans (flt (hc64_22 : ¬ ((0 : Int32) < (lcmpW ((100 : Int64) * (b.toInt64)) ((201 : Int64) * (l'.toInt64)))))).2.2.1) kk') ?_
          show own_Go p e below K T0 (mkF m 67 #[.val (.int b), .val (.int l'), .val (.long ((100 : Int64) * (b.toInt64))), .second, .val (.long (l'.toInt64)), .second] [])
          obtain ⟨T26, X26, e26, st26⟩ := getS2 X0 hx hZ hown (host := "") (Or.inl (hw _ (List.mem_of_getElem? (i := 36) rfl))) Via.refl e0 S4 (g := (mkF m 67 #[.val (.int b), .val (.int l'), .val (.long ((100 : Int64) * (b.toInt64))), .second, .val (.long (l'.toInt64)), .second] [])) rfl (hb hby own_d2_67)
          refine own_go st26 ?_
          show own_Go p e below K T26 (mkF m 70 #[.val (.int b), .val (.int l'), .val (.long ((100 : Int64) * (b.toInt64))), .second, .val (.long (l'.toInt64)), .second] [(.ref a4)])
          simp only [own_LT, own_GT, own_k20, own_k21, own_k100, own_k105, own_k176, own_k199, own_k201, own_k280] at hc19_16 hc34_18 hc49_20 hc64_22
          have hv : own_spec b l' a1 a2 a3 a4 a5 a6 = a4 := by unfold own_spec; (repeat' split) <;> first | rfl | (exfalso; omega)
          exact own_retR X26 hx hlk hK hret rfl rfl (hb hby own_d2_70) (by decide) (by decide) ⟨by rw [hv], N0, e26⟩
def own_Q (n0 : Nat) (v : Option Value) (h : Heap) (L : List Loc) : Prop := v = some (.int 1) ∧ Fr n0 L
theorem own_pd0 : parseMethodDescriptor "(II)Lcom/example/bitstride/bitstride/text/CopyEncoder$Segment;" = some ⟨[.int, .int], some (.object "com/example/bitstride/bitstride/text/CopyEncoder$Segment")⟩ := by decide +kernel
/- the law needs frames 1, cells 0, slots 0, locals 18 -/
set_option maxRecDepth 65536 in
set_option maxHeartbeats 40000000 in
theorem own_law (l : Launch) (Z : State) (a0 : Array Value) (hw : ∀ d ∈ tables_1, d.before a0 Z = true) (x0 y0 : Int32) (a1 a2 a3 a4 a5 a6 : Addr) (h0 : Heap) (n0 : Nat) (Z0 : n0 ≤ h0.size) (S1 : Sta Z h0 "com/example/bitstride/bitstride/text/CopyEncoder$Segment" "MOSTLY_ASCII" "Lcom/example/bitstride/bitstride/text/CopyEncoder$Segment;" (.ref a1)) (S2 : Sta Z h0 "com/example/bitstride/bitstride/text/CopyEncoder$Segment" "SHORT_ASCII_RUNS" "Lcom/example/bitstride/bitstride/text/CopyEncoder$Segment;" (.ref a2)) (S3 : Sta Z h0 "com/example/bitstride/bitstride/text/CopyEncoder$Segment" "TWO_BYTE" "Lcom/example/bitstride/bitstride/text/CopyEncoder$Segment;" (.ref a3)) (S4 : Sta Z h0 "com/example/bitstride/bitstride/text/CopyEncoder$Segment" "MOSTLY_PAIRS" "Lcom/example/bitstride/bitstride/text/CopyEncoder$Segment;" (.ref a4)) (S5 : Sta Z h0 "com/example/bitstride/bitstride/text/CopyEncoder$Segment" "MIXED" "Lcom/example/bitstride/bitstride/text/CopyEncoder$Segment;" (.ref a5)) (S6 : Sta Z h0 "com/example/bitstride/bitstride/text/CopyEncoder$Segment" "THREE_BYTE" "Lcom/example/bitstride/bitstride/text/CopyEncoder$Segment;" (.ref a6)) :
    own_Met l Z x code maxLocals ret tables_1 room_1 #[(.int x0), (.int y0)] h0 (own_Q n0) := by
  refine own_body (plainFor_of_name (by first | (simp [plainName, overriddenIn]; done) | decide +kernel)) (g := fun m => mkF m 0 #[.val (.int x0), .val (.int y0), .unset, .unset, .unset] []) (fun m => by first | (simp [entryFrame, mkF, argsToLocals, Value.category, maxLocals]; done) | rfl) ?_
  intro p e s m A below meth c T0 K X0 hx hby hml hown hnm hret hlk hZ e0 hK
  have N0 := Fr.nil n0
  show own_Go p e below K T0 (mkF m 0 #[.val (.int x0), .val (.int y0), .unset, .unset, .unset] [])
  have hl : 0 ≤ (y0 &&& (2147483647 : Int32)).toInt := (c_and y0 _ (by decide)).1
  refine own_go (fun _ kk' => XS.iloadN X0.here hx rfl (hb hby at_0) rfl  kk') ?_
  show own_Go p e below K T0 (mkF m 1 #[.val (.int x0), .val (.int y0), .unset, .unset, .unset] [(.int x0)])
  refine own_go (fun _ kk' => XS.istoreN X0.here hx rfl (hb hby at_1) rfl (l' := #[.val (.int x0), .val (.int y0), .val (.int x0), .unset, .unset]) rfl kk') ?_
  show own_Go p e below K T0 (mkF m 2 #[.val (.int x0), .val (.int y0), .val (.int x0), .unset, .unset] [])
  refine own_go (fun _ kk' => XS.iloadN X0.here hx rfl (hb hby at_2) rfl  kk') ?_
  show own_Go p e below K T0 (mkF m 3 #[.val (.int x0), .val (.int y0), .val (.int x0), .unset, .unset] [(.int y0)])
  refine own_go (fun tt' kk' => X0.ldcInt hx hown (mvT hZ (hw _ (List.mem_of_getElem? (i := 0) rfl))) (g := (mkF m 3 #[.val (.int x0), .val (.int y0), .val (.int x0), .unset, .unset] [(.int y0)])) rfl (hb hby at_3) tt' kk') ?_
  show own_Go p e below K T0 (mkF m 5 #[.val (.int x0), .val (.int y0), .val (.int x0), .unset, .unset] [(.int (2147483647 : Int32)), (.int y0)])
  refine own_go (fun _ kk' => XS.iand X0.here hx rfl (hb hby at_5) rfl kk') ?_
  show own_Go p e below K T0 (mkF m 6 #[.val (.int x0), .val (.int y0), .val (.int x0), .unset, .unset] [(.int (y0 &&& (2147483647 : Int32)))])
  refine own_go (fun _ kk' => XS.istoreN X0.here hx rfl (hb hby at_6) rfl (l' := #[.val (.int x0), .val (.int y0), .val (.int x0), .val (.int (y0 &&& (2147483647 : Int32))), .unset]) rfl kk') ?_
  show own_Go p e below K T0 (mkF m 7 #[.val (.int x0), .val (.int y0), .val (.int x0), .val (.int (y0 &&& (2147483647 : Int32))), .unset] [])
  refine own_go (fun _ kk' => XS.iloadN X0.here hx rfl (hb hby at_7) rfl  kk') ?_
  show own_Go p e below K T0 (mkF m 8 #[.val (.int x0), .val (.int y0), .val (.int x0), .val (.int (y0 &&& (2147483647 : Int32))), .unset] [(.int x0)])
  refine own_go (fun _ kk' => XS.iloadN X0.here hx rfl (hb hby at_8) rfl  kk') ?_
  show own_Go p e below K T0 (mkF m 9 #[.val (.int x0), .val (.int y0), .val (.int x0), .val (.int (y0 &&& (2147483647 : Int32))), .unset] [(.int (y0 &&& (2147483647 : Int32))), (.int x0)])
  refine own_callS X0 hx hZ (y := (⟨"com/example/bitstride/bitstride/text/CopyEncoder$Segment", "after", "(II)Lcom/example/bitstride/bitstride/text/CopyEncoder$Segment;"⟩ : MethodName)) hown (hw _ (List.mem_of_getElem? (i := 1) rfl)) (hw _ (List.mem_of_getElem? (i := 2) rfl)) (hw _ (List.mem_of_getElem? (i := 3) rfl)) (hw _ (List.mem_of_getElem? (i := 4) rfl)) (by decide) e0 (rm := own_rma) (argsL := [(.int x0), (.int (y0 &&& (2147483647 : Int32)))]) (rest := []) (own_ma l Z a0 hw x0 (y0 &&& (2147483647 : Int32)) a1 a2 a3 a4 a5 a6 h0 n0 Z0 S1 S2 S3 S4 S5 S6 hl) (W := 0) (by decide) (by decide) (by decide) (by decide) (g := (mkF m 9 #[.val (.int x0), .val (.int y0), .val (.int x0), .val (.int (y0 &&& (2147483647 : Int32))), .unset] [(.int (y0 &&& (2147483647 : Int32))), (.int x0)])) rfl (by rw [hml]; rfl) (lenOf own_pd0 rfl) rfl (by show 2 * 0 + _ ≤ _; exact Nat.le_of_eq rfl) (hb hby at_9) ?_
  intro v27 T27 L27 X27 hQ27
  obtain ⟨rfl, Nq27, e27⟩ := hQ27
  have N27 := Fr.app N0 Nq27
  show own_Go p e below K T27 (mkF m 12 #[.val (.int x0), .val (.int y0), .val (.int x0), .val (.int (y0 &&& (2147483647 : Int32))), .unset] [(.ref (own_spec x0 (y0 &&& (2147483647 : Int32)) a1 a2 a3 a4 a5 a6))])
  refine own_go (fun _ kk' => XS.astore X27.here hx rfl (hb hby at_12) rfl rfl (l' := #[.val (.int x0), .val (.int y0), .val (.int x0), .val (.int (y0 &&& (2147483647 : Int32))), .val (.ref (own_spec x0 (y0 &&& (2147483647 : Int32)) a1 a2 a3 a4 a5 a6))]) rfl kk') ?_
  show own_Go p e below K T27 (mkF m 14 #[.val (.int x0), .val (.int y0), .val (.int x0), .val (.int (y0 &&& (2147483647 : Int32))), .val (.ref (own_spec x0 (y0 &&& (2147483647 : Int32)) a1 a2 a3 a4 a5 a6))] [])
  refine own_go (fun _ kk' => XS.aload X27.here hx rfl (hb hby at_14) rfl rfl  kk') ?_
  show own_Go p e below K T27 (mkF m 16 #[.val (.int x0), .val (.int y0), .val (.int x0), .val (.int (y0 &&& (2147483647 : Int32))), .val (.ref (own_spec x0 (y0 &&& (2147483647 : Int32)) a1 a2 a3 a4 a5 a6))] [(.ref (own_spec x0 (y0 &&& (2147483647 : Int32)) a1 a2 a3 a4 a5 a6))])
  refine own_go (fun _ kk' => XS.iloadN X27.here hx rfl (hb hby at_16) rfl  kk') ?_
  show own_Go p e below K T27 (mkF m 17 #[.val (.int x0), .val (.int y0), .val (.int x0), .val (.int (y0 &&& (2147483647 : Int32))), .val (.ref (own_spec x0 (y0 &&& (2147483647 : Int32)) a1 a2 a3 a4 a5 a6))] [(.int x0), (.ref (own_spec x0 (y0 &&& (2147483647 : Int32)) a1 a2 a3 a4 a5 a6))])
  refine own_go (fun _ kk' => XS.iloadN X27.here hx rfl (hb hby at_17) rfl  kk') ?_
  show own_Go p e below K T27 (mkF m 18 #[.val (.int x0), .val (.int y0), .val (.int x0), .val (.int (y0 &&& (2147483647 : Int32))), .val (.ref (own_spec x0 (y0 &&& (2147483647 : Int32)) a1 a2 a3 a4 a5 a6))] [(.int (y0 &&& (2147483647 : Int32))), (.int x0), (.ref (own_spec x0 (y0 &&& (2147483647 : Int32)) a1 a2 a3 a4 a5 a6))])
  refine own_callS X27 hx hZ (y := (⟨"com/example/bitstride/bitstride/text/SegmentAfterPinLaw", "expected", "(II)Lcom/example/bitstride/bitstride/text/CopyEncoder$Segment;"⟩ : MethodName)) hown (hw _ (List.mem_of_getElem? (i := 9) rfl)) (hw _ (List.mem_of_getElem? (i := 10) rfl)) (hw _ (List.mem_of_getElem? (i := 11) rfl)) (hw _ (List.mem_of_getElem? (i := 12) rfl)) (by decide) e27 (rm := own_rme) (argsL := [(.int x0), (.int (y0 &&& (2147483647 : Int32)))]) (rest := [(.ref (own_spec x0 (y0 &&& (2147483647 : Int32)) a1 a2 a3 a4 a5 a6))]) (own_me l Z a0 hw x0 (y0 &&& (2147483647 : Int32)) a1 a2 a3 a4 a5 a6 h0 n0 Z0 S1 S2 S3 S4 S5 S6 hl) (W := 1) (by decide) (by decide) (by decide) (by decide) (g := (mkF m 18 #[.val (.int x0), .val (.int y0), .val (.int x0), .val (.int (y0 &&& (2147483647 : Int32))), .val (.ref (own_spec x0 (y0 &&& (2147483647 : Int32)) a1 a2 a3 a4 a5 a6))] [(.int (y0 &&& (2147483647 : Int32))), (.int x0), (.ref (own_spec x0 (y0 &&& (2147483647 : Int32)) a1 a2 a3 a4 a5 a6))])) rfl (by rw [hml]; rfl) (lenOf own_pd0 rfl) rfl (by show 2 * 0 + _ ≤ _; exact Nat.le_of_eq rfl) (hb hby at_18) ?_
  intro v28 T28 L28 X28 hQ28
  obtain ⟨rfl, Nq28, e28⟩ := hQ28
  have N28 := Fr.app N27 Nq28
  show own_Go p e below K T28 (mkF m 21 #[.val (.int x0), .val (.int y0), .val (.int x0), .val (.int (y0 &&& (2147483647 : Int32))), .val (.ref (own_spec x0 (y0 &&& (2147483647 : Int32)) a1 a2 a3 a4 a5 a6))] [(.ref (own_spec x0 (y0 &&& (2147483647 : Int32)) a1 a2 a3 a4 a5 a6)), (.ref (own_spec x0 (y0 &&& (2147483647 : Int32)) a1 a2 a3 a4 a5 a6))])
  refine own_go (fun _ kk' => Jvm.RoadKit.acmp (g := (mkF m 21 #[.val (.int x0), .val (.int y0), .val (.int x0), .val (.int (y0 &&& (2147483647 : Int32))), .val (.ref (own_spec x0 (y0 &&& (2147483647 : Int32)) a1 a2 a3 a4 a5 a6))] [(.ref (own_spec x0 (y0 &&& (2147483647 : Int32)) a1 a2 a3 a4 a5 a6)), (.ref (own_spec x0 (y0 &&& (2147483647 : Int32)) a1 a2 a3 a4 a5 a6))])) X28 hx rfl rfl rfl (pc0 := 21) (pc' := 24) (same := true) rfl (hb hby at_21) rfl (decide_eq_true (rfl : (Value.ref (own_spec x0 (y0 &&& (2147483647 : Int32)) a1 a2 a3 a4 a5 a6)) = (Value.ref (own_spec x0 (y0 &&& (2147483647 : Int32)) a1 a2 a3 a4 a5 a6)))) (by decide) (by decide) kk') ?_
  show own_Go p e below K T28 (mkF m 24 #[.val (.int x0), .val (.int y0), .val (.int x0), .val (.int (y0 &&& (2147483647 : Int32))), .val (.ref (own_spec x0 (y0 &&& (2147483647 : Int32)) a1 a2 a3 a4 a5 a6))] [])
  refine own_go (fun _ kk' => XS.iconst X28.here hx rfl (hb hby at_24) kk') ?_
  show own_Go p e below K T28 (mkF m 25 #[.val (.int x0), .val (.int y0), .val (.int x0), .val (.int (y0 &&& (2147483647 : Int32))), .val (.ref (own_spec x0 (y0 &&& (2147483647 : Int32)) a1 a2 a3 a4 a5 a6))] [(.int (1 : Int32))])
  refine own_go (fun _ kk' => XS.goto X28.here hx rfl (pc0 := 25) (pc' := 29) rfl (hb hby at_25) (by decide) (by decide) kk') ?_
  show own_Go p e below K T28 (mkF m 29 #[.val (.int x0), .val (.int y0), .val (.int x0), .val (.int (y0 &&& (2147483647 : Int32))), .val (.ref (own_spec x0 (y0 &&& (2147483647 : Int32)) a1 a2 a3 a4 a5 a6))] [(.int (1 : Int32))])
  exact own_retZ X28 hx hlk hK hret (by decide) (hb hby at_29) (by decide) (by decide) ⟨rfl, N28⟩
set_option maxRecDepth 65536 in
set_option maxHeartbeats 40000000 in
theorem own_comes {Post : Tables → Env → Array Value → State → Outcome → State → Prop} (hpost : ∀ tb e args s v u, (limb_1_1.after args s (.returned v) u = true ∧ limb_1_2.after args s (.returned v) u = true ∧ True) → FrameEnd s (.returned v) u (Jvm.fieldLocs frame_1_writes args s ++ Jvm.arrayLocs frame_1_arrays args s ++ Jvm.staticLocs frame_1_statics s) 0 0 → Post tb e args s (.returned v) u) :
    ArmFor flags0 classFile x code maxLocals ret World_1 tables_1 room_1 Calls_1 rest_1 Pre_1 Post := by
  intro l hfl _ _ p e ha hc hk s m args below hf hA hF happ hP
  obtain ⟨hcalls, hrest, hpre⟩ := hP
  obtain ⟨-, -, -, hnamed, -, -, -, hat⟩ := (Spec.applies_iff hf).mp happ
  obtain ⟨hg, hn⟩ := and_e (Cond.before_iff.mp (show (Jvm.Cond.and given_1 narrow_1).before args s = true from hpre))
  obtain ⟨hcnt, hg0⟩ := and_e hg
  obtain ⟨hi0, hg1⟩ := and_e hg0
  have hi1 := hg1
  obtain ⟨w0, w1, rfl⟩ : ∃ w0 w1 : Value, args = #[w0, w1] := by
    have hs : args.size = 2 := by simpa [Cond.value, given_1] using hcnt
    obtain ⟨L⟩ := args
    match L, hs with
    | [w0, w1], _ => exact ⟨w0, w1, rfl⟩
  have hw := fun d (hd : d ∈ tables_1) => atoms_spec (ws := Jvm.Cond.code x code maxLocals ret :: tables_1) hat d (List.mem_cons_of_mem _ hd)
  have hfit : Fit s := fun {y c} hc i hi => by
    obtain ⟨ha, rfl⟩ := Array.getElem?_eq_some_iff.mp hc
    have q := List.all_eq_true.mp ((Array.all_eq_true_iff_forall_mem.mp hF) _ (Array.getElem_mem ha)) i (List.mem_range.mpr hi)
    simpa [Array.getElem?_eq_getElem hi] using q
  obtain ⟨x0, ei0⟩ := is_v hi0
  obtain rfl : w0 = (.int x0) := Option.some.inj ei0
  obtain ⟨y0, ei1⟩ := is_v hi1
  obtain rfl : w1 = (.int y0) := Option.some.inj ei1
  obtain ⟨hn0, hr0⟩ := and_e (show narrow_1.value _ s none s [] = some true from hn)
  obtain ⟨hn1, hr1⟩ := and_e hr0
  obtain ⟨hn2, hr2⟩ := and_e hr1
  obtain ⟨hn3, hr3⟩ := and_e hr2
  obtain ⟨hn4, hr4⟩ := and_e hr3
  have hn5 := hr4
  obtain ⟨a1, ev0⟩ := exa_v hn0
  have S1 : Sta s s.heap "com/example/bitstride/bitstride/text/CopyEncoder$Segment" "MOSTLY_ASCII" "Lcom/example/bitstride/bitstride/text/CopyEncoder$Segment;" (.ref a1) := Sta.start ev0 (Or.inr ⟨(hw _ (List.mem_of_getElem? (i := 3) rfl)), (hw _ (List.mem_of_getElem? (i := 8) rfl))⟩)
  obtain ⟨a6, ev1⟩ := exa_v hn1
  have S6 : Sta s s.heap "com/example/bitstride/bitstride/text/CopyEncoder$Segment" "THREE_BYTE" "Lcom/example/bitstride/bitstride/text/CopyEncoder$Segment;" (.ref a6) := Sta.start ev1 (Or.inr ⟨(hw _ (List.mem_of_getElem? (i := 3) rfl)), (hw _ (List.mem_of_getElem? (i := 21) rfl))⟩)
  obtain ⟨a5, ev2⟩ := exa_v hn2
  have S5 : Sta s s.heap "com/example/bitstride/bitstride/text/CopyEncoder$Segment" "MIXED" "Lcom/example/bitstride/bitstride/text/CopyEncoder$Segment;" (.ref a5) := Sta.start ev2 (Or.inr ⟨(hw _ (List.mem_of_getElem? (i := 3) rfl)), (hw _ (List.mem_of_getElem? (i := 29) rfl))⟩)
  obtain ⟨a2, ev3⟩ := exa_v hn3
  have S2 : Sta s s.heap "com/example/bitstride/bitstride/text/CopyEncoder$Segment" "SHORT_ASCII_RUNS" "Lcom/example/bitstride/bitstride/text/CopyEncoder$Segment;" (.ref a2) := Sta.start ev3 (Or.inr ⟨(hw _ (List.mem_of_getElem? (i := 3) rfl)), (hw _ (List.mem_of_getElem? (i := 32) rfl))⟩)
  obtain ⟨a4, ev4⟩ := exa_v hn4
  have S4 : Sta s s.heap "com/example/bitstride/bitstride/text/CopyEncoder$Segment" "MOSTLY_PAIRS" "Lcom/example/bitstride/bitstride/text/CopyEncoder$Segment;" (.ref a4) := Sta.start ev4 (Or.inr ⟨(hw _ (List.mem_of_getElem? (i := 3) rfl)), (hw _ (List.mem_of_getElem? (i := 35) rfl))⟩)
  obtain ⟨a3, ev5⟩ := exa_v hn5
  have S3 : Sta s s.heap "com/example/bitstride/bitstride/text/CopyEncoder$Segment" "TWO_BYTE" "Lcom/example/bitstride/bitstride/text/CopyEncoder$Segment;" (.ref a3) := Sta.start ev5 (Or.inr ⟨(hw _ (List.mem_of_getElem? (i := 3) rfl)), (hw _ (List.mem_of_getElem? (i := 38) rfl))⟩)
  obtain ⟨n, o, q1, q2, q3, _, L, rfl, ⟨rfl, N⟩, hq⟩ := own_law l s _ hw x0 y0 a1 a2 a3 a4 a5 a6 s.heap s.heap.size (Nat.le_refl _) S1 S2 S3 S4 S5 S6 p e ha hc hk s m _ below hf ((Spec.applies_iff_loose hf).mp happ).1 ⟨rfl, State.Warmed39.refl s, rfl⟩ trivial
  refine ⟨n, _, q1, q2, q3, hpost _ _ _ _ _ _ ⟨Cond.after_iff.mpr rfl, Cond.after_iff.mpr (eq_i res_at (Term.int_eval (1)) rfl), trivial⟩ ⟨hq.1, hq.2.1, (hq.2.2.sift fun y hy => Or.inr (N y hy)).mono (by decide) (by decide)⟩⟩
theorem main_1_1 : Claimed_1_1 := own_comes fun _ _ _ _ _ _ h hF => ⟨h.1, hF⟩
theorem main_1_2 : Claimed_1_2 := own_comes fun _ _ _ _ _ _ h hF => ⟨h.2.1, hF⟩
end Jvm.Pilot.@@N@@
namespace Jvm.Pilot.@@N@@
open Jvm Jvm.ClassFile Sem Op Lib Jvm.Free Jvm.Stand Jvm.Pilot.@@N@@.Jvm.D
/-! MADE BY PROGRAM (witnessworld.py) out of the Statement's table words and the real class files: 12 classes; the members and pool entries that the words name. The judged class is class 1, her method 1. -/
namespace start1
open Jvm.ClassFile
def u (s : String) : CpInfo := .utf8 (stringToUtf16 s)
/-- a pool by its gaps: so many unusable entries, then the entry; so many at the end -/
def gap : Nat → List CpInfo → List CpInfo
  | 0, r => r
  | n + 1, r => .unusable :: gap n r
def poolList (es : List (Nat × CpInfo)) (last : Nat) : List CpInfo := es.foldr (fun e r => gap e.1 (e.2 :: r)) (gap last [])
def pool (es : List (Nat × CpInfo)) (last : Nat) : Array CpInfo := ⟨poolList es last⟩
def fileOf (pool : Array CpInfo) (this : Nat) (attrs : Array Attribute := #[]) (ms : Array MethodInfo := #[]) (fl : Nat := 33) (sup : Nat := 0) (ifs : Array Nat := #[]) (fds : Array FieldInfo := #[]) : ClassFile where
  minorVersion := 0
  majorVersion := 65
  constantPool := pool
  accessFlags := fl
  thisClass := this
  superClass := sup
  interfaces := ifs
  fields := fds
  methods := ms
  attributes := attrs
def plain (name : String) (sup : Option ClassId) : Class where
  name := name
  kind := .ordinary
  loader := none
  accessFlags := 33
  super := sup
  interfaces := #[]
  cf := none
  fields := #[]
  methods := #[]
  instanceTypes := #[]
  staticTypes := #[]
  resolved := #[]
  callSites := []
  init := .initialized
  statics := none
  mirror := none

def pool0 : Array CpInfo := pool [(5, u "<init>"), (0, u "()V"), (1, .class_ 10), (1, u "java/lang/Object")] 113

def k0m0 : Method := { name := "<init>", desc := "()V", sig := { parameters := [], returnType := none }, accessFlags := 1, code := none }
/-- java/lang/Object -/
def k0 : Class := { plain "java/lang/Object" none with
  accessFlags := 33
  interfaces := #[]
  cf := some (fileOf pool0 8 #[] #[{ accessFlags := 1, nameIndex := 5, descriptorIndex := 6, attributes := #[] }] 33 0 #[] #[])
  fields := #[]
  methods := #[k0m0]
  instanceTypes := #[]
  staticTypes := #[]
  resolved := Array.replicate 124 none
  statics := none }

def pool1 : Array CpInfo := pool [(2, .class_ 4), (1, u "java/lang/Object"), (0, u "<init>"), (0, u "()V"), (0, .integer 2147483647), (0, .methodref 9 10), (0, .class_ 11), (0, .nameAndType 12 13), (0, u "com/example/bitstride/bitstride/text/CopyEncoder$Segment"), (0, u "after"), (0, u "(II)Lcom/example/bitstride/bitstride/text/CopyEncoder$Segment;"), (0, .methodref 15 16), (0, .class_ 17), (0, .nameAndType 18 13), (0, u "com/example/bitstride/bitstride/text/SegmentAfterPinLaw"), (0, u "expected"), (0, .long 100), (1, .long 105), (1, .fieldref 9 24), (0, .nameAndType 25 26), (0, u "MOSTLY_ASCII"), (0, u "Lcom/example/bitstride/bitstride/text/CopyEncoder$Segment;"), (0, .long 176), (1, .fieldref 9 30), (0, .nameAndType 31 26), (0, u "SHORT_ASCII_RUNS"), (0, .long 199), (1, .fieldref 9 35), (0, .nameAndType 36 26), (0, u "TWO_BYTE"), (0, .long 201), (1, .fieldref 9 40), (0, .nameAndType 41 26), (0, u "MOSTLY_PAIRS"), (0, .long 280), (1, .fieldref 9 45), (0, .nameAndType 46 26), (0, u "MIXED"), (0, .fieldref 9 48), (0, .nameAndType 49 26), (0, u "THREE_BYTE"), (2, u "law"), (0, u "(II)Z")] 7

def k1m0 : Method := { name := "<init>", desc := "()V", sig := { parameters := [], returnType := none }, accessFlags := 2, code := none }
def k1c1 : Code := { maxStack := 3, maxLocals := 5, code := code, exceptionTable := #[], attributes := #[] }
def k1m1 : Method := { name := "law", desc := "(II)Z", sig := { parameters := [.int, .int], returnType := some .boolean }, accessFlags := 9, code := some k1c1 }
def k1c2 : Code := { maxStack := 6, maxLocals := 6, code := method_3_code, exceptionTable := #[], attributes := #[] }
def k1m2 : Method := { name := "expected", desc := "(II)Lcom/example/bitstride/bitstride/text/CopyEncoder$Segment;", sig := { parameters := [.int, .int], returnType := some (.object "com/example/bitstride/bitstride/text/CopyEncoder$Segment") }, accessFlags := 10, code := some k1c2 }
/-- com/example/bitstride/bitstride/text/SegmentAfterPinLaw -/
def k1 : Class := { plain "com/example/bitstride/bitstride/text/SegmentAfterPinLaw" (some 0) with
  accessFlags := 49
  interfaces := #[]
  cf := some (fileOf pool1 15 #[] #[{ accessFlags := 2, nameIndex := 5, descriptorIndex := 6, attributes := #[] }, { accessFlags := 9, nameIndex := 52, descriptorIndex := 53, attributes := #[] }, { accessFlags := 10, nameIndex := 18, descriptorIndex := 13, attributes := #[] }] 49 2 #[] #[])
  fields := #[]
  methods := #[k1m0, k1m1, k1m2]
  instanceTypes := #[]
  staticTypes := #[]
  resolved := Array.replicate 61 none
  statics := none }

def pool2 : Array CpInfo := pool [(1, .class_ 2), (0, u "java/lang/constant/Constable"), (0, .class_ 4), (0, u "java/lang/Object")] 6

/-- java/lang/constant/Constable -/
def k2 : Class := { plain "java/lang/constant/Constable" (some 0) with
  accessFlags := 1537
  interfaces := #[]
  cf := some (fileOf pool2 1 #[] #[] 1537 3 #[] #[])
  fields := #[]
  methods := #[]
  instanceTypes := #[]
  staticTypes := #[]
  resolved := Array.replicate 11 none
  statics := none }

def pool3 : Array CpInfo := pool [(1, .class_ 2), (0, u "java/lang/Comparable"), (0, .class_ 4), (0, u "java/lang/Object")] 7

/-- java/lang/Comparable -/
def k3 : Class := { plain "java/lang/Comparable" (some 0) with
  accessFlags := 1537
  interfaces := #[]
  cf := some (fileOf pool3 1 #[] #[] 1537 3 #[] #[])
  fields := #[]
  methods := #[]
  instanceTypes := #[]
  staticTypes := #[]
  resolved := Array.replicate 12 none
  statics := none }

def pool4 : Array CpInfo := pool [(1, .class_ 2), (0, u "java/io/Serializable"), (0, .class_ 4), (0, u "java/lang/Object")] 2

/-- java/io/Serializable -/
def k4 : Class := { plain "java/io/Serializable" (some 0) with
  accessFlags := 1537
  interfaces := #[]
  cf := some (fileOf pool4 1 #[] #[] 1537 3 #[] #[])
  fields := #[]
  methods := #[]
  instanceTypes := #[]
  staticTypes := #[]
  resolved := Array.replicate 7 none
  statics := none }

def pool5 : Array CpInfo := pool [(2, .class_ 4), (1, u "java/lang/Enum"), (0, u "name"), (0, u "Ljava/lang/String;"), (2, u "ordinal"), (0, u "I"), (1, .class_ 14), (1, u "java/lang/Object"), (4, u "hash"), (86, .class_ 108), (1, u "java/lang/Enum$EnumDesc"), (2, .class_ 112), (0, u "java/lang/constant/Constable"), (0, .class_ 114), (0, u "java/lang/Comparable"), (0, .class_ 116), (0, u "java/io/Serializable")] 87

/-- java/lang/Enum -/
def k5 : Class := { plain "java/lang/Enum" (some 0) with
  accessFlags := 1057
  interfaces := #[2, 3, 4]
  cf := some (fileOf pool5 2 #[.nestMembers #[106]] #[] 1057 12 #[111, 113, 115] #[{ accessFlags := 18, nameIndex := 5, descriptorIndex := 6, attributes := #[] }, { accessFlags := 18, nameIndex := 9, descriptorIndex := 10, attributes := #[] }, { accessFlags := 2, nameIndex := 19, descriptorIndex := 10, attributes := #[] }])
  fields := #[{ name := "name", type := (.object "java/lang/String"), accessFlags := 18, slot := 0, constantValue := 0 }, { name := "ordinal", type := .int, accessFlags := 18, slot := 1, constantValue := 0 }, { name := "hash", type := .int, accessFlags := 2, slot := 2, constantValue := 0 }]
  methods := #[]
  instanceTypes := #[(.object "java/lang/String"), .int, .int]
  staticTypes := #[]
  resolved := Array.replicate 204 none
  statics := none }

def pool6 : Array CpInfo := pool [(1, .class_ 2), (0, u "com/example/bitstride/bitstride/text/CopyEncoder$Segment"), (0, .fieldref 1 4), (0, .nameAndType 5 6), (0, u "TWO_BYTE"), (0, u "Lcom/example/bitstride/bitstride/text/CopyEncoder$Segment;"), (0, .fieldref 1 8), (0, .nameAndType 9 6), (0, u "MOSTLY_ASCII"), (0, .fieldref 1 11), (0, .nameAndType 12 6), (0, u "MOSTLY_PAIRS"), (0, .fieldref 1 14), (0, .nameAndType 15 6), (0, u "THREE_BYTE"), (0, .fieldref 1 17), (0, .nameAndType 18 6), (0, u "MIXED"), (0, .fieldref 1 20), (0, .nameAndType 21 6), (0, u "SHORT_ASCII_RUNS"), (2, u "$VALUES"), (0, u "[Lcom/example/bitstride/bitstride/text/CopyEncoder$Segment;"), (6, .class_ 34), (1, u "java/lang/Enum"), (6, .long 20), (1, .long 21), (1, .long 100), (1, .long 199), (1, .long 201), (1, .long 280), (1, .long 176), (15, u "after"), (0, u "(II)Lcom/example/bitstride/bitstride/text/CopyEncoder$Segment;"), (11, u "SAMPLE"), (0, u "I"), (20, .class_ 105), (0, u "com/example/bitstride/bitstride/text/CopyEncoder")] 2

def k6c0 : Code := { maxStack := 6, maxLocals := 3, code := prog_15_method_4_code, exceptionTable := #[], attributes := #[] }
def k6m0 : Method := { name := "after", desc := "(II)Lcom/example/bitstride/bitstride/text/CopyEncoder$Segment;", sig := { parameters := [.int, .int], returnType := some (.object "com/example/bitstride/bitstride/text/CopyEncoder$Segment") }, accessFlags := 8, code := some k6c0 }
/-- com/example/bitstride/bitstride/text/CopyEncoder$Segment -/
def k6 : Class := { plain "com/example/bitstride/bitstride/text/CopyEncoder$Segment" (some 5) with
  accessFlags := 16432
  interfaces := #[]
  cf := some (fileOf pool6 1 #[.nestHost 104] #[{ accessFlags := 8, nameIndex := 69, descriptorIndex := 70, attributes := #[] }] 16432 32 #[] #[{ accessFlags := 16409, nameIndex := 5, descriptorIndex := 6, attributes := #[] }, { accessFlags := 16409, nameIndex := 9, descriptorIndex := 6, attributes := #[] }, { accessFlags := 16409, nameIndex := 12, descriptorIndex := 6, attributes := #[] }, { accessFlags := 16409, nameIndex := 15, descriptorIndex := 6, attributes := #[] }, { accessFlags := 16409, nameIndex := 18, descriptorIndex := 6, attributes := #[] }, { accessFlags := 16409, nameIndex := 21, descriptorIndex := 6, attributes := #[] }, { accessFlags := 26, nameIndex := 82, descriptorIndex := 83, attributes := #[] }, { accessFlags := 4122, nameIndex := 24, descriptorIndex := 25, attributes := #[] }])
  fields := #[{ name := "TWO_BYTE", type := (.object "com/example/bitstride/bitstride/text/CopyEncoder$Segment"), accessFlags := 16409, slot := 0, constantValue := 0 }, { name := "MOSTLY_ASCII", type := (.object "com/example/bitstride/bitstride/text/CopyEncoder$Segment"), accessFlags := 16409, slot := 1, constantValue := 0 }, { name := "MOSTLY_PAIRS", type := (.object "com/example/bitstride/bitstride/text/CopyEncoder$Segment"), accessFlags := 16409, slot := 2, constantValue := 0 }, { name := "THREE_BYTE", type := (.object "com/example/bitstride/bitstride/text/CopyEncoder$Segment"), accessFlags := 16409, slot := 3, constantValue := 0 }, { name := "MIXED", type := (.object "com/example/bitstride/bitstride/text/CopyEncoder$Segment"), accessFlags := 16409, slot := 4, constantValue := 0 }, { name := "SHORT_ASCII_RUNS", type := (.object "com/example/bitstride/bitstride/text/CopyEncoder$Segment"), accessFlags := 16409, slot := 5, constantValue := 0 }, { name := "SAMPLE", type := .int, accessFlags := 26, slot := 6, constantValue := 0 }, { name := "$VALUES", type := (.array (.object "com/example/bitstride/bitstride/text/CopyEncoder$Segment")), accessFlags := 4122, slot := 7, constantValue := 0 }]
  methods := #[k6m0]
  instanceTypes := #[(.object "java/lang/String"), .int, .int]
  staticTypes := #[(.object "com/example/bitstride/bitstride/text/CopyEncoder$Segment"), (.object "com/example/bitstride/bitstride/text/CopyEncoder$Segment"), (.object "com/example/bitstride/bitstride/text/CopyEncoder$Segment"), (.object "com/example/bitstride/bitstride/text/CopyEncoder$Segment"), (.object "com/example/bitstride/bitstride/text/CopyEncoder$Segment"), (.object "com/example/bitstride/bitstride/text/CopyEncoder$Segment"), .int, (.array (.object "com/example/bitstride/bitstride/text/CopyEncoder$Segment"))]
  resolved := Array.replicate 108 none
  statics := some 0 }

def pool7 : Array CpInfo := pool [(1, u "java/lang/Cloneable"), (0, .class_ 1), (0, u "java/lang/Object"), (0, .class_ 3)] 3

/-- java/lang/Cloneable -/
def k7 : Class := { plain "java/lang/Cloneable" (some 0) with
  accessFlags := 1537
  interfaces := #[]
  cf := some (fileOf pool7 2 #[] #[] 1537 4 #[] #[])
  fields := #[]
  methods := #[]
  instanceTypes := #[]
  staticTypes := #[]
  resolved := Array.replicate 8 none
  statics := none }

/-- the primitive byte -/
def k8 : Class := { plain "byte" none with kind := .primitive 'B', accessFlags := 0x411 }
/-- [B -/
def k9 : Class := { plain "[B" (some 0) with kind := .array 8 .byte, interfaces := #[7, 4], accessFlags := 1041 }

/-- the primitive int -/
def k10 : Class := { plain "int" none with kind := .primitive 'I', accessFlags := 0x411 }
/-- [I -/
def k11 : Class := { plain "[I" (some 0) with kind := .array 10 .int, interfaces := #[7, 4], accessFlags := 1041 }

def heap : Heap := #[{ cls := 6, slots := #[.ref 3, .ref 1, .ref 4, .ref 6, .ref 5, .ref 2, .int 0, .null], vm := .statics 6 },
  { cls := 6, slots := #[.null, .int 0, .int 0], vm := .none },
  { cls := 6, slots := #[.null, .int 1, .int 0], vm := .none },
  { cls := 6, slots := #[.null, .int 2, .int 0], vm := .none },
  { cls := 6, slots := #[.null, .int 3, .int 0], vm := .none },
  { cls := 6, slots := #[.null, .int 4, .int 0], vm := .none },
  { cls := 6, slots := #[.null, .int 5, .int 0], vm := .none }]
def classes : Array Class := #[k0, k1, k2, k3, k4, k5, k6, k7, k8, k9, k10, k11]
def interned : List (Array UInt16 × Addr) := []
def slotsUsed : Nat := 26
def theMethod : MethodId := ⟨1, 1⟩
def args0 : Array Value := #[.int 5, .int 7]
def aboutOver (below : List Frame) : State where
  vm := { classes := classes, interned := interned.toArray }
  heap := heap
  slotsUsed := slotsUsed
  threads := #[{ frames := .invoking theMethod args0 :: below }]
def below0 : List Frame := [.native { method := ⟨0, 0⟩, args := #[] }]
def about1 : State := aboutOver below0
def p0 : Program := .bare "" "" ""
def e0 : Env := launch0.env 0 0 0
theorem w_frames : about1.frames = Frame.invoking theMethod args0 :: below0 := rfl
set_option maxRecDepth 65536 in
theorem w_args : argsFit about1.vm theMethod args0 = true := by decide +kernel
set_option maxRecDepth 65536 in
theorem w_heap : heapFits about1 = true := by decide +kernel
set_option maxRecDepth 65536 in
theorem w_runnable : about1.curStatus? = some .runnable := by decide +kernel
set_option maxRecDepth 65536 in
theorem w_alone : about1.alone = true := by decide +kernel
set_option maxRecDepth 65536 in
theorem w_named : about1.methodNamed? x = some theMethod := by decide +kernel
set_option maxRecDepth 65536 in
theorem w_hears : about1.hears theMethod below0 = true := by decide +kernel
set_option maxRecDepth 65536 in
theorem w_ripe : about1.ripe theMethod args0 below0 = true := by decide +kernel
theorem w_running : about1.status = .running := rfl
set_option maxRecDepth 65536 in
theorem w_room : about1.hasRoom e0.platform room_1 = true :=
  launch0.hasRoom_least _ room_1 (by decide +kernel) (by decide +kernel) (by decide +kernel) (by decide +kernel) (by decide +kernel) (by decide +kernel)
theorem allAtoms_all (ts : List Jvm.Cond) (a : Array Jvm.Value) (st : Jvm.State) : (allAtoms ts).before a st = ts.all (fun c => c.before a st) := by
  induction ts with
  | nil => rfl
  | cons c t ih =>
    show (Jvm.Cond.and c (allAtoms t)).before a st = _
    rw [Jvm.Cond.before_and, ih, List.all_cons]
def words1 : List Jvm.Cond := Jvm.Cond.code x code maxLocals ret :: tables_1
/-- a 'code' word, met by the world's own term for the bytes: nothing is compared byte by byte -/
theorem code_word {y : MethodName} {bytes : ByteArray} {mx : Nat} {rt : Option FieldType} {a : Array Value} {s : State} {m : MethodId} {meth : Method} {c : Code} (h1 : s.methodNamed? y = some m) (h2 : s.vm.method? m = some meth) (h3 : meth.code = some c) (h4 : c.code = bytes)
    (h5 : (c.maxLocals == mx && c.exceptionTable.isEmpty && decide (c.maxStack ≤ mostOperands) && decide (meth.sig.returnType = rt) && !meth.locks && decide (parseMethodDescriptor y.desc = some meth.sig)) = true) : (Jvm.Cond.code y bytes mx rt).before a s = true := by
  simp only [Bool.and_eq_true, beq_iff_eq, Bool.not_eq_true', decide_eq_true_eq] at h5
  obtain ⟨⟨⟨⟨⟨g1, g2⟩, g3⟩, g4⟩, g5⟩, g6⟩ := h5
  simp [Cond.before, Cond.holds, Cond.value, h1, h2, h3, h4, g1, g2, g3, g4, g5, g6]
def isCode : Jvm.Cond → Bool
  | .code _ _ _ _ => true
  | _ => false
theorem all_split {L : List Jvm.Cond} {P : Jvm.Cond → Bool} (h1 : L.all (fun c => isCode c || P c) = true) (h2 : ∀ c ∈ L.filter isCode, P c = true) : L.all P = true := by
  refine List.all_eq_true.mpr fun c hc => ?_
  have h := List.all_eq_true.mp h1 c hc
  rcases Bool.eq_false_or_eq_true (isCode c) with hi | hi
  · exact h2 c (List.mem_filter.mpr ⟨hc, hi⟩)
  · simpa [hi] using h
set_option maxRecDepth 65536 in
theorem w_c0 : (Jvm.Cond.code x code maxLocals ret).before args0 about1 = true := code_word (m := ⟨1, 1⟩) (meth := k1m1) (c := k1c1) (by decide +kernel) rfl rfl rfl (by decide +kernel)
set_option maxRecDepth 65536 in
theorem w_c1 : (Jvm.Cond.code ({ cls := "com/example/bitstride/bitstride/text/CopyEncoder$Segment", name := "after", desc := "(II)Lcom/example/bitstride/bitstride/text/CopyEncoder$Segment;" } : Jvm.MethodName) prog_15_method_4_code (3 : Nat) (Option.some (Jvm.ClassFile.FieldType.object "com/example/bitstride/bitstride/text/CopyEncoder$Segment"))).before args0 about1 = true := code_word (m := ⟨6, 0⟩) (meth := k6m0) (c := k6c0) (by decide +kernel) rfl rfl rfl (by decide +kernel)
set_option maxRecDepth 65536 in
theorem w_c2 : (Jvm.Cond.code ({ cls := "com/example/bitstride/bitstride/text/SegmentAfterPinLaw", name := "expected", desc := "(II)Lcom/example/bitstride/bitstride/text/CopyEncoder$Segment;" } : Jvm.MethodName) method_3_code (6 : Nat) (Option.some (Jvm.ClassFile.FieldType.object "com/example/bitstride/bitstride/text/CopyEncoder$Segment"))).before args0 about1 = true := code_word (m := ⟨1, 2⟩) (meth := k1m2) (c := k1c2) (by decide +kernel) rfl rfl rfl (by decide +kernel)
def codes1 : List Jvm.Cond := [Jvm.Cond.code x code maxLocals ret, Jvm.Cond.code ({ cls := "com/example/bitstride/bitstride/text/CopyEncoder$Segment", name := "after", desc := "(II)Lcom/example/bitstride/bitstride/text/CopyEncoder$Segment;" } : Jvm.MethodName) prog_15_method_4_code (3 : Nat) (Option.some (Jvm.ClassFile.FieldType.object "com/example/bitstride/bitstride/text/CopyEncoder$Segment")), Jvm.Cond.code ({ cls := "com/example/bitstride/bitstride/text/SegmentAfterPinLaw", name := "expected", desc := "(II)Lcom/example/bitstride/bitstride/text/CopyEncoder$Segment;" } : Jvm.MethodName) method_3_code (6 : Nat) (Option.some (Jvm.ClassFile.FieldType.object "com/example/bitstride/bitstride/text/CopyEncoder$Segment"))]
set_option maxRecDepth 65536 in
theorem codes_eq : words1.filter isCode = codes1 := rfl
theorem w_codes : ∀ c ∈ words1.filter isCode, c.before args0 about1 = true := by
  rw [codes_eq]
  intro c hc
  simp only [codes1, List.mem_cons, List.not_mem_nil, or_false] at hc
  rcases hc with rfl | rfl | rfl
  · exact w_c0
  · exact w_c1
  · exact w_c2
set_option maxRecDepth 65536 in
theorem w_t1 : (words1.take 24).all (fun c => isCode c || c.before args0 about1) = true := by decide +kernel
set_option maxRecDepth 65536 in
theorem w_t2 : (words1.drop 24).all (fun c => isCode c || c.before args0 about1) = true := by decide +kernel
theorem w_tables : (allAtoms (Jvm.Cond.code x code maxLocals ret :: tables_1)).before args0 about1 = true := by
  rw [allAtoms_all]
  show words1.all (fun c => c.before args0 about1) = true
  refine all_split ?_ w_codes
  rw [← List.take_append_drop 24 words1, List.all_append, w_t1, w_t2]
  rfl
set_option maxRecDepth 65536 in
theorem w_case : (Jvm.Cond.and given_1 narrow_1).before args0 about1 = true := by decide +kernel
theorem w_applies : (headSpec (Jvm.Cond.code x code maxLocals ret :: tables_1) room_1).applies x e0.platform about1 = true :=
  (Spec.applies_iff w_frames).mpr ⟨w_running, w_runnable, w_alone, w_named, w_hears, w_ripe, w_room, w_tables⟩
theorem atStart : AtStart classFile x code maxLocals ret World_1 tables_1 room_1 Calls_1 rest_1 Pre_1 launch0 p0 e0 about1 theMethod args0 below0 :=
  ⟨lists_1, trivial, launch0.admits_env _ _ _, launch0.least_env, fairChoices_fair.cas, fairChoices_fair.clock, w_frames, w_args, w_heap, w_applies, trivial, trivial, w_case⟩
end start1
theorem witness_1 : WitnessClaimed_1 := ⟨start1.p0, start1.e0, start1.about1, start1.theMethod, start1.args0, start1.below0, start1.atStart⟩
end Jvm.Pilot.@@N@@
