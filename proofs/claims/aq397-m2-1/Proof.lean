import JvmDerived
import JvmDerived.Pilot.@@N@@Statement
import JvmDerived.Pilot.@@N@@Code
set_option linter.unusedVariables false
set_option linter.unusedSimpArgs false

namespace Jvm.Pilot.@@N@@
open Jvm Jvm.ClassFile Sem Op Lib Jvm.Free Jvm.Stand Jvm.LawKit Jvm.RoadKit Bundle Jvm.Pilot.@@N@@.Jvm.D
section OwnLayer
variable {p : Program} {l : Launch} {e : Env} {R : Room} {s : State} {m : MethodId} {args : Array Value} {below : List Frame} {meth : Method} {c : Code} {T : State} {locs : List Loc} {cells slots : Nat} {Z : State} {a0 : Array Value} {h : Heap} {K : State → Prop}
/-- the run from the frame g at T comes to a state of which K holds -/
def own_Go (p : Program) (e : Env) (below : List Frame) (K : State → Prop) (T : State) (g : JFrame) : Prop := ∃ t, Steps p.tables e below (T.setTop g) t ∧ K t
theorem own_go {T' : State} {g g' : JFrame} (st : ∀ t, Steps p.tables e below (T'.setTop g') t → Steps p.tables e below (T.setTop g) t) (k : own_Go p e below K T' g') : own_Go p e below K T g := by
  obtain ⟨t, h1, h2⟩ := k
  exact ⟨t, st t h1, h2⟩
/-- the method has returned, Q says what, and the frame is kept -/
def own_End (s : State) (below : List Frame) (Q : Option Value → Heap → List Loc → Prop) (C N : Nat) (t : State) : Prop :=
  ∃ o, t.status = .running ∧ Ended t below o ∧ ∃ v L, o = .returned v ∧ Q v t.heap L ∧ FrameEnd s o t L C N
/-- a contract, as the callers of this family ask it -/
abbrev own_Met (l : Launch) (Z : State) (y : MethodName) (bytes : ByteArray) (maxL : Nat) (ret : Option FieldType) (ws : List Jvm.Cond) (rm : Room) (as' : Array Value) (h : Heap) (Q : Option Value → Heap → List Loc → Prop) : Prop :=
  MetFree l y (head1 (Jvm.Cond.code y bytes maxL ret :: ws) rm) (fun a U => a = as' ∧ Z.Warmed39 U.vm ∧ U.heap = h) (fun _ _ _ _ _ => True) (fun _ U o U' => ∃ v L, o = .returned v ∧ Q v U'.heap L ∧ FrameEnd U o U' L rm.cells rm.slots)
theorem own_body {y : MethodName} {bytes : ByteArray} {maxL : Nat} {ret : Option FieldType} {ws : List Jvm.Cond} {rm : Room} {as' : Array Value} {h0 : Heap} {Q : Option Value → Heap → List Loc → Prop} {g : MethodId → JFrame}
    (hp : plainFor y = true) (hef : ∀ m, entryFrame m as' maxL = g m)
    (H : ∀ (p : Program) (e : Env) (s : State) (m : MethodId) (A : Array Value) (below : List Frame) (meth : Method) (c : Code) (T : State) (K : State → Prop), Stand p l e rm s m A below meth c T [] 0 0 → p.tables.exec = Jvm.exec → c.code = bytes → c.maxLocals = maxL → s.vm.findClass y.cls = some m.cls → meth.name = y.name → meth.sig.returnType = ret → meth.locks = false → Z.Warmed39 s.vm → T.heap = h0 → (∀ t, own_End s below Q rm.cells rm.slots t → K t) → own_Go p e below K T (g m)) :
    own_Met l Z y bytes maxL ret ws rm as' h0 Q := by
  refine MetFree.of_bodySF hp hisR ?_
  intro p e s m args below meth c s₁ Bd hml0 hP hK
  obtain ⟨rfl, hZ, hh⟩ := hP
  have e0 : s₁.heap = h0 := by rw [← hh, Bd.state]; rfl
  obtain ⟨t, h1, o, h2, h3, h4⟩ := H p e s m args below meth c s₁ _ (Stand.of_body Bd) Bd.exec Bd.bytes hml0 (findClass_of_methodNamed Bd.named) (name_of_methodNamed Bd.named Bd.method).1 Bd.returns Bd.notSynchronized hZ e0 (fun _ q => q)
  exact ⟨t, o, castTop (hef m) h1, h2, h3, h4⟩
theorem own_ret {Q : Option Value → Heap → List Loc → Prop} {C N : Nat} (X : Stand p l e R s m args below meth c T locs cells slots) (hx : p.tables.exec = Jvm.exec) (hlk : meth.locks = false) (hK : ∀ t, own_End s below Q C N t → K t) {pc : Nat} {Ls : Array Slot} {w : Value} {t : FieldType} {i : Instr} {rest : List Value} (hret : meth.sig.returnType = some t) (hn : narrow t w = w)
    (hi : (i = .ireturn ∧ (t = .int ∨ t = .boolean ∨ t = .byte ∨ t = .char ∨ t = .short) ∧ ∃ z, w = .int z) ∨ (i = .lreturn ∧ t = .long ∧ ∃ z, w = .long z) ∨ (i = .dreturn ∧ t = .double ∧ ∃ z, w = .double z) ∨ (i = .freturn ∧ t = .float ∧ ∃ z, w = .float z) ∨ (i = .areturn ∧ t.isReference = true ∧ w.isRef = true))
    (hd : decode c.code pc = .ok (i, 1)) (hC : cells ≤ C) (hN : slots ≤ N) (hQ : Q (some w) T.heap locs) : own_Go p e below K T (mkF m pc Ls (w :: rest)) := by
  obtain ⟨fs, hr, hrun, hended, hW, hsame⟩ := X.leave (v := some w) (fun h => by rw [hret] at h; cases h) hlk
  exact ⟨_, retOut X hx hret hn hi hd hr, hK _ ⟨_, hrun, hended, _, _, rfl, hQ, ⟨_, rfl⟩, hW, hsame.mono hC hN⟩⟩
theorem own_retI {Q : Option Value → Heap → List Loc → Prop} {C N : Nat} (X : Stand p l e R s m args below meth c T locs cells slots) (hx : p.tables.exec = Jvm.exec) (hlk : meth.locks = false) (hK : ∀ t, own_End s below Q C N t → K t) {pc : Nat} {Ls : Array Slot} {z : Int32} {rest : List Value} (hret : meth.sig.returnType = some .int)
    (hd : decode c.code pc = .ok (.ireturn, 1)) (hC : cells ≤ C) (hN : slots ≤ N) (hQ : Q (some (.int z)) T.heap locs) : own_Go p e below K T (mkF m pc Ls (.int z :: rest)) :=
  own_ret X hx hlk hK hret rfl (Or.inl ⟨rfl, Or.inl rfl, z, rfl⟩) hd hC hN hQ
theorem own_retZ {Q : Option Value → Heap → List Loc → Prop} {C N : Nat} (X : Stand p l e R s m args below meth c T locs cells slots) (hx : p.tables.exec = Jvm.exec) (hlk : meth.locks = false) (hK : ∀ t, own_End s below Q C N t → K t) {pc : Nat} {Ls : Array Slot} {z : Int32} {rest : List Value} (hret : meth.sig.returnType = some .boolean) (hz : z &&& 1 = z)
    (hd : decode c.code pc = .ok (.ireturn, 1)) (hC : cells ≤ C) (hN : slots ≤ N) (hQ : Q (some (.int z)) T.heap locs) : own_Go p e below K T (mkF m pc Ls (.int z :: rest)) :=
  own_ret X hx hlk hK hret (by show Value.int (z &&& 1) = _; rw [hz]) (Or.inl ⟨rfl, Or.inr (Or.inl rfl), z, rfl⟩) hd hC hN hQ
theorem own_retR {Q : Option Value → Heap → List Loc → Prop} {C N : Nat} (X : Stand p l e R s m args below meth c T locs cells slots) (hx : p.tables.exec = Jvm.exec) (hlk : meth.locks = false) (hK : ∀ t, own_End s below Q C N t → K t) {pc : Nat} {Ls : Array Slot} {w : Value} {t : FieldType} {rest : List Value} (hret : meth.sig.returnType = some t) (ht : t.isReference = true) (hw : w.isRef = true)
    (hd : decode c.code pc = .ok (.areturn, 1)) (hC : cells ≤ C) (hN : slots ≤ N) (hQ : Q (some w) T.heap locs) : own_Go p e below K T (mkF m pc Ls (w :: rest)) :=
  own_ret X hx hlk hK hret (by cases t <;> first | (cases ht; done) | rfl) (Or.inr (Or.inr (Or.inr (Or.inr ⟨rfl, ht, hw⟩)))) hd hC hN hQ
theorem own_retV {Q : Option Value → Heap → List Loc → Prop} {C N : Nat} (X : Stand p l e R s m args below meth c T locs cells slots) (hx : p.tables.exec = Jvm.exec) (hlk : meth.locks = false) (hK : ∀ t, own_End s below Q C N t → K t) {pc : Nat} {Ls : Array Slot} (hret : meth.sig.returnType = none)
    (hd : decode c.code pc = .ok (.return_, 1)) (hC : cells ≤ C) (hN : slots ≤ N) (hQ : Q none T.heap locs) : own_Go p e below K T (mkF m pc Ls []) := by
  obtain ⟨fs, hr, hrun, hended, hW, hsame⟩ := X.leave (v := none) (fun _ => rfl) hlk
  exact ⟨_, X.returnOut hx hret hd hr, hK _ ⟨_, hrun, hended, _, _, rfl, hQ, ⟨_, rfl⟩, hW, hsame.mono hC hN⟩⟩
theorem own_callS (X : Stand p l e R s m args below meth c T locs cells slots) (hx : p.tables.exec = Jvm.exec) (hZ : Z.Warmed39 s.vm) {own : String} {index : Nat} {y : MethodName} {bytes : ByteArray} {maxL : Nat} {ret : Option FieldType}
    (hown : s.vm.findClass own = some m.cls) (wl : (Jvm.Cond.methodLink own index y).before a0 Z = true) (wt : (Jvm.Cond.static y).before a0 Z = true) (wz : (Jvm.Cond.initialized y.cls).before a0 Z = true) (wc : (Jvm.Cond.code y bytes maxL ret).before a0 Z = true)
    (hy : y.cls ≠ "java/lang/invoke/MethodHandle" ∧ y.cls ≠ "java/lang/invoke/VarHandle") (eT : T.heap = h) {rm : Room} {Q : Option Value → Heap → List Loc → Prop} {argsL rest : List Value} (hM : own_Met l Z y bytes maxL ret [] rm argsL.toArray h Q)
    {W : Nat} (hf : rm.frames + 1 ≤ R.frames) (hl : W + (maxL + 11) + rm.locals ≤ R.locals) (hc : cells + rm.cells ≤ R.cells) (hs : slots + rm.slots ≤ R.slots)
    {g : JFrame} (hg : g.method = m) (hsize : g.locals.size = c.maxLocals) (hlen : ∀ sig, parseMethodDescriptor y.desc = some sig → argsL.length = sig.parameters.length)
    (hstack : g.stack = argsL.reverse ++ rest) (hW : 2 * g.monitorRoom + (rest.map fun v => v.category).sum ≤ W) (hd : decode c.code g.pc = .ok (.invokestatic index, 3))
    (k : ∀ (v : Option Value) (T' : State) (L : List Loc), Stand p l e R s m args below meth c T' (locs ++ L) (cells + rm.cells) (slots + rm.slots) → Q v T'.heap L → own_Go p e below K T' { g with pc := g.pc + 3, stack := v.toList ++ rest }) : own_Go p e below K T g := by
  obtain ⟨v, vm₁, ⟨T', L', k', n'⟩, -, X', ⟨L, hQ, hl', hk', hn'⟩, st⟩ := Jvm.LawKit.callS X hx (y := y) hown (mvT hZ wl) (mvT hZ wt) (mvT hZ wz) (mvT hZ wc) hy (backOf (W := W) hM hZ wc wz hf hl) (g := g) hg hsize (argsL := argsL) (rest := rest) hlen hstack hW hd (fun _ _ => ⟨rfl, eT, hc, hs⟩)
  dsimp only [Pt.U, Pt.locs, Pt.cells, Pt.slots] at X' hl' hk' hn' st hQ
  subst hl' hk' hn'
  exact own_go st (k v T' L X' hQ)
theorem own_callI (X : Stand p l e R s m args below meth c T locs cells slots) (hx : p.tables.exec = Jvm.exec) (hZ : Z.Warmed39 s.vm) {own : String} {index : Nat} {y : MethodName} (hy1 : y.name = "<init>") {bytes : ByteArray} {maxL : Nat}
    (hown : s.vm.findClass own = some m.cls) (wl : (Jvm.Cond.methodLink own index y).before a0 Z = true) (wt : (Jvm.Cond.instanceMethod y).before a0 Z = true) (wz : (Jvm.Cond.initialized y.cls).before a0 Z = true) (wc : (Jvm.Cond.code y bytes maxL none).before a0 Z = true)
    (hy : y.cls ≠ "java/lang/invoke/MethodHandle" ∧ y.cls ≠ "java/lang/invoke/VarHandle") (eT : T.heap = h) {rm : Room} {Q : Option Value → Heap → List Loc → Prop} {a : Addr} {argsL rest : List Value} (hM : own_Met l Z y bytes maxL none [] rm (.ref a :: argsL).toArray h Q)
    {W : Nat} (hf : rm.frames + 1 ≤ R.frames) (hl : W + (maxL + 11) + rm.locals ≤ R.locals) (hc : cells + rm.cells ≤ R.cells) (hs : slots + rm.slots ≤ R.slots)
    {g : JFrame} (hg : g.method = m) (hsize : g.locals.size = c.maxLocals) (hlen : ∀ sig, parseMethodDescriptor y.desc = some sig → argsL.length = sig.parameters.length)
    (hstack : g.stack = argsL.reverse ++ .ref a :: rest) (hW : 2 * g.monitorRoom + (rest.map fun v => v.category).sum ≤ W) (hd : decode c.code g.pc = .ok (.invokespecial index, 3))
    (k : ∀ (v : Option Value) (T' : State) (L : List Loc), Stand p l e R s m args below meth c T' (locs ++ L) (cells + rm.cells) (slots + rm.slots) → Q v T'.heap L → own_Go p e below K T' { g with pc := g.pc + 3, stack := v.toList ++ rest }) : own_Go p e below K T g := by
  obtain ⟨v, vm₁, ⟨T', L', k', n'⟩, -, X', ⟨L, hQ, hl', hk', hn'⟩, st⟩ := X.specialBack hx (y := y) hy1 hown (mvT hZ wl) (mvT hZ wt) (mvT hZ wc) hy (backOf (W := W) hM hZ wc wz hf hl) (g := g) hg hsize (Steps.refl _) (a := a) (argsL := argsL) (rest := rest) hlen hstack hW hd (fun _ _ => ⟨rfl, eT, hc, hs⟩)
  dsimp only [Pt.U, Pt.locs, Pt.cells, Pt.slots] at X' hl' hk' hn' st hQ
  subst hl' hk' hn'
  exact own_go (fun _ q => st.trans q) (k v T' L X' hQ)
theorem own_callV (X : Stand p l e R s m args below meth c T locs cells slots) (hx : p.tables.exec = Jvm.exec) (hZ : Z.Warmed39 s.vm) {own C : String} {index : Nat} {y z : MethodName} {bytes : ByteArray} {maxL : Nat} {ret : Option FieldType}
    (hown : s.vm.findClass own = some m.cls) (wl : (Jvm.Cond.methodLink own index y).before a0 Z = true) (wd : (Jvm.Cond.declares y).before a0 Z = true) (hnf : NotFace s y) (wsel : (Jvm.Cond.selects C y z).before a0 Z = true) (wt : (Jvm.Cond.instanceMethod z).before a0 Z = true) (wz : (Jvm.Cond.initialized z.cls).before a0 Z = true) (wc : (Jvm.Cond.code z bytes maxL ret).before a0 Z = true)
    (hy : y.cls ≠ "java/lang/invoke/MethodHandle" ∧ y.cls ≠ "java/lang/invoke/VarHandle") (eT : T.heap = h) {rm : Room} {Q : Option Value → Heap → List Loc → Prop} {a : Addr} (E : Exa Z h a C) {argsL rest : List Value} (hM : own_Met l Z z bytes maxL ret [] rm (.ref a :: argsL).toArray h Q)
    {W : Nat} (hf : rm.frames + 1 ≤ R.frames) (hl : W + (maxL + 11) + rm.locals ≤ R.locals) (hc : cells + rm.cells ≤ R.cells) (hs : slots + rm.slots ≤ R.slots)
    {g : JFrame} (hg : g.method = m) (hsize : g.locals.size = c.maxLocals) (hlen : ∀ sig, parseMethodDescriptor y.desc = some sig → argsL.length = sig.parameters.length)
    (hstack : g.stack = argsL.reverse ++ .ref a :: rest) (hW : 2 * g.monitorRoom + (rest.map fun v => v.category).sum ≤ W) (hd : decode c.code g.pc = .ok (.invokevirtual index, 3))
    (k : ∀ (v : Option Value) (T' : State) (L : List Loc), Stand p l e R s m args below meth c T' (locs ++ L) (cells + rm.cells) (slots + rm.slots) → Q v T'.heap L → own_Go p e below K T' { g with pc := g.pc + 3, stack := v.toList ++ rest }) : own_Go p e below K T g := by
  obtain ⟨cq, kq, qa, qb, qc⟩ := isOf hZ eT E
  obtain ⟨v, vm₁, ⟨T', L', k', n'⟩, -, X', ⟨L, hQ, hl', hk', hn'⟩, st⟩ := X.virtualBack hx (y := y) (z := z) hown (mvT hZ wl) (mvT hZ wd) hnf (mvT hZ wsel) (mvT hZ wt) hy (backOf (W := W) hM hZ wc wz hf hl) qa qc (g := g) hg hsize (Steps.refl _) (argsL := argsL) (rest := rest) hlen hstack hW hd (fun _ _ => ⟨rfl, eT, hc, hs⟩)
  dsimp only [Pt.U, Pt.locs, Pt.cells, Pt.slots] at X' hl' hk' hn' st hQ
  subst hl' hk' hn'
  exact own_go (fun _ q => st.trans q) (k v T' L X' hQ)
theorem own_callF (X : Stand p l e R s m args below meth c T locs cells slots) (hx : p.tables.exec = Jvm.exec) (hZ : Z.Warmed39 s.vm) {own C : String} {index count : Nat} {xi z : MethodName} {bytes : ByteArray} {maxL : Nat} {ret : Option FieldType}
    (hown : s.vm.findClass own = some m.cls) (wl : (Jvm.Cond.methodLink own index xi).before a0 Z = true) (wd : (Jvm.Cond.declares xi).before a0 Z = true) (wf : (Jvm.Cond.interfaceMethod xi.cls xi.cls xi.name xi.desc).before args s = true) (wsel : (Jvm.Cond.selects C xi z).before a0 Z = true) (wt : (Jvm.Cond.instanceMethod z).before a0 Z = true)
    (wp : (Jvm.Cond.publicMethod z).before a0 Z = true) (wu : (Jvm.Cond.unhidden C xi.name xi.desc).before a0 Z = true) (wk : (Jvm.Cond.castable C xi.cls).before a0 Z = true) (wz : (Jvm.Cond.initialized z.cls).before a0 Z = true) (wc : (Jvm.Cond.code z bytes maxL ret).before a0 Z = true)
    (hy : xi.cls ≠ "java/lang/invoke/MethodHandle" ∧ xi.cls ≠ "java/lang/invoke/VarHandle") (eT : T.heap = h) {rm : Room} {Q : Option Value → Heap → List Loc → Prop} {a : Addr} (E : Exa Z h a C) {argsL rest : List Value} (hM : own_Met l Z z bytes maxL ret [] rm (.ref a :: argsL).toArray h Q)
    {W : Nat} (hf : rm.frames + 1 ≤ R.frames) (hl : W + (maxL + 11) + rm.locals ≤ R.locals) (hc : cells + rm.cells ≤ R.cells) (hs : slots + rm.slots ≤ R.slots)
    {g : JFrame} (hg : g.method = m) (hsize : g.locals.size = c.maxLocals) (hlen : ∀ sig, parseMethodDescriptor xi.desc = some sig → argsL.length = sig.parameters.length)
    (hstack : g.stack = argsL.reverse ++ .ref a :: rest) (hW : 2 * g.monitorRoom + (rest.map fun v => v.category).sum ≤ W) (hd : decode c.code g.pc = .ok (.invokeinterface index count, 5))
    (k : ∀ (v : Option Value) (T' : State) (L : List Loc), Stand p l e R s m args below meth c T' (locs ++ L) (cells + rm.cells) (slots + rm.slots) → Q v T'.heap L → own_Go p e below K T' { g with pc := g.pc + 5, stack := v.toList ++ rest }) : own_Go p e below K T g := by
  obtain ⟨cq, kq, qa, qb, qc⟩ := isOf hZ eT E
  obtain ⟨v, vm₁, ⟨T', L', k', n'⟩, -, X', ⟨L, hQ, hl', hk', hn'⟩, st⟩ := X.interfaceBack hx (xi := xi) (y := z) hown (mvT hZ wl) (mvT hZ wd) wf (mvT hZ wsel) (mvT hZ wt) (mvT hZ wp) (mvT hZ wu) (mvT hZ wk) hy (backOf (W := W) hM hZ wc wz hf hl) qa qb qc (g := g) hg hsize (Steps.refl _) (argsL := argsL) (rest := rest) hlen hstack hW hd (fun _ _ => ⟨rfl, eT, hc, hs⟩)
  dsimp only [Pt.U, Pt.locs, Pt.cells, Pt.slots] at X' hl' hk' hn' st hQ
  subst hl' hk' hn'
  exact own_go (fun _ q => st.trans q) (k v T' L X' hQ)
theorem own_callP (X : Stand p l e R s m args below meth c T locs cells slots) (hx : p.tables.exec = Jvm.exec) (hZ : Z.Warmed39 s.vm) {own : String} {index : Nat} {y : MethodName} {bytes : ByteArray} {maxL : Nat} {ret : Option FieldType}
    (hown : s.vm.findClass own = some m.cls) (wl : (Jvm.Cond.methodLink own index y).before a0 Z = true) (wt : (Jvm.Cond.instanceMethod y).before a0 Z = true) (wsel : (Jvm.Cond.selects y.cls y y).before a0 Z = true) (wp : (Jvm.Cond.privateMethod y).before a0 Z = true) (wz : (Jvm.Cond.initialized y.cls).before a0 Z = true) (wc : (Jvm.Cond.code y bytes maxL ret).before a0 Z = true)
    (hy : y.cls ≠ "java/lang/invoke/MethodHandle" ∧ y.cls ≠ "java/lang/invoke/VarHandle") (eT : T.heap = h) {rm : Room} {Q : Option Value → Heap → List Loc → Prop} {a : Addr} {C : String} (E : Exa Z h a C) {argsL rest : List Value} (hM : own_Met l Z y bytes maxL ret [] rm (.ref a :: argsL).toArray h Q)
    {W : Nat} (hf : rm.frames + 1 ≤ R.frames) (hl : W + (maxL + 11) + rm.locals ≤ R.locals) (hc : cells + rm.cells ≤ R.cells) (hs : slots + rm.slots ≤ R.slots)
    {g : JFrame} (hg : g.method = m) (hsize : g.locals.size = c.maxLocals) (hlen : ∀ sig, parseMethodDescriptor y.desc = some sig → argsL.length = sig.parameters.length)
    (hstack : g.stack = argsL.reverse ++ .ref a :: rest) (hW : 2 * g.monitorRoom + (rest.map fun v => v.category).sum ≤ W) (hd : decode c.code g.pc = .ok (.invokevirtual index, 3))
    (k : ∀ (v : Option Value) (T' : State) (L : List Loc), Stand p l e R s m args below meth c T' (locs ++ L) (cells + rm.cells) (slots + rm.slots) → Q v T'.heap L → own_Go p e below K T' { g with pc := g.pc + 3, stack := v.toList ++ rest }) : own_Go p e below K T g := by
  obtain ⟨cq, q1, q2⟩ := E.cell
  obtain ⟨v, vm₁, ⟨T', L', k', n'⟩, -, X', ⟨L, hQ, hl', hk', hn'⟩, st⟩ := X.privateBack hx (y := y) hown (mvT hZ wl) (mvT hZ wt) (mvT hZ wsel) (Cond.privateMethod_at (mvP hZ wp (args := #[]))) (mvT hZ wc) hy (backOf (W := W) hM hZ wc wz hf hl) (g := g) hg hsize (Steps.refl _) (a := a) (by rw [eT]; exact q1) q2 (argsL := argsL) (rest := rest) hlen hstack hW hd (fun _ _ => ⟨rfl, eT, hc, hs⟩)
  dsimp only [Pt.U, Pt.locs, Pt.cells, Pt.slots] at X' hl' hk' hn' st hQ
  subst hl' hk' hn'
  exact own_go (fun _ q => st.trans q) (k v T' L X' hQ)
theorem own_ins_keep {h h' : Heap} {a : Addr} {C : String} {b : Bool} {ws : List Addr} (F : Ins Z h a C b) (K : Keep h h' ws) : Ins Z h' a C b := by
  obtain ⟨cell, cT, h1, h2, h3⟩ := F
  obtain ⟨c', q1, q2, q3, -⟩ := K.2.2 _ _ h1
  exact ⟨c', cT, q1, h2, by rw [q2, q3]; exact h3⟩
theorem own_ne_arv {h : Heap} {a b : Addr} {C : String} {n : Nat} {k : ClassId} {ty : FieldType} {z : Int32} {vs : List Value} {d : Value} (F : Exa Z h a C) (wi : (Jvm.Cond.instantiable C n).before a0 Z = true) (G : Arv Z h b k ty z vs d) : a ≠ b := by
  obtain ⟨c, A, -⟩ := G
  exact ne_arr F wi A
end OwnLayer
theorem own_d1_0 : decode jdk_42_method_139_code 0 = .ok (.getstatic 38, 3) := by decide +kernel
theorem own_d1_3 : decode jdk_42_method_139_code 3 = .ok (.ifCond .eq 23, 3) := by decide +kernel
theorem own_d1_6 : decode jdk_42_method_139_code 6 = .ok (.iload_n 0, 1) := by decide +kernel
theorem own_d1_7 : decode jdk_42_method_139_code 7 = .ok (.invokestatic 1015, 3) := by decide +kernel
theorem own_d1_10 : decode jdk_42_method_139_code 10 = .ok (.ifCond .eq 16, 3) := by decide +kernel
theorem own_d1_13 : decode jdk_42_method_139_code 13 = .ok (.new 10, 3) := by decide +kernel
theorem own_d1_16 : decode jdk_42_method_139_code 16 = .ok (.dup, 1) := by decide +kernel
theorem own_d1_17 : decode jdk_42_method_139_code 17 = .ok (.iload_n 0, 1) := by decide +kernel
theorem own_d1_18 : decode jdk_42_method_139_code 18 = .ok (.invokestatic 1018, 3) := by decide +kernel
theorem own_d1_21 : decode jdk_42_method_139_code 21 = .ok (.iconst 0, 1) := by decide +kernel
theorem own_d1_22 : decode jdk_42_method_139_code 22 = .ok (.invokespecial 209, 3) := by decide +kernel
theorem own_d1_25 : decode jdk_42_method_139_code 25 = .ok (.areturn, 1) := by decide +kernel
theorem own_d1_26 : decode jdk_42_method_139_code 26 = .ok (.new 10, 3) := by decide +kernel
theorem own_d1_29 : decode jdk_42_method_139_code 29 = .ok (.dup, 1) := by decide +kernel
theorem own_d1_30 : decode jdk_42_method_139_code 30 = .ok (.iload_n 0, 1) := by decide +kernel
theorem own_d1_31 : decode jdk_42_method_139_code 31 = .ok (.invokestatic 1021, 3) := by decide +kernel
theorem own_d1_34 : decode jdk_42_method_139_code 34 = .ok (.iconst 1, 1) := by decide +kernel
theorem own_d1_35 : decode jdk_42_method_139_code 35 = .ok (.invokespecial 209, 3) := by decide +kernel
theorem own_d1_38 : decode jdk_42_method_139_code 38 = .ok (.areturn, 1) := by decide +kernel
theorem own_d2_0 : decode jdk_43_method_3_code 0 = .ok (.iload_n 0, 1) := by decide +kernel
theorem own_d2_1 : decode jdk_43_method_3_code 1 = .ok (.sipush 255, 3) := by decide +kernel
theorem own_d2_4 : decode jdk_43_method_3_code 4 = .ok (.if_icmp .gt 7, 3) := by decide +kernel
theorem own_d2_7 : decode jdk_43_method_3_code 7 = .ok (.iconst 1, 1) := by decide +kernel
theorem own_d2_8 : decode jdk_43_method_3_code 8 = .ok (.goto 4, 3) := by decide +kernel
theorem own_d2_11 : decode jdk_43_method_3_code 11 = .ok (.iconst 0, 1) := by decide +kernel
theorem own_d2_12 : decode jdk_43_method_3_code 12 = .ok (.ireturn, 1) := by decide +kernel
theorem own_d3_0 : decode jdk_43_method_46_code 0 = .ok (.iconst 1, 1) := by decide +kernel
theorem own_d3_1 : decode jdk_43_method_46_code 1 = .ok (.newarray .byte, 2) := by decide +kernel
theorem own_d3_3 : decode jdk_43_method_46_code 3 = .ok (.dup, 1) := by decide +kernel
theorem own_d3_4 : decode jdk_43_method_46_code 4 = .ok (.iconst 0, 1) := by decide +kernel
theorem own_d3_5 : decode jdk_43_method_46_code 5 = .ok (.iload_n 0, 1) := by decide +kernel
theorem own_d3_6 : decode jdk_43_method_46_code 6 = .ok (.i2b, 1) := by decide +kernel
theorem own_d3_7 : decode jdk_43_method_46_code 7 = .ok (.bastore, 1) := by decide +kernel
theorem own_d3_8 : decode jdk_43_method_46_code 8 = .ok (.areturn, 1) := by decide +kernel
theorem own_d4_0 : decode jdk_42_method_151_code 0 = .ok (.aload_n 0, 1) := by decide +kernel
theorem own_d4_1 : decode jdk_42_method_151_code 1 = .ok (.invokespecial 1, 3) := by decide +kernel
theorem own_d4_4 : decode jdk_42_method_151_code 4 = .ok (.aload_n 0, 1) := by decide +kernel
theorem own_d4_5 : decode jdk_42_method_151_code 5 = .ok (.aload_n 1, 1) := by decide +kernel
theorem own_d4_6 : decode jdk_42_method_151_code 6 = .ok (.putfield 9, 3) := by decide +kernel
theorem own_d4_9 : decode jdk_42_method_151_code 9 = .ok (.aload_n 0, 1) := by decide +kernel
theorem own_d4_10 : decode jdk_42_method_151_code 10 = .ok (.iload_n 2, 1) := by decide +kernel
theorem own_d4_11 : decode jdk_42_method_151_code 11 = .ok (.putfield 15, 3) := by decide +kernel
theorem own_d4_14 : decode jdk_42_method_151_code 14 = .ok (.return_, 1) := by decide +kernel
theorem own_d6_0 : decode prog_19_method_1_code 0 = .ok (.aload_n 0, 1) := by decide +kernel
theorem own_d6_1 : decode prog_19_method_1_code 1 = .ok (.invokespecial 1, 3) := by decide +kernel
theorem own_d6_4 : decode prog_19_method_1_code 4 = .ok (.aload_n 0, 1) := by decide +kernel
theorem own_d6_5 : decode prog_19_method_1_code 5 = .ok (.invokestatic 7, 3) := by decide +kernel
theorem own_d6_8 : decode prog_19_method_1_code 8 = .ok (.putfield 13, 3) := by decide +kernel
theorem own_d6_11 : decode prog_19_method_1_code 11 = .ok (.aload_n 0, 1) := by decide +kernel
theorem own_d6_12 : decode prog_19_method_1_code 12 = .ok (.invokestatic 7, 3) := by decide +kernel
theorem own_d6_15 : decode prog_19_method_1_code 15 = .ok (.putfield 19, 3) := by decide +kernel
theorem own_d6_18 : decode prog_19_method_1_code 18 = .ok (.aload_n 0, 1) := by decide +kernel
theorem own_d6_19 : decode prog_19_method_1_code 19 = .ok (.invokestatic 7, 3) := by decide +kernel
theorem own_d6_22 : decode prog_19_method_1_code 22 = .ok (.putfield 22, 3) := by decide +kernel
theorem own_d6_25 : decode prog_19_method_1_code 25 = .ok (.aload_n 0, 1) := by decide +kernel
theorem own_d6_26 : decode prog_19_method_1_code 26 = .ok (.new 25, 3) := by decide +kernel
theorem own_d6_29 : decode prog_19_method_1_code 29 = .ok (.dup, 1) := by decide +kernel
theorem own_d6_30 : decode prog_19_method_1_code 30 = .ok (.invokespecial 27, 3) := by decide +kernel
theorem own_d6_33 : decode prog_19_method_1_code 33 = .ok (.putfield 28, 3) := by decide +kernel
theorem own_d6_36 : decode prog_19_method_1_code 36 = .ok (.aload_n 0, 1) := by decide +kernel
theorem own_d6_37 : decode prog_19_method_1_code 37 = .ok (.aload_n 1, 1) := by decide +kernel
theorem own_d6_38 : decode prog_19_method_1_code 38 = .ok (.putfield 31, 3) := by decide +kernel
theorem own_d6_41 : decode prog_19_method_1_code 41 = .ok (.return_, 1) := by decide +kernel
theorem own_d7_0 : decode jdk_96_method_17_code 0 = .ok (.getstatic 9, 3) := by decide +kernel
theorem own_d7_3 : decode jdk_96_method_17_code 3 = .ok (.areturn, 1) := by decide +kernel
theorem own_d8_0 : decode jdk_93_method_1_code 0 = .ok (.aload_n 0, 1) := by decide +kernel
theorem own_d8_1 : decode jdk_93_method_1_code 1 = .ok (.invokespecial 1, 3) := by decide +kernel
theorem own_d8_4 : decode jdk_93_method_1_code 4 = .ok (.aload_n 0, 1) := by decide +kernel
theorem own_d8_5 : decode jdk_93_method_1_code 5 = .ok (.new 7, 3) := by decide +kernel
theorem own_d8_8 : decode jdk_93_method_1_code 8 = .ok (.dup, 1) := by decide +kernel
theorem own_d8_9 : decode jdk_93_method_1_code 9 = .ok (.invokespecial 9, 3) := by decide +kernel
theorem own_d8_12 : decode jdk_93_method_1_code 12 = .ok (.putfield 10, 3) := by decide +kernel
theorem own_d8_15 : decode jdk_93_method_1_code 15 = .ok (.return_, 1) := by decide +kernel
theorem own_d9_0 : decode jdk_91_method_1_code 0 = .ok (.aload_n 0, 1) := by decide +kernel
theorem own_d9_1 : decode jdk_91_method_1_code 1 = .ok (.invokespecial 1, 3) := by decide +kernel
theorem own_d9_4 : decode jdk_91_method_1_code 4 = .ok (.return_, 1) := by decide +kernel
theorem own_d10_0 : decode jdk_22_method_1_code 0 = .ok (.aload_n 0, 1) := by decide +kernel
theorem own_d10_1 : decode jdk_22_method_1_code 1 = .ok (.invokespecial 1, 3) := by decide +kernel
theorem own_d10_4 : decode jdk_22_method_1_code 4 = .ok (.return_, 1) := by decide +kernel
theorem own_d11_0 : decode jdk_69_method_7_code 0 = .ok (.aload_n 0, 1) := by decide +kernel
theorem own_d11_1 : decode jdk_69_method_7_code 1 = .ok (.invokespecial 43, 3) := by decide +kernel
theorem own_d11_4 : decode jdk_69_method_7_code 4 = .ok (.aload_n 0, 1) := by decide +kernel
theorem own_d11_5 : decode jdk_69_method_7_code 5 = .ok (.ldc 92, 2) := by decide +kernel
theorem own_d11_7 : decode jdk_69_method_7_code 7 = .ok (.putfield 81, 3) := by decide +kernel
theorem own_d11_10 : decode jdk_69_method_7_code 10 = .ok (.return_, 1) := by decide +kernel
theorem own_d12_0 : decode jdk_71_method_1_code 0 = .ok (.aload_n 0, 1) := by decide +kernel
theorem own_d12_1 : decode jdk_71_method_1_code 1 = .ok (.invokespecial 1, 3) := by decide +kernel
theorem own_d12_4 : decode jdk_71_method_1_code 4 = .ok (.return_, 1) := by decide +kernel
theorem own_d13_0 : decode prog_19_method_10_code 0 = .ok (.aload_n 0, 1) := by decide +kernel
theorem own_d13_1 : decode prog_19_method_10_code 1 = .ok (.getfield 52, 3) := by decide +kernel
theorem own_d13_4 : decode prog_19_method_10_code 4 = .ok (.ireturn, 1) := by decide +kernel
theorem own_d14_0 : decode method_3_code 0 = .ok (.iload_n 1, 1) := by decide +kernel
theorem own_d14_1 : decode method_3_code 1 = .ok (.ifCond .eq 17, 3) := by decide +kernel
theorem own_d14_4 : decode method_3_code 4 = .ok (.iload_n 2, 1) := by decide +kernel
theorem own_d14_5 : decode method_3_code 5 = .ok (.iconst 1, 1) := by decide +kernel
theorem own_d14_6 : decode method_3_code 6 = .ok (.iadd, 1) := by decide +kernel
theorem own_d14_7 : decode method_3_code 7 = .ok (.istore_n 3, 1) := by decide +kernel
theorem own_d14_8 : decode method_3_code 8 = .ok (.aload_n 0, 1) := by decide +kernel
theorem own_d14_9 : decode method_3_code 9 = .ok (.invokevirtual 28, 3) := by decide +kernel
theorem own_d14_12 : decode method_3_code 12 = .ok (.iload_n 3, 1) := by decide +kernel
theorem own_d14_13 : decode method_3_code 13 = .ok (.if_icmp .eq 11, 3) := by decide +kernel
theorem own_d14_16 : decode method_3_code 16 = .ok (.iconst (-1), 1) := by decide +kernel
theorem own_d14_17 : decode method_3_code 17 = .ok (.ireturn, 1) := by decide +kernel
theorem own_d14_18 : decode method_3_code 18 = .ok (.aload_n 0, 1) := by decide +kernel
theorem own_d14_19 : decode method_3_code 19 = .ok (.invokevirtual 31, 3) := by decide +kernel
theorem own_d14_22 : decode method_3_code 22 = .ok (.iconst 0, 1) := by decide +kernel
theorem own_d14_23 : decode method_3_code 23 = .ok (.istore_n 3, 1) := by decide +kernel
theorem own_d14_24 : decode method_3_code 24 = .ok (.aload_n 0, 1) := by decide +kernel
theorem own_d14_25 : decode method_3_code 25 = .ok (.invokevirtual 18, 3) := by decide +kernel
theorem own_d14_28 : decode method_3_code 28 = .ok (.iload_n 3, 1) := by decide +kernel
theorem own_d14_29 : decode method_3_code 29 = .ok (.if_icmp .eq 5, 3) := by decide +kernel
theorem own_d14_32 : decode method_3_code 32 = .ok (.iconst (-1), 1) := by decide +kernel
theorem own_d14_33 : decode method_3_code 33 = .ok (.ireturn, 1) := by decide +kernel
theorem own_d14_34 : decode method_3_code 34 = .ok (.iload_n 3, 1) := by decide +kernel
theorem own_d14_35 : decode method_3_code 35 = .ok (.ireturn, 1) := by decide +kernel
theorem own_d15_0 : decode prog_19_method_12_code 0 = .ok (.aload_n 0, 1) := by decide +kernel
theorem own_d15_1 : decode prog_19_method_12_code 1 = .ok (.iconst 0, 1) := by decide +kernel
theorem own_d15_2 : decode prog_19_method_12_code 2 = .ok (.putfield 52, 3) := by decide +kernel
theorem own_d15_5 : decode prog_19_method_12_code 5 = .ok (.return_, 1) := by decide +kernel
theorem own_d16_0 : decode prog_19_method_11_code 0 = .ok (.aload_n 0, 1) := by decide +kernel
theorem own_d16_1 : decode prog_19_method_11_code 1 = .ok (.dup, 1) := by decide +kernel
theorem own_d16_2 : decode prog_19_method_11_code 2 = .ok (.getfield 52, 3) := by decide +kernel
theorem own_d16_5 : decode prog_19_method_11_code 5 = .ok (.iconst 1, 1) := by decide +kernel
theorem own_d16_6 : decode prog_19_method_11_code 6 = .ok (.iadd, 1) := by decide +kernel
theorem own_d16_7 : decode prog_19_method_11_code 7 = .ok (.dup_x1, 1) := by decide +kernel
theorem own_d16_8 : decode prog_19_method_11_code 8 = .ok (.putfield 52, 3) := by decide +kernel
theorem own_d16_11 : decode prog_19_method_11_code 11 = .ok (.ireturn, 1) := by decide +kernel
def own_Qp (h0 : Heap) (n0 : Nat) (v : Option Value) (h : Heap) (L : List Loc) : Prop := v = none ∧ Fr n0 L ∧ h = h0
abbrev own_rmAC : Room := { frames := 1, cells := 0, slots := 0, locals := 12 }
set_option maxRecDepth 65536 in
set_option maxHeartbeats 40000000 in
theorem own_mAC (l : Launch) (Z : State) (a0 : Array Value) (hw : ∀ d ∈ tables_1, d.before a0 Z = true) (a : Addr) (h0 : Heap) (n0 : Nat) (Z0 : n0 ≤ h0.size) :
    own_Met l Z (⟨"java/util/AbstractCollection", "<init>", "()V"⟩ : MethodName) jdk_22_method_1_code 1 none [] own_rmAC #[(.ref a)] h0 (own_Qp h0 n0) := by
  refine own_body (plainFor_of_name (by first | (simp [plainName, overriddenIn]; done) | decide +kernel)) (g := fun m => mkF m 0 #[.val (.ref a)] []) (fun m => by first | (simp [entryFrame, mkF, argsToLocals, Value.category]; done) | rfl) ?_
  intro p e s m A below meth c T0 K X0 hx hby hml hown hnm hret hlk hZ e0 hK
  have N0 := Fr.nil n0
  show own_Go p e below K T0 (mkF m 0 #[.val (.ref a)] [])
  refine own_go (fun _ kk' => XS.aloadN X0.here hx rfl (hb hby own_d10_0) rfl rfl  kk') ?_
  show own_Go p e below K T0 (mkF m 1 #[.val (.ref a)] [(.ref a)])
  obtain ⟨T1, X1, e1, st1⟩ := initO X0 hx hZ hown (hw _ (List.mem_of_getElem? (i := 63) rfl)) (hw _ (List.mem_of_getElem? (i := 23) rfl)) (hw _ (List.mem_of_getElem? (i := 24) rfl)) e0 (g := (mkF m 1 #[.val (.ref a)] [(.ref a)])) rfl (by rw [hml]; rfl) rfl (hb hby own_d10_1) (by decide) (W := 0) (by show 2 * 0 + _ ≤ _; exact Nat.le_of_eq rfl) (by decide)
  refine own_go st1 ?_
  show own_Go p e below K T1 (mkF m 4 #[.val (.ref a)] [])
  exact own_retV X1 hx hlk hK hret (hb hby own_d10_4) (by decide) (by decide) (by rw [e1]; exact ⟨rfl, N0, rfl⟩)

theorem own_pd0 : parseMethodDescriptor "()V" = some ⟨[], none⟩ := by decide +kernel
theorem own_pd1 : parseMethodDescriptor "()Ljava/util/Set;" = some ⟨[], some (.object "java/util/Set")⟩ := by decide +kernel
theorem own_pd2 : parseMethodDescriptor "(C)Z" = some ⟨[.char], some .boolean⟩ := by decide +kernel
theorem own_pd3 : parseMethodDescriptor "(C)[B" = some ⟨[.char], some (.array .byte)⟩ := by decide +kernel
theorem own_pd4 : parseMethodDescriptor "([BB)V" = some ⟨[(.array .byte), .byte], none⟩ := by decide +kernel
theorem own_pd5 : parseMethodDescriptor "()I" = some ⟨[], some .int⟩ := by decide +kernel
theorem own_pd6 : parseMethodDescriptor "(C)Ljava/lang/String;" = some ⟨[.char], some (.object "java/lang/String")⟩ := by decide +kernel
theorem own_pd7 : parseMethodDescriptor "(Ljava/lang/String;)V" = some ⟨[(.object "java/lang/String")], none⟩ := by decide +kernel
theorem own_pd8 : parseMethodDescriptor "(Lcom/example/actd/actd/lifecycle/AppProcess;ZI)I" = some ⟨[(.object "com/example/actd/actd/lifecycle/AppProcess"), .boolean, .int], some .int⟩ := by decide +kernel
abbrev own_rmAS : Room := { frames := 2, cells := 0, slots := 0, locals := 24 }
set_option maxRecDepth 65536 in
set_option maxHeartbeats 40000000 in
theorem own_mAS (l : Launch) (Z : State) (a0 : Array Value) (hw : ∀ d ∈ tables_1, d.before a0 Z = true) (a : Addr) (h0 : Heap) (n0 : Nat) (Z0 : n0 ≤ h0.size) :
    own_Met l Z (⟨"java/util/AbstractSet", "<init>", "()V"⟩ : MethodName) jdk_91_method_1_code 1 none [] own_rmAS #[(.ref a)] h0 (own_Qp h0 n0) := by
  refine own_body (plainFor_of_name (by first | (simp [plainName, overriddenIn]; done) | decide +kernel)) (g := fun m => mkF m 0 #[.val (.ref a)] []) (fun m => by first | (simp [entryFrame, mkF, argsToLocals, Value.category]; done) | rfl) ?_
  intro p e s m A below meth c T0 K X0 hx hby hml hown hnm hret hlk hZ e0 hK
  have N0 := Fr.nil n0
  show own_Go p e below K T0 (mkF m 0 #[.val (.ref a)] [])
  refine own_go (fun _ kk' => XS.aloadN X0.here hx rfl (hb hby own_d9_0) rfl rfl  kk') ?_
  show own_Go p e below K T0 (mkF m 1 #[.val (.ref a)] [(.ref a)])
  refine own_callI X0 hx hZ (y := (⟨"java/util/AbstractCollection", "<init>", "()V"⟩ : MethodName)) rfl hown (hw _ (List.mem_of_getElem? (i := 57) rfl)) (hw _ (List.mem_of_getElem? (i := 58) rfl)) (hw _ (List.mem_of_getElem? (i := 61) rfl)) (hw _ (List.mem_of_getElem? (i := 62) rfl)) (by decide) e0 (rm := own_rmAC) (a := a) (argsL := []) (rest := []) (own_mAC l Z a0 hw a h0 n0 Z0) (W := 0) (by decide) (by decide) (by decide) (by decide) (g := (mkF m 1 #[.val (.ref a)] [(.ref a)])) rfl (by rw [hml]; rfl) (lenOf own_pd0 rfl) rfl (by show 2 * 0 + _ ≤ _; exact Nat.le_of_eq rfl) (hb hby own_d9_1) ?_
  intro v2 T2 L2 X2 hQ2
  obtain ⟨rfl, Nq2, e2⟩ := hQ2
  have N2 := Fr.app N0 Nq2
  show own_Go p e below K T2 (mkF m 4 #[.val (.ref a)] [])
  exact own_retV X2 hx hlk hK hret (hb hby own_d9_4) (by decide) (by decide) (by rw [e2]; exact ⟨rfl, N2, rfl⟩)
abbrev own_rmAM : Room := { frames := 1, cells := 0, slots := 0, locals := 12 }
set_option maxRecDepth 65536 in
set_option maxHeartbeats 40000000 in
theorem own_mAM (l : Launch) (Z : State) (a0 : Array Value) (hw : ∀ d ∈ tables_1, d.before a0 Z = true) (a : Addr) (h0 : Heap) (n0 : Nat) (Z0 : n0 ≤ h0.size) :
    own_Met l Z (⟨"java/util/AbstractMap", "<init>", "()V"⟩ : MethodName) jdk_71_method_1_code 1 none [] own_rmAM #[(.ref a)] h0 (own_Qp h0 n0) := by
  refine own_body (plainFor_of_name (by first | (simp [plainName, overriddenIn]; done) | decide +kernel)) (g := fun m => mkF m 0 #[.val (.ref a)] []) (fun m => by first | (simp [entryFrame, mkF, argsToLocals, Value.category]; done) | rfl) ?_
  intro p e s m A below meth c T0 K X0 hx hby hml hown hnm hret hlk hZ e0 hK
  have N0 := Fr.nil n0
  show own_Go p e below K T0 (mkF m 0 #[.val (.ref a)] [])
  refine own_go (fun _ kk' => XS.aloadN X0.here hx rfl (hb hby own_d12_0) rfl rfl  kk') ?_
  show own_Go p e below K T0 (mkF m 1 #[.val (.ref a)] [(.ref a)])
  obtain ⟨T3, X3, e3, st3⟩ := initO X0 hx hZ hown (hw _ (List.mem_of_getElem? (i := 77) rfl)) (hw _ (List.mem_of_getElem? (i := 23) rfl)) (hw _ (List.mem_of_getElem? (i := 24) rfl)) e0 (g := (mkF m 1 #[.val (.ref a)] [(.ref a)])) rfl (by rw [hml]; rfl) rfl (hb hby own_d12_1) (by decide) (W := 0) (by show 2 * 0 + _ ≤ _; exact Nat.le_of_eq rfl) (by decide)
  refine own_go st3 ?_
  show own_Go p e below K T3 (mkF m 4 #[.val (.ref a)] [])
  exact own_retV X3 hx hlk hK hret (hb hby own_d12_4) (by decide) (by decide) (by rw [e3]; exact ⟨rfl, N0, rfl⟩)
def own_Qk (a : Addr) (h0 : Heap) (n0 : Nat) (v : Option Value) (h : Heap) (L : List Loc) : Prop := v = none ∧ Fr n0 L ∧ Keep h0 h [a]
abbrev own_rmHM : Room := { frames := 2, cells := 0, slots := 0, locals := 24 }
set_option maxRecDepth 65536 in
set_option maxHeartbeats 40000000 in
theorem own_mHM (l : Launch) (Z : State) (a0 : Array Value) (hw : ∀ d ∈ tables_1, d.before a0 Z = true) (a : Addr) (u_loadFactor : Value) (h0 : Heap) (n0 : Nat) (Z0 : n0 ≤ h0.size) (Ea : Exa Z h0 a "java/util/HashMap") (F_loadFactor : Fld Z h0 a "java/util/HashMap" "loadFactor" "F" u_loadFactor) (ga : n0 ≤ a) :
    own_Met l Z (⟨"java/util/HashMap", "<init>", "()V"⟩ : MethodName) jdk_69_method_7_code 1 none [] own_rmHM #[(.ref a)] h0 (own_Qk a h0 n0) := by
  refine own_body (plainFor_of_name (by first | (simp [plainName, overriddenIn]; done) | decide +kernel)) (g := fun m => mkF m 0 #[.val (.ref a)] []) (fun m => by first | (simp [entryFrame, mkF, argsToLocals, Value.category]; done) | rfl) ?_
  intro p e s m A below meth c T0 K X0 hx hby hml hown hnm hret hlk hZ e0 hK
  have N0 := Fr.nil n0
  show own_Go p e below K T0 (mkF m 0 #[.val (.ref a)] [])
  refine own_go (fun _ kk' => XS.aloadN X0.here hx rfl (hb hby own_d11_0) rfl rfl  kk') ?_
  show own_Go p e below K T0 (mkF m 1 #[.val (.ref a)] [(.ref a)])
  refine own_callI X0 hx hZ (y := (⟨"java/util/AbstractMap", "<init>", "()V"⟩ : MethodName)) rfl hown (hw _ (List.mem_of_getElem? (i := 71) rfl)) (hw _ (List.mem_of_getElem? (i := 72) rfl)) (hw _ (List.mem_of_getElem? (i := 75) rfl)) (hw _ (List.mem_of_getElem? (i := 76) rfl)) (by decide) e0 (rm := own_rmAM) (a := a) (argsL := []) (rest := []) (own_mAM l Z a0 hw a h0 n0 Z0) (W := 0) (by decide) (by decide) (by decide) (by decide) (g := (mkF m 1 #[.val (.ref a)] [(.ref a)])) rfl (by rw [hml]; rfl) (lenOf own_pd0 rfl) rfl (by show 2 * 0 + _ ≤ _; exact Nat.le_of_eq rfl) (hb hby own_d11_1) ?_
  intro v4 T4 L4 X4 hQ4
  obtain ⟨rfl, Nq4, e4⟩ := hQ4
  have N4 := Fr.app N0 Nq4
  show own_Go p e below K T4 (mkF m 4 #[.val (.ref a)] [])
  refine own_go (fun _ kk' => XS.aloadN X4.here hx rfl (hb hby own_d11_4) rfl rfl  kk') ?_
  show own_Go p e below K T4 (mkF m 5 #[.val (.ref a)] [(.ref a)])
  refine own_go (fun tt' kk' => X4.ldcFloatC hx hown (mvT hZ (hw _ (List.mem_of_getElem? (i := 78) rfl))) (g := (mkF m 5 #[.val (.ref a)] [(.ref a)])) rfl (hb hby own_d11_5) tt' kk') ?_
  show own_Go p e below K T4 (mkF m 7 #[.val (.ref a)] [(.float (1061158912 : UInt32)), (.ref a)])
  obtain ⟨T5, h5, X5, e5, W5, st5⟩ := putF X4 hx hZ hown (host := "") (Or.inl (hw _ (List.mem_of_getElem? (i := 79) rfl))) Via.refl e4 F_loadFactor Ea (Or.inr ⟨(hw _ (List.mem_of_getElem? (i := 80) rfl)), rfl, hnm⟩) (hw _ (List.mem_of_getElem? (i := 65) rfl)) (ty := .float) (by decide) rfl rfl (g := (mkF m 7 #[.val (.ref a)] [(.float (1061158912 : UInt32)), (.ref a)])) rfl rfl (hb hby own_d11_7)
  have F5 := F_loadFactor.same W5
  have N5 := Fr.snoc X5 N4 ga
  refine own_go st5 ?_
  show own_Go p e below K T5 (mkF m 10 #[.val (.ref a)] [])
  exact own_retV X5 hx hlk hK hret (hb hby own_d11_10) (by decide) (by decide) (by rw [e5]; exact ⟨rfl, N5, ((Keep.refl h0 [a]).wr W5 (Or.inl (List.mem_of_getElem? (i := 0) rfl)))⟩)
abbrev own_rmHS : Room := { frames := 3, cells := 1, slots := 8, locals := 38 }
set_option maxRecDepth 65536 in
set_option maxHeartbeats 40000000 in
theorem own_mHS (l : Launch) (Z : State) (a0 : Array Value) (hw : ∀ d ∈ tables_1, d.before a0 Z = true) (a : Addr) (u_map : Value) (h0 : Heap) (n0 : Nat) (Z0 : n0 ≤ h0.size) (Ea : Exa Z h0 a "java/util/HashSet") (F_map : Fld Z h0 a "java/util/HashSet" "map" "Ljava/util/HashMap;" u_map) (ga : n0 ≤ a) :
    own_Met l Z (⟨"java/util/HashSet", "<init>", "()V"⟩ : MethodName) jdk_93_method_1_code 1 none [] own_rmHS #[(.ref a)] h0 (own_Qk a h0 n0) := by
  refine own_body (plainFor_of_name (by first | (simp [plainName, overriddenIn]; done) | decide +kernel)) (g := fun m => mkF m 0 #[.val (.ref a)] []) (fun m => by first | (simp [entryFrame, mkF, argsToLocals, Value.category]; done) | rfl) ?_
  intro p e s m A below meth c T0 K X0 hx hby hml hown hnm hret hlk hZ e0 hK
  have N0 := Fr.nil n0
  show own_Go p e below K T0 (mkF m 0 #[.val (.ref a)] [])
  refine own_go (fun _ kk' => XS.aloadN X0.here hx rfl (hb hby own_d8_0) rfl rfl  kk') ?_
  show own_Go p e below K T0 (mkF m 1 #[.val (.ref a)] [(.ref a)])
  refine own_callI X0 hx hZ (y := (⟨"java/util/AbstractSet", "<init>", "()V"⟩ : MethodName)) rfl hown (hw _ (List.mem_of_getElem? (i := 51) rfl)) (hw _ (List.mem_of_getElem? (i := 52) rfl)) (hw _ (List.mem_of_getElem? (i := 55) rfl)) (hw _ (List.mem_of_getElem? (i := 56) rfl)) (by decide) e0 (rm := own_rmAS) (a := a) (argsL := []) (rest := []) (own_mAS l Z a0 hw a h0 n0 Z0) (W := 0) (by decide) (by decide) (by decide) (by decide) (g := (mkF m 1 #[.val (.ref a)] [(.ref a)])) rfl (by rw [hml]; rfl) (lenOf own_pd0 rfl) rfl (by show 2 * 0 + _ ≤ _; exact Nat.le_of_eq rfl) (hb hby own_d8_1) ?_
  intro v6 T6 L6 X6 hQ6
  obtain ⟨rfl, Nq6, e6⟩ := hQ6
  have N6 := Fr.app N0 Nq6
  show own_Go p e below K T6 (mkF m 4 #[.val (.ref a)] [])
  refine own_go (fun _ kk' => XS.aloadN X6.here hx rfl (hb hby own_d8_4) rfl rfl  kk') ?_
  show own_Go p e below K T6 (mkF m 5 #[.val (.ref a)] [(.ref a)])
  obtain ⟨T7, h7, X7, e7, E7, A7, D7, -, st7⟩ := newO X6 hx hZ hown (hw _ (List.mem_of_getElem? (i := 64) rfl)) (hw _ (List.mem_of_getElem? (i := 65) rfl)) (hw _ (List.mem_of_getElem? (i := 66) rfl)) e6 (g := (mkF m 5 #[.val (.ref a)] [(.ref a)])) rfl (hb hby own_d8_5) (by decide) (by decide)
  obtain ⟨b7, g7⟩ : ∃ z, z = h0.size := ⟨_, rfl⟩
  rw [← g7] at A7 D7 st7
  have gp7 : n0 ≤ b7 := Nat.le_trans Z0 (Nat.le_of_eq g7.symm)
  have sz7 : h0.size ≤ b7 := Nat.le_trans (Nat.le_refl _) (Nat.le_of_eq g7.symm)
  have F7_loadFactor : Fld Z h7 b7 "java/util/HashMap" "loadFactor" "F" (.float (0 : UInt32)) := D7 (Or.inr (hw _ (List.mem_of_getElem? (i := 80) rfl))) (ty := .float) (by decide)
  refine own_go st7 ?_
  show own_Go p e below K T7 (mkF m 8 #[.val (.ref a)] [(.ref b7), (.ref a)])
  refine own_go (fun _ kk' => XS.dup X7.here hx rfl (hb hby own_d8_8) rfl rfl kk') ?_
  show own_Go p e below K T7 (mkF m 9 #[.val (.ref a)] [(.ref b7), (.ref b7), (.ref a)])
  refine own_callI X7 hx hZ (y := (⟨"java/util/HashMap", "<init>", "()V"⟩ : MethodName)) rfl hown (hw _ (List.mem_of_getElem? (i := 67) rfl)) (hw _ (List.mem_of_getElem? (i := 68) rfl)) (hw _ (List.mem_of_getElem? (i := 66) rfl)) (hw _ (List.mem_of_getElem? (i := 70) rfl)) (by decide) e7 (rm := own_rmHM) (a := b7) (argsL := []) (rest := [(.ref b7), (.ref a)]) (own_mHM l Z a0 hw b7 (.float (0 : UInt32)) h7 n0 (Nat.le_trans Z0 E7.1) A7 F7_loadFactor gp7) (W := 2) (by decide) (by decide) (by decide) (by decide) (g := (mkF m 9 #[.val (.ref a)] [(.ref b7), (.ref b7), (.ref a)])) rfl (by rw [hml]; rfl) (lenOf own_pd0 rfl) rfl (by show 2 * 0 + _ ≤ _; exact Nat.le_of_eq rfl) (hb hby own_d8_9) ?_
  intro v8 T8 L8 X8 hQ8
  obtain ⟨rfl, Nq8, Kq8⟩ := hQ8
  have N8 := Fr.app N6 Nq8
  show own_Go p e below K T8 (mkF m 12 #[.val (.ref a)] [(.ref b7), (.ref a)])
  obtain ⟨T9, h9, X9, e9, W9, st9⟩ := putF X8 hx hZ hown (host := "") (Or.inl (hw _ (List.mem_of_getElem? (i := 81) rfl))) Via.refl rfl ((F_map.ext E7).keep Kq8 (ninS (ne_exa (Ea.ext E7) A7 (by decide)) nin0)) ((Ea.ext E7).keep Kq8) (Or.inl (hw _ (List.mem_of_getElem? (i := 82) rfl))) (hw _ (List.mem_of_getElem? (i := 46) rfl)) (ty := (.object "java/util/HashMap")) (by decide) rfl rfl (g := (mkF m 12 #[.val (.ref a)] [(.ref b7), (.ref a)])) rfl rfl (hb hby own_d8_12)
  have F9 := ((F_map.ext E7).keep Kq8 (ninS (ne_exa (Ea.ext E7) A7 (by decide)) nin0)).same W9
  have N9 := Fr.snoc X9 N8 ga
  refine own_go st9 ?_
  show own_Go p e below K T9 (mkF m 15 #[.val (.ref a)] [])
  exact own_retV X9 hx hlk hK hret (hb hby own_d8_15) (by decide) (by decide) (by rw [e9]; exact ⟨rfl, N9, ((((Keep.refl h0 [a]).ext E7).trans Kq8 (allS (Or.inr sz7) all0)).wr W9 (Or.inl (List.mem_of_getElem? (i := 0) rfl)))⟩)
def own_Qs (es : Addr) (h0 : Heap) (n0 : Nat) (v : Option Value) (h : Heap) (L : List Loc) : Prop := v = some (.ref es) ∧ Fr n0 L ∧ h = h0
abbrev own_rmSO : Room := { frames := 0, cells := 0, slots := 0, locals := 0 }
set_option maxRecDepth 65536 in
set_option maxHeartbeats 40000000 in
theorem own_mSO (l : Launch) (Z : State) (a0 : Array Value) (hw : ∀ d ∈ tables_1, d.before a0 Z = true) (es : Addr) (h0 : Heap) (n0 : Nat) (Z0 : n0 ≤ h0.size) (O0 : Old Z n0 h0) (SE : Sta Z Z.heap "java/util/ImmutableCollections" "EMPTY_SET" "Ljava/util/ImmutableCollections$SetN;" (.ref es)) :
    own_Met l Z (⟨"java/util/Set", "of", "()Ljava/util/Set;"⟩ : MethodName) jdk_96_method_17_code 0 (some (.object "java/util/Set")) [] own_rmSO #[] h0 (own_Qs es h0 n0) := by
  refine own_body (plainFor_of_name (by first | (simp [plainName, overriddenIn]; done) | decide +kernel)) (g := fun m => mkF m 0 #[] []) (fun m => by first | (simp [entryFrame, mkF, argsToLocals, Value.category]; done) | rfl) ?_
  intro p e s m A below meth c T0 K X0 hx hby hml hown hnm hret hlk hZ e0 hK
  have N0 := Fr.nil n0
  show own_Go p e below K T0 (mkF m 0 #[] [])
  obtain ⟨T10, X10, e10, st10⟩ := getS2 X0 hx hZ hown (host := "") (Or.inl (hw _ (List.mem_of_getElem? (i := 37) rfl))) Via.refl e0 (SE.ext O0.2) (g := (mkF m 0 #[] [])) rfl (hb hby own_d7_0)
  refine own_go st10 ?_
  show own_Go p e below K T10 (mkF m 3 #[] [(.ref es)])
  exact own_retR X10 hx hlk hK hret rfl rfl (hb hby own_d7_3) (by decide) (by decide) (by rw [e10]; exact ⟨rfl, N0, rfl⟩)
def own_Qa (Z : State) (a : Addr) (k : Int32) (w : Option Value) (h0 : Heap) (n0 : Nat) (v : Option Value) (h : Heap) (L : List Loc) : Prop := v = w ∧ Fr n0 L ∧ Keep h0 h [a] ∧ Exa Z h a "com/example/actd/actd/lifecycle/AppProcess" ∧ Fld Z h a "com/example/actd/actd/lifecycle/AppProcess" "missedDeadlines" "I" (.int k)
abbrev own_rmAP : Room := { frames := 4, cells := 2, slots := 9, locals := 52 }
set_option maxRecDepth 65536 in
set_option maxHeartbeats 40000000 in
theorem own_mAP (l : Launch) (Z : State) (a0 : Array Value) (hw : ∀ d ∈ tables_1, d.before a0 Z = true) (a st es : Addr) (k : Int32) (u_components : Value) (u_translucent : Value) (u_commands : Value) (u_hosted : Value) (u_name : Value) (h0 : Heap) (n0 : Nat) (Z0 : n0 ≤ h0.size) (Ea : Exa Z h0 a "com/example/actd/actd/lifecycle/AppProcess") (F_components : Fld Z h0 a "com/example/actd/actd/lifecycle/AppProcess" "components" "Ljava/util/Set;" u_components) (F_translucent : Fld Z h0 a "com/example/actd/actd/lifecycle/AppProcess" "translucent" "Ljava/util/Set;" u_translucent) (F_commands : Fld Z h0 a "com/example/actd/actd/lifecycle/AppProcess" "commands" "Ljava/util/Set;" u_commands) (F_hosted : Fld Z h0 a "com/example/actd/actd/lifecycle/AppProcess" "hosted" "Ljava/util/Set;" u_hosted) (F_name : Fld Z h0 a "com/example/actd/actd/lifecycle/AppProcess" "name" "Ljava/lang/String;" u_name) (ga : n0 ≤ a) (FM : Fld Z h0 a "com/example/actd/actd/lifecycle/AppProcess" "missedDeadlines" "I" (.int k)) (O0 : Old Z n0 h0) (SE : Sta Z Z.heap "java/util/ImmutableCollections" "EMPTY_SET" "Ljava/util/ImmutableCollections$SetN;" (.ref es)) :
    own_Met l Z (⟨"com/example/actd/actd/lifecycle/AppProcess", "<init>", "(Ljava/lang/String;)V"⟩ : MethodName) prog_19_method_1_code 2 none [] own_rmAP #[(.ref a), (.ref st)] h0 (own_Qa Z a k none h0 n0) := by
  refine own_body (plainFor_of_name (by first | (simp [plainName, overriddenIn]; done) | decide +kernel)) (g := fun m => mkF m 0 #[.val (.ref a), .val (.ref st)] []) (fun m => by first | (simp [entryFrame, mkF, argsToLocals, Value.category]; done) | rfl) ?_
  intro p e s m A below meth c T0 K X0 hx hby hml hown hnm hret hlk hZ e0 hK
  have N0 := Fr.nil n0
  show own_Go p e below K T0 (mkF m 0 #[.val (.ref a), .val (.ref st)] [])
  refine own_go (fun _ kk' => XS.aloadN X0.here hx rfl (hb hby own_d6_0) rfl rfl  kk') ?_
  show own_Go p e below K T0 (mkF m 1 #[.val (.ref a), .val (.ref st)] [(.ref a)])
  obtain ⟨T11, X11, e11, st11⟩ := initO X0 hx hZ hown (hw _ (List.mem_of_getElem? (i := 32) rfl)) (hw _ (List.mem_of_getElem? (i := 23) rfl)) (hw _ (List.mem_of_getElem? (i := 24) rfl)) e0 (g := (mkF m 1 #[.val (.ref a), .val (.ref st)] [(.ref a)])) rfl (by rw [hml]; rfl) rfl (hb hby own_d6_1) (by decide) (W := 0) (by show 2 * 0 + _ ≤ _; exact Nat.le_of_eq rfl) (by decide)
  refine own_go st11 ?_
  show own_Go p e below K T11 (mkF m 4 #[.val (.ref a), .val (.ref st)] [])
  refine own_go (fun _ kk' => XS.aloadN X11.here hx rfl (hb hby own_d6_4) rfl rfl  kk') ?_
  show own_Go p e below K T11 (mkF m 5 #[.val (.ref a), .val (.ref st)] [(.ref a)])
  refine own_callS X11 hx hZ (y := (⟨"java/util/Set", "of", "()Ljava/util/Set;"⟩ : MethodName)) hown (hw _ (List.mem_of_getElem? (i := 33) rfl)) (hw _ (List.mem_of_getElem? (i := 34) rfl)) (hw _ (List.mem_of_getElem? (i := 35) rfl)) (hw _ (List.mem_of_getElem? (i := 36) rfl)) (by decide) e11 (rm := own_rmSO) (argsL := []) (rest := [(.ref a)]) (own_mSO l Z a0 hw es h0 n0 Z0 O0 SE) (W := 1) (by decide) (by decide) (by decide) (by decide) (g := (mkF m 5 #[.val (.ref a), .val (.ref st)] [(.ref a)])) rfl (by rw [hml]; rfl) (lenOf own_pd1 rfl) rfl (by show 2 * 0 + _ ≤ _; exact Nat.le_of_eq rfl) (hb hby own_d6_5) ?_
  intro v12 T12 L12 X12 hQ12
  obtain ⟨rfl, Nq12, e12⟩ := hQ12
  have N12 := Fr.app N0 Nq12
  show own_Go p e below K T12 (mkF m 8 #[.val (.ref a), .val (.ref st)] [(.ref es), (.ref a)])
  obtain ⟨T13, h13, X13, e13, W13, st13⟩ := putF X12 hx hZ hown (host := "") (Or.inl (hw _ (List.mem_of_getElem? (i := 39) rfl))) Via.refl e12 F_components Ea (Or.inl (hw _ (List.mem_of_getElem? (i := 40) rfl))) (hw _ (List.mem_of_getElem? (i := 1) rfl)) (ty := (.object "java/util/Set")) (by decide) rfl rfl (g := (mkF m 8 #[.val (.ref a), .val (.ref st)] [(.ref es), (.ref a)])) rfl rfl (hb hby own_d6_8)
  have F13 := F_components.same W13
  have N13 := Fr.snoc X13 N12 ga
  refine own_go st13 ?_
  show own_Go p e below K T13 (mkF m 11 #[.val (.ref a), .val (.ref st)] [])
  refine own_go (fun _ kk' => XS.aloadN X13.here hx rfl (hb hby own_d6_11) rfl rfl  kk') ?_
  show own_Go p e below K T13 (mkF m 12 #[.val (.ref a), .val (.ref st)] [(.ref a)])
  refine own_callS X13 hx hZ (y := (⟨"java/util/Set", "of", "()Ljava/util/Set;"⟩ : MethodName)) hown (hw _ (List.mem_of_getElem? (i := 33) rfl)) (hw _ (List.mem_of_getElem? (i := 34) rfl)) (hw _ (List.mem_of_getElem? (i := 35) rfl)) (hw _ (List.mem_of_getElem? (i := 36) rfl)) (by decide) e13 (rm := own_rmSO) (argsL := []) (rest := [(.ref a)]) (own_mSO l Z a0 hw es h13 n0 (Nat.le_trans Z0 (Keep.of_wr W13).1) (O0.wr W13 ga) SE) (W := 1) (by decide) (by decide) (by decide) (by decide) (g := (mkF m 12 #[.val (.ref a), .val (.ref st)] [(.ref a)])) rfl (by rw [hml]; rfl) (lenOf own_pd1 rfl) rfl (by show 2 * 0 + _ ≤ _; exact Nat.le_of_eq rfl) (hb hby own_d6_12) ?_
  intro v14 T14 L14 X14 hQ14
  obtain ⟨rfl, Nq14, e14⟩ := hQ14
  have N14 := Fr.app N13 Nq14
  show own_Go p e below K T14 (mkF m 15 #[.val (.ref a), .val (.ref st)] [(.ref es), (.ref a)])
  obtain ⟨T15, h15, X15, e15, W15, st15⟩ := putF X14 hx hZ hown (host := "") (Or.inl (hw _ (List.mem_of_getElem? (i := 41) rfl))) Via.refl e14 (F_translucent.other W13 (Or.inr (slot_ne (Or.inl (hw _ (List.mem_of_getElem? (i := 42) rfl))) (Or.inl (hw _ (List.mem_of_getElem? (i := 40) rfl))) (by decide) (t := (.object "java/util/Set")) (t' := (.object "java/util/Set")) (by decide) (by decide)))) (Ea.wr W13) (Or.inl (hw _ (List.mem_of_getElem? (i := 42) rfl))) (hw _ (List.mem_of_getElem? (i := 1) rfl)) (ty := (.object "java/util/Set")) (by decide) rfl rfl (g := (mkF m 15 #[.val (.ref a), .val (.ref st)] [(.ref es), (.ref a)])) rfl rfl (hb hby own_d6_15)
  have F15 := (F_translucent.other W13 (Or.inr (slot_ne (Or.inl (hw _ (List.mem_of_getElem? (i := 42) rfl))) (Or.inl (hw _ (List.mem_of_getElem? (i := 40) rfl))) (by decide) (t := (.object "java/util/Set")) (t' := (.object "java/util/Set")) (by decide) (by decide)))).same W15
  have N15 := Fr.snoc X15 N14 ga
  refine own_go st15 ?_
  show own_Go p e below K T15 (mkF m 18 #[.val (.ref a), .val (.ref st)] [])
  refine own_go (fun _ kk' => XS.aloadN X15.here hx rfl (hb hby own_d6_18) rfl rfl  kk') ?_
  show own_Go p e below K T15 (mkF m 19 #[.val (.ref a), .val (.ref st)] [(.ref a)])
  refine own_callS X15 hx hZ (y := (⟨"java/util/Set", "of", "()Ljava/util/Set;"⟩ : MethodName)) hown (hw _ (List.mem_of_getElem? (i := 33) rfl)) (hw _ (List.mem_of_getElem? (i := 34) rfl)) (hw _ (List.mem_of_getElem? (i := 35) rfl)) (hw _ (List.mem_of_getElem? (i := 36) rfl)) (by decide) e15 (rm := own_rmSO) (argsL := []) (rest := [(.ref a)]) (own_mSO l Z a0 hw es h15 n0 (Nat.le_trans (Nat.le_trans Z0 (Keep.of_wr W13).1) (Keep.of_wr W15).1) ((O0.wr W13 ga).wr W15 ga) SE) (W := 1) (by decide) (by decide) (by decide) (by decide) (g := (mkF m 19 #[.val (.ref a), .val (.ref st)] [(.ref a)])) rfl (by rw [hml]; rfl) (lenOf own_pd1 rfl) rfl (by show 2 * 0 + _ ≤ _; exact Nat.le_of_eq rfl) (hb hby own_d6_19) ?_
  intro v16 T16 L16 X16 hQ16
  obtain ⟨rfl, Nq16, e16⟩ := hQ16
  have N16 := Fr.app N15 Nq16
  show own_Go p e below K T16 (mkF m 22 #[.val (.ref a), .val (.ref st)] [(.ref es), (.ref a)])
  obtain ⟨T17, h17, X17, e17, W17, st17⟩ := putF X16 hx hZ hown (host := "") (Or.inl (hw _ (List.mem_of_getElem? (i := 43) rfl))) Via.refl e16 ((F_commands.other W13 (Or.inr (slot_ne (Or.inl (hw _ (List.mem_of_getElem? (i := 44) rfl))) (Or.inl (hw _ (List.mem_of_getElem? (i := 40) rfl))) (by decide) (t := (.object "java/util/Set")) (t' := (.object "java/util/Set")) (by decide) (by decide)))).other W15 (Or.inr (slot_ne (Or.inl (hw _ (List.mem_of_getElem? (i := 44) rfl))) (Or.inl (hw _ (List.mem_of_getElem? (i := 42) rfl))) (by decide) (t := (.object "java/util/Set")) (t' := (.object "java/util/Set")) (by decide) (by decide)))) ((Ea.wr W13).wr W15) (Or.inl (hw _ (List.mem_of_getElem? (i := 44) rfl))) (hw _ (List.mem_of_getElem? (i := 1) rfl)) (ty := (.object "java/util/Set")) (by decide) rfl rfl (g := (mkF m 22 #[.val (.ref a), .val (.ref st)] [(.ref es), (.ref a)])) rfl rfl (hb hby own_d6_22)
  have F17 := ((F_commands.other W13 (Or.inr (slot_ne (Or.inl (hw _ (List.mem_of_getElem? (i := 44) rfl))) (Or.inl (hw _ (List.mem_of_getElem? (i := 40) rfl))) (by decide) (t := (.object "java/util/Set")) (t' := (.object "java/util/Set")) (by decide) (by decide)))).other W15 (Or.inr (slot_ne (Or.inl (hw _ (List.mem_of_getElem? (i := 44) rfl))) (Or.inl (hw _ (List.mem_of_getElem? (i := 42) rfl))) (by decide) (t := (.object "java/util/Set")) (t' := (.object "java/util/Set")) (by decide) (by decide)))).same W17
  have N17 := Fr.snoc X17 N16 ga
  refine own_go st17 ?_
  show own_Go p e below K T17 (mkF m 25 #[.val (.ref a), .val (.ref st)] [])
  refine own_go (fun _ kk' => XS.aloadN X17.here hx rfl (hb hby own_d6_25) rfl rfl  kk') ?_
  show own_Go p e below K T17 (mkF m 26 #[.val (.ref a), .val (.ref st)] [(.ref a)])
  obtain ⟨T18, h18, X18, e18, E18, A18, D18, -, st18⟩ := newO X17 hx hZ hown (hw _ (List.mem_of_getElem? (i := 45) rfl)) (hw _ (List.mem_of_getElem? (i := 46) rfl)) (hw _ (List.mem_of_getElem? (i := 47) rfl)) e17 (g := (mkF m 26 #[.val (.ref a), .val (.ref st)] [(.ref a)])) rfl (hb hby own_d6_26) (by decide) (by decide)
  obtain ⟨b18, g18⟩ : ∃ z, z = h17.size := ⟨_, rfl⟩
  rw [← g18] at A18 D18 st18
  have gp18 : n0 ≤ b18 := Nat.le_trans (Nat.le_trans (Nat.le_trans (Nat.le_trans Z0 (Keep.of_wr W13).1) (Keep.of_wr W15).1) (Keep.of_wr W17).1) (Nat.le_of_eq g18.symm)
  have sz18 : h0.size ≤ b18 := Nat.le_trans (Nat.le_trans (Nat.le_trans (Nat.le_trans (Nat.le_refl _) (Keep.of_wr W13).1) (Keep.of_wr W15).1) (Keep.of_wr W17).1) (Nat.le_of_eq g18.symm)
  have F18_map : Fld Z h18 b18 "java/util/HashSet" "map" "Ljava/util/HashMap;" .null := D18 (Or.inl (hw _ (List.mem_of_getElem? (i := 82) rfl))) (ty := (.object "java/util/HashMap")) (by decide)
  refine own_go st18 ?_
  show own_Go p e below K T18 (mkF m 29 #[.val (.ref a), .val (.ref st)] [(.ref b18), (.ref a)])
  refine own_go (fun _ kk' => XS.dup X18.here hx rfl (hb hby own_d6_29) rfl rfl kk') ?_
  show own_Go p e below K T18 (mkF m 30 #[.val (.ref a), .val (.ref st)] [(.ref b18), (.ref b18), (.ref a)])
  refine own_callI X18 hx hZ (y := (⟨"java/util/HashSet", "<init>", "()V"⟩ : MethodName)) rfl hown (hw _ (List.mem_of_getElem? (i := 48) rfl)) (hw _ (List.mem_of_getElem? (i := 49) rfl)) (hw _ (List.mem_of_getElem? (i := 47) rfl)) (hw _ (List.mem_of_getElem? (i := 50) rfl)) (by decide) e18 (rm := own_rmHS) (a := b18) (argsL := []) (rest := [(.ref b18), (.ref a)]) (own_mHS l Z a0 hw b18 .null h18 n0 (Nat.le_trans (Nat.le_trans (Nat.le_trans (Nat.le_trans Z0 (Keep.of_wr W13).1) (Keep.of_wr W15).1) (Keep.of_wr W17).1) E18.1) A18 F18_map gp18) (W := 2) (by decide) (by decide) (by decide) (by decide) (g := (mkF m 30 #[.val (.ref a), .val (.ref st)] [(.ref b18), (.ref b18), (.ref a)])) rfl (by rw [hml]; rfl) (lenOf own_pd0 rfl) rfl (by show 2 * 0 + _ ≤ _; exact Nat.le_of_eq rfl) (hb hby own_d6_30) ?_
  intro v19 T19 L19 X19 hQ19
  obtain ⟨rfl, Nq19, Kq19⟩ := hQ19
  have N19 := Fr.app N17 Nq19
  show own_Go p e below K T19 (mkF m 33 #[.val (.ref a), .val (.ref st)] [(.ref b18), (.ref a)])
  obtain ⟨T20, h20, X20, e20, W20, st20⟩ := putF X19 hx hZ hown (host := "") (Or.inl (hw _ (List.mem_of_getElem? (i := 83) rfl))) Via.refl rfl (((((F_hosted.other W13 (Or.inr (slot_ne (Or.inr (hw _ (List.mem_of_getElem? (i := 84) rfl))) (Or.inl (hw _ (List.mem_of_getElem? (i := 40) rfl))) (by decide) (t := (.object "java/util/Set")) (t' := (.object "java/util/Set")) (by decide) (by decide)))).other W15 (Or.inr (slot_ne (Or.inr (hw _ (List.mem_of_getElem? (i := 84) rfl))) (Or.inl (hw _ (List.mem_of_getElem? (i := 42) rfl))) (by decide) (t := (.object "java/util/Set")) (t' := (.object "java/util/Set")) (by decide) (by decide)))).other W17 (Or.inr (slot_ne (Or.inr (hw _ (List.mem_of_getElem? (i := 84) rfl))) (Or.inl (hw _ (List.mem_of_getElem? (i := 44) rfl))) (by decide) (t := (.object "java/util/Set")) (t' := (.object "java/util/Set")) (by decide) (by decide)))).ext E18).keep Kq19 (ninS (ne_exa ((((Ea.wr W13).wr W15).wr W17).ext E18) A18 (by decide)) nin0)) (((((Ea.wr W13).wr W15).wr W17).ext E18).keep Kq19) (Or.inr ⟨(hw _ (List.mem_of_getElem? (i := 84) rfl)), rfl, hnm⟩) (hw _ (List.mem_of_getElem? (i := 1) rfl)) (ty := (.object "java/util/Set")) (by decide) rfl rfl (g := (mkF m 33 #[.val (.ref a), .val (.ref st)] [(.ref b18), (.ref a)])) rfl rfl (hb hby own_d6_33)
  have F20 := (((((F_hosted.other W13 (Or.inr (slot_ne (Or.inr (hw _ (List.mem_of_getElem? (i := 84) rfl))) (Or.inl (hw _ (List.mem_of_getElem? (i := 40) rfl))) (by decide) (t := (.object "java/util/Set")) (t' := (.object "java/util/Set")) (by decide) (by decide)))).other W15 (Or.inr (slot_ne (Or.inr (hw _ (List.mem_of_getElem? (i := 84) rfl))) (Or.inl (hw _ (List.mem_of_getElem? (i := 42) rfl))) (by decide) (t := (.object "java/util/Set")) (t' := (.object "java/util/Set")) (by decide) (by decide)))).other W17 (Or.inr (slot_ne (Or.inr (hw _ (List.mem_of_getElem? (i := 84) rfl))) (Or.inl (hw _ (List.mem_of_getElem? (i := 44) rfl))) (by decide) (t := (.object "java/util/Set")) (t' := (.object "java/util/Set")) (by decide) (by decide)))).ext E18).keep Kq19 (ninS (ne_exa ((((Ea.wr W13).wr W15).wr W17).ext E18) A18 (by decide)) nin0)).same W20
  have N20 := Fr.snoc X20 N19 ga
  refine own_go st20 ?_
  show own_Go p e below K T20 (mkF m 36 #[.val (.ref a), .val (.ref st)] [])
  refine own_go (fun _ kk' => XS.aloadN X20.here hx rfl (hb hby own_d6_36) rfl rfl  kk') ?_
  show own_Go p e below K T20 (mkF m 37 #[.val (.ref a), .val (.ref st)] [(.ref a)])
  refine own_go (fun _ kk' => XS.aloadN X20.here hx rfl (hb hby own_d6_37) rfl rfl  kk') ?_
  show own_Go p e below K T20 (mkF m 38 #[.val (.ref a), .val (.ref st)] [(.ref st), (.ref a)])
  obtain ⟨T21, h21, X21, e21, W21, st21⟩ := putF X20 hx hZ hown (host := "") (Or.inl (hw _ (List.mem_of_getElem? (i := 85) rfl))) Via.refl e20 ((((((F_name.other W13 (Or.inr (slot_ne (Or.inr (hw _ (List.mem_of_getElem? (i := 86) rfl))) (Or.inl (hw _ (List.mem_of_getElem? (i := 40) rfl))) (by decide) (t := (.object "java/lang/String")) (t' := (.object "java/util/Set")) (by decide) (by decide)))).other W15 (Or.inr (slot_ne (Or.inr (hw _ (List.mem_of_getElem? (i := 86) rfl))) (Or.inl (hw _ (List.mem_of_getElem? (i := 42) rfl))) (by decide) (t := (.object "java/lang/String")) (t' := (.object "java/util/Set")) (by decide) (by decide)))).other W17 (Or.inr (slot_ne (Or.inr (hw _ (List.mem_of_getElem? (i := 86) rfl))) (Or.inl (hw _ (List.mem_of_getElem? (i := 44) rfl))) (by decide) (t := (.object "java/lang/String")) (t' := (.object "java/util/Set")) (by decide) (by decide)))).ext E18).keep Kq19 (ninS (ne_exa ((((Ea.wr W13).wr W15).wr W17).ext E18) A18 (by decide)) nin0)).other W20 (Or.inr (slot_ne (Or.inr (hw _ (List.mem_of_getElem? (i := 86) rfl))) (Or.inr (hw _ (List.mem_of_getElem? (i := 84) rfl))) (by decide) (t := (.object "java/lang/String")) (t' := (.object "java/util/Set")) (by decide) (by decide)))) ((((((Ea.wr W13).wr W15).wr W17).ext E18).keep Kq19).wr W20) (Or.inr ⟨(hw _ (List.mem_of_getElem? (i := 86) rfl)), rfl, hnm⟩) (hw _ (List.mem_of_getElem? (i := 1) rfl)) (ty := (.object "java/lang/String")) (by decide) rfl rfl (g := (mkF m 38 #[.val (.ref a), .val (.ref st)] [(.ref st), (.ref a)])) rfl rfl (hb hby own_d6_38)
  have F21 := ((((((F_name.other W13 (Or.inr (slot_ne (Or.inr (hw _ (List.mem_of_getElem? (i := 86) rfl))) (Or.inl (hw _ (List.mem_of_getElem? (i := 40) rfl))) (by decide) (t := (.object "java/lang/String")) (t' := (.object "java/util/Set")) (by decide) (by decide)))).other W15 (Or.inr (slot_ne (Or.inr (hw _ (List.mem_of_getElem? (i := 86) rfl))) (Or.inl (hw _ (List.mem_of_getElem? (i := 42) rfl))) (by decide) (t := (.object "java/lang/String")) (t' := (.object "java/util/Set")) (by decide) (by decide)))).other W17 (Or.inr (slot_ne (Or.inr (hw _ (List.mem_of_getElem? (i := 86) rfl))) (Or.inl (hw _ (List.mem_of_getElem? (i := 44) rfl))) (by decide) (t := (.object "java/lang/String")) (t' := (.object "java/util/Set")) (by decide) (by decide)))).ext E18).keep Kq19 (ninS (ne_exa ((((Ea.wr W13).wr W15).wr W17).ext E18) A18 (by decide)) nin0)).other W20 (Or.inr (slot_ne (Or.inr (hw _ (List.mem_of_getElem? (i := 86) rfl))) (Or.inr (hw _ (List.mem_of_getElem? (i := 84) rfl))) (by decide) (t := (.object "java/lang/String")) (t' := (.object "java/util/Set")) (by decide) (by decide)))).same W21
  have N21 := Fr.snoc X21 N20 ga
  refine own_go st21 ?_
  show own_Go p e below K T21 (mkF m 41 #[.val (.ref a), .val (.ref st)] [])
  exact own_retV X21 hx hlk hK hret (hb hby own_d6_41) (by decide) (by decide) (by rw [e21]; exact ⟨rfl, N21, ((((((((Keep.refl h0 [a]).wr W13 (Or.inl (List.mem_of_getElem? (i := 0) rfl))).wr W15 (Or.inl (List.mem_of_getElem? (i := 0) rfl))).wr W17 (Or.inl (List.mem_of_getElem? (i := 0) rfl))).ext E18).trans Kq19 (allS (Or.inr sz18) all0)).wr W20 (Or.inl (List.mem_of_getElem? (i := 0) rfl))).wr W21 (Or.inl (List.mem_of_getElem? (i := 0) rfl))), (((((((Ea.wr W13).wr W15).wr W17).ext E18).keep Kq19).wr W20).wr W21), (((((((FM.other W13 (Or.inr (slot_ne (Or.inl (hw _ (List.mem_of_getElem? (i := 93) rfl))) (Or.inl (hw _ (List.mem_of_getElem? (i := 40) rfl))) (by decide) (t := .int) (t' := (.object "java/util/Set")) (by decide) (by decide)))).other W15 (Or.inr (slot_ne (Or.inl (hw _ (List.mem_of_getElem? (i := 93) rfl))) (Or.inl (hw _ (List.mem_of_getElem? (i := 42) rfl))) (by decide) (t := .int) (t' := (.object "java/util/Set")) (by decide) (by decide)))).other W17 (Or.inr (slot_ne (Or.inl (hw _ (List.mem_of_getElem? (i := 93) rfl))) (Or.inl (hw _ (List.mem_of_getElem? (i := 44) rfl))) (by decide) (t := .int) (t' := (.object "java/util/Set")) (by decide) (by decide)))).ext E18).keep Kq19 (ninS (ne_exa ((((Ea.wr W13).wr W15).wr W17).ext E18) A18 (by decide)) nin0)).other W20 (Or.inr (slot_ne (Or.inl (hw _ (List.mem_of_getElem? (i := 93) rfl))) (Or.inr (hw _ (List.mem_of_getElem? (i := 84) rfl))) (by decide) (t := .int) (t' := (.object "java/util/Set")) (by decide) (by decide)))).other W21 (Or.inr (slot_ne (Or.inl (hw _ (List.mem_of_getElem? (i := 93) rfl))) (Or.inr (hw _ (List.mem_of_getElem? (i := 86) rfl))) (by decide) (t := .int) (t' := (.object "java/lang/String")) (by decide) (by decide))))⟩)
def own_Qc (h0 : Heap) (n0 : Nat) (v : Option Value) (h : Heap) (L : List Loc) : Prop := v = some (.int (1 : Int32)) ∧ Fr n0 L ∧ h = h0
abbrev own_rmCE : Room := { frames := 0, cells := 0, slots := 0, locals := 0 }
set_option maxRecDepth 65536 in
set_option maxHeartbeats 40000000 in
theorem own_mCE (l : Launch) (Z : State) (a0 : Array Value) (hw : ∀ d ∈ tables_1, d.before a0 Z = true) (ch : Int32) (h0 : Heap) (n0 : Nat) (Z0 : n0 ≤ h0.size) (hch : ¬ (255 : Int32) < ch) :
    own_Met l Z (⟨"java/lang/StringLatin1", "canEncode", "(C)Z"⟩ : MethodName) jdk_43_method_3_code 1 (some .boolean) [] own_rmCE #[(.int ch)] h0 (own_Qc h0 n0) := by
  refine own_body (plainFor_of_name (by first | (simp [plainName, overriddenIn]; done) | decide +kernel)) (g := fun m => mkF m 0 #[.val (.int ch)] []) (fun m => by first | (simp [entryFrame, mkF, argsToLocals, Value.category]; done) | rfl) ?_
  intro p e s m A below meth c T0 K X0 hx hby hml hown hnm hret hlk hZ e0 hK
  have N0 := Fr.nil n0
  show own_Go p e below K T0 (mkF m 0 #[.val (.int ch)] [])
  refine own_go (fun _ kk' => XS.iloadN X0.here hx rfl (hb hby own_d2_0) rfl  kk') ?_
  show own_Go p e below K T0 (mkF m 1 #[.val (.int ch)] [(.int ch)])
  refine own_go (fun _ kk' => XS.sipush X0.here hx rfl (hb hby own_d2_1) kk') ?_
  show own_Go p e below K T0 (mkF m 4 #[.val (.int ch)] [(.int (255 : Int32)), (.int ch)])
  refine own_go (fun _ kk' => XS.icmpNo X0.here hx rfl (hb hby own_d2_4) rfl (flt (hch : ¬ ((255 : Int32) < ch))).2.2.1 kk') ?_
  show own_Go p e below K T0 (mkF m 7 #[.val (.int ch)] [])
  refine own_go (fun _ kk' => XS.iconst X0.here hx rfl (hb hby own_d2_7) kk') ?_
  show own_Go p e below K T0 (mkF m 8 #[.val (.int ch)] [(.int (1 : Int32))])
  refine own_go (fun _ kk' => XS.goto X0.here hx rfl (pc0 := 8) (pc' := 12) rfl (hb hby own_d2_8) (by decide) (by decide) kk') ?_
  show own_Go p e below K T0 (mkF m 12 #[.val (.int ch)] [(.int (1 : Int32))])
  exact own_retZ X0 hx hlk hK hret (by decide) (hb hby own_d2_12) (by decide) (by decide) (by rw [e0]; exact ⟨rfl, N0, rfl⟩)
def own_Qn (h0 : Heap) (n0 : Nat) (v : Option Value) (h : Heap) (L : List Loc) : Prop := ∃ b : Addr, v = some (.ref b) ∧ Fr n0 L ∧ Keep h0 h []
abbrev own_rmTB : Room := { frames := 0, cells := 1, slots := 1, locals := 0 }
set_option maxRecDepth 65536 in
set_option maxHeartbeats 40000000 in
theorem own_mTB (l : Launch) (Z : State) (a0 : Array Value) (hw : ∀ d ∈ tables_1, d.before a0 Z = true) (ch : Int32) (h0 : Heap) (n0 : Nat) (Z0 : n0 ≤ h0.size) :
    own_Met l Z (⟨"java/lang/StringLatin1", "toBytes", "(C)[B"⟩ : MethodName) jdk_43_method_46_code 1 (some (.array .byte)) [] own_rmTB #[(.int ch)] h0 (own_Qn h0 n0) := by
  refine own_body (plainFor_of_name (by first | (simp [plainName, overriddenIn]; done) | decide +kernel)) (g := fun m => mkF m 0 #[.val (.int ch)] []) (fun m => by first | (simp [entryFrame, mkF, argsToLocals, Value.category]; done) | rfl) ?_
  intro p e s m A below meth c T0 K X0 hx hby hml hown hnm hret hlk hZ e0 hK
  have N0 := Fr.nil n0
  show own_Go p e below K T0 (mkF m 0 #[.val (.int ch)] [])
  refine own_go (fun _ kk' => XS.iconst X0.here hx rfl (hb hby own_d3_0) kk') ?_
  show own_Go p e below K T0 (mkF m 1 #[.val (.int ch)] [(.int (1 : Int32))])
  obtain ⟨T22, h22, k22, X22, e22, E22, A22, st22⟩ := newP X0 hx hZ (hw _ (List.mem_of_getElem? (i := 17) rfl)) e0 (g := (mkF m 1 #[.val (.int ch)] [(.int (1 : Int32))])) rfl (hb hby own_d3_1) rfl (by decide) (cap := 1) (by decide) (by decide) (by decide) (by decide)
  obtain ⟨b22, g22⟩ : ∃ z, z = h0.size := ⟨_, rfl⟩
  rw [← g22] at A22 st22
  have gp22 : n0 ≤ b22 := Nat.le_trans Z0 (Nat.le_of_eq g22.symm)
  have sz22 : h0.size ≤ b22 := Nat.le_trans (Nat.le_refl _) (Nat.le_of_eq g22.symm)
  have V22 : Arv Z h22 b22 k22 .byte (1 : Int32) [(.int (0 : Int32))] (.int (0 : Int32)) := (Arv.new A22 (by decide)).pad (pad_rep [] (.int (0 : Int32)) 1)
  refine own_go st22 ?_
  show own_Go p e below K T22 (mkF m 3 #[.val (.int ch)] [(.ref b22)])
  refine own_go (fun _ kk' => XS.dup X22.here hx rfl (hb hby own_d3_3) rfl rfl kk') ?_
  show own_Go p e below K T22 (mkF m 4 #[.val (.int ch)] [(.ref b22), (.ref b22)])
  refine own_go (fun _ kk' => XS.iconst X22.here hx rfl (hb hby own_d3_4) kk') ?_
  show own_Go p e below K T22 (mkF m 5 #[.val (.int ch)] [(.int (0 : Int32)), (.ref b22), (.ref b22)])
  refine own_go (fun _ kk' => XS.iloadN X22.here hx rfl (hb hby own_d3_5) rfl  kk') ?_
  show own_Go p e below K T22 (mkF m 6 #[.val (.int ch)] [(.int ch), (.int (0 : Int32)), (.ref b22), (.ref b22)])
  refine own_go (fun _ kk' => XS.i2b X22.here hx rfl (hb hby own_d3_6) rfl kk') ?_
  show own_Go p e below K T22 (mkF m 7 #[.val (.int ch)] [(.int (ch.toInt8.toInt32)), (.int (0 : Int32)), (.ref b22), (.ref b22)])
  obtain ⟨cl23, Ar23, q23, S23, Nn23, H23, G23⟩ := (id V22)
  have hin23 : ¬ ((0 : Int32) < 0 ∨ cl23.slots.size ≤ ((0 : Int32)).toNatClampNeg) := inb_of S23 ⟨by decide, by decide⟩
  obtain ⟨T23, h23, X23, e23, W23, st23⟩ := stB X22 hx hZ e22 Ar23 (j := (0 : Int32)) hin23 (g := (mkF m 7 #[.val (.int ch)] [(.int (ch.toInt8.toInt32)), (.int (0 : Int32)), (.ref b22), (.ref b22)])) rfl rfl (hb hby own_d3_7)
  have V23 : Arv Z h23 b22 k22 .byte (1 : Int32) [(.int (nar .byte (ch.toInt8.toInt32)))] (.int (0 : Int32)) := Arv.set Ar23 q23 S23 Nn23 H23 G23 (fits_nar_byte _) W23 0 rfl (Nat.le_of_ble_eq_true rfl)
  have N23 := Fr.snoc X23 N0 gp22
  refine own_go st23 ?_
  show own_Go p e below K T23 (mkF m 8 #[.val (.int ch)] [(.ref b22)])
  exact own_retR X23 hx hlk hK hret rfl rfl (hb hby own_d3_8) (by decide) (by decide) (by rw [e23]; exact ⟨b22, rfl, N23, (((Keep.refl h0 []).ext E22).wr W23 (Or.inr sz22))⟩)
abbrev own_rmSI : Room := { frames := 1, cells := 0, slots := 0, locals := 12 }
set_option maxRecDepth 65536 in
set_option maxHeartbeats 40000000 in
theorem own_mSI (l : Launch) (Z : State) (a0 : Array Value) (hw : ∀ d ∈ tables_1, d.before a0 Z = true) (a bs : Addr) (u_value : Value) (u_coder : Value) (h0 : Heap) (n0 : Nat) (Z0 : n0 ≤ h0.size) (Ea : Exa Z h0 a "java/lang/String") (F_value : Fld Z h0 a "java/lang/String" "value" "[B" u_value) (F_coder : Fld Z h0 a "java/lang/String" "coder" "B" u_coder) (ga : n0 ≤ a) :
    own_Met l Z (⟨"java/lang/String", "<init>", "([BB)V"⟩ : MethodName) jdk_42_method_151_code 3 none [] own_rmSI #[(.ref a), (.ref bs), (.int (0 : Int32))] h0 (own_Qk a h0 n0) := by
  refine own_body (plainFor_of_name (by first | (simp [plainName, overriddenIn]; done) | decide +kernel)) (g := fun m => mkF m 0 #[.val (.ref a), .val (.ref bs), .val (.int (0 : Int32))] []) (fun m => by first | (simp [entryFrame, mkF, argsToLocals, Value.category]; done) | rfl) ?_
  intro p e s m A below meth c T0 K X0 hx hby hml hown hnm hret hlk hZ e0 hK
  have N0 := Fr.nil n0
  show own_Go p e below K T0 (mkF m 0 #[.val (.ref a), .val (.ref bs), .val (.int (0 : Int32))] [])
  refine own_go (fun _ kk' => XS.aloadN X0.here hx rfl (hb hby own_d4_0) rfl rfl  kk') ?_
  show own_Go p e below K T0 (mkF m 1 #[.val (.ref a), .val (.ref bs), .val (.int (0 : Int32))] [(.ref a)])
  obtain ⟨T24, X24, e24, st24⟩ := initO X0 hx hZ hown (hw _ (List.mem_of_getElem? (i := 22) rfl)) (hw _ (List.mem_of_getElem? (i := 23) rfl)) (hw _ (List.mem_of_getElem? (i := 24) rfl)) e0 (g := (mkF m 1 #[.val (.ref a), .val (.ref bs), .val (.int (0 : Int32))] [(.ref a)])) rfl (by rw [hml]; rfl) rfl (hb hby own_d4_1) (by decide) (W := 0) (by show 2 * 0 + _ ≤ _; exact Nat.le_of_eq rfl) (by decide)
  refine own_go st24 ?_
  show own_Go p e below K T24 (mkF m 4 #[.val (.ref a), .val (.ref bs), .val (.int (0 : Int32))] [])
  refine own_go (fun _ kk' => XS.aloadN X24.here hx rfl (hb hby own_d4_4) rfl rfl  kk') ?_
  show own_Go p e below K T24 (mkF m 5 #[.val (.ref a), .val (.ref bs), .val (.int (0 : Int32))] [(.ref a)])
  refine own_go (fun _ kk' => XS.aloadN X24.here hx rfl (hb hby own_d4_5) rfl rfl  kk') ?_
  show own_Go p e below K T24 (mkF m 6 #[.val (.ref a), .val (.ref bs), .val (.int (0 : Int32))] [(.ref bs), (.ref a)])
  obtain ⟨T25, h25, X25, e25, W25, st25⟩ := putF X24 hx hZ hown (host := "") (Or.inl (hw _ (List.mem_of_getElem? (i := 25) rfl))) Via.refl e24 F_value Ea (Or.inr ⟨(hw _ (List.mem_of_getElem? (i := 26) rfl)), rfl, hnm⟩) (hw _ (List.mem_of_getElem? (i := 13) rfl)) (ty := (.array .byte)) (by decide) rfl rfl (g := (mkF m 6 #[.val (.ref a), .val (.ref bs), .val (.int (0 : Int32))] [(.ref bs), (.ref a)])) rfl rfl (hb hby own_d4_6)
  have F25 := F_value.same W25
  have N25 := Fr.snoc X25 N0 ga
  refine own_go st25 ?_
  show own_Go p e below K T25 (mkF m 9 #[.val (.ref a), .val (.ref bs), .val (.int (0 : Int32))] [])
  refine own_go (fun _ kk' => XS.aloadN X25.here hx rfl (hb hby own_d4_9) rfl rfl  kk') ?_
  show own_Go p e below K T25 (mkF m 10 #[.val (.ref a), .val (.ref bs), .val (.int (0 : Int32))] [(.ref a)])
  refine own_go (fun _ kk' => XS.iloadN X25.here hx rfl (hb hby own_d4_10) rfl  kk') ?_
  show own_Go p e below K T25 (mkF m 11 #[.val (.ref a), .val (.ref bs), .val (.int (0 : Int32))] [(.int (0 : Int32)), (.ref a)])
  obtain ⟨T26, h26, X26, e26, W26, st26⟩ := putFN X25 hx hZ hown (hw _ (List.mem_of_getElem? (i := 27) rfl)) Via.refl e25 (F_coder.other W25 (Or.inr (slot_ne (Or.inr (hw _ (List.mem_of_getElem? (i := 28) rfl))) (Or.inr (hw _ (List.mem_of_getElem? (i := 26) rfl))) (by decide) (t := .byte) (t' := (.array .byte)) (by decide) (by decide)))) (Ea.wr W25) (Or.inr ⟨(hw _ (List.mem_of_getElem? (i := 28) rfl)), rfl, hnm⟩) (hw _ (List.mem_of_getElem? (i := 13) rfl)) (ty := .byte) (v' := (.int (0 : Int32))) (by decide) rfl (by decide) (g := (mkF m 11 #[.val (.ref a), .val (.ref bs), .val (.int (0 : Int32))] [(.int (0 : Int32)), (.ref a)])) rfl rfl (hb hby own_d4_11)
  have F26 := (F_coder.other W25 (Or.inr (slot_ne (Or.inr (hw _ (List.mem_of_getElem? (i := 28) rfl))) (Or.inr (hw _ (List.mem_of_getElem? (i := 26) rfl))) (by decide) (t := .byte) (t' := (.array .byte)) (by decide) (by decide)))).same W26
  have N26 := Fr.snoc X26 N25 ga
  refine own_go st26 ?_
  show own_Go p e below K T26 (mkF m 14 #[.val (.ref a), .val (.ref bs), .val (.int (0 : Int32))] [])
  exact own_retV X26 hx hlk hK hret (hb hby own_d4_14) (by decide) (by decide) (by rw [e26]; exact ⟨rfl, N26, (((Keep.refl h0 [a]).wr W25 (Or.inl (List.mem_of_getElem? (i := 0) rfl))).wr W26 (Or.inl (List.mem_of_getElem? (i := 0) rfl)))⟩)
abbrev own_rmVO : Room := { frames := 2, cells := 2, slots := 5, locals := 27 }
set_option maxRecDepth 65536 in
set_option maxHeartbeats 40000000 in
theorem own_mVO (l : Launch) (Z : State) (a0 : Array Value) (hw : ∀ d ∈ tables_1, d.before a0 Z = true) (ch cs : Int32) (h0 : Heap) (n0 : Nat) (Z0 : n0 ≤ h0.size) (hch : ¬ (255 : Int32) < ch) (hcs : ¬ cs = (0 : Int32)) (O0 : Old Z n0 h0) (SS : Sta Z Z.heap "java/lang/String" "COMPACT_STRINGS" "Z" (.int cs)) :
    own_Met l Z (⟨"java/lang/String", "valueOf", "(C)Ljava/lang/String;"⟩ : MethodName) jdk_42_method_139_code 1 (some (.object "java/lang/String")) [] own_rmVO #[(.int ch)] h0 (own_Qn h0 n0) := by
  refine own_body (plainFor_of_name (by first | (simp [plainName, overriddenIn]; done) | decide +kernel)) (g := fun m => mkF m 0 #[.val (.int ch)] []) (fun m => by first | (simp [entryFrame, mkF, argsToLocals, Value.category]; done) | rfl) ?_
  intro p e s m A below meth c T0 K X0 hx hby hml hown hnm hret hlk hZ e0 hK
  have N0 := Fr.nil n0
  show own_Go p e below K T0 (mkF m 0 #[.val (.int ch)] [])
  obtain ⟨T27, X27, e27, st27⟩ := getS2 X0 hx hZ hown (host := "") (Or.inl (hw _ (List.mem_of_getElem? (i := 7) rfl))) Via.refl e0 (SS.ext O0.2) (g := (mkF m 0 #[.val (.int ch)] [])) rfl (hb hby own_d1_0)
  refine own_go st27 ?_
  show own_Go p e below K T27 (mkF m 3 #[.val (.int ch)] [(.int cs)])
  refine own_go (fun _ kk' => XS.ifNo X27.here hx rfl (hb hby own_d1_3) rfl ((if0 _ _).trans (feq (hcs : ¬ (cs = (0 : Int32)))).1) kk') ?_
  show own_Go p e below K T27 (mkF m 6 #[.val (.int ch)] [])
  refine own_go (fun _ kk' => XS.iloadN X27.here hx rfl (hb hby own_d1_6) rfl  kk') ?_
  show own_Go p e below K T27 (mkF m 7 #[.val (.int ch)] [(.int ch)])
  refine own_callS X27 hx hZ (y := (⟨"java/lang/StringLatin1", "canEncode", "(C)Z"⟩ : MethodName)) hown (hw _ (List.mem_of_getElem? (i := 8) rfl)) (hw _ (List.mem_of_getElem? (i := 9) rfl)) (hw _ (List.mem_of_getElem? (i := 10) rfl)) (hw _ (List.mem_of_getElem? (i := 11) rfl)) (by decide) e27 (rm := own_rmCE) (argsL := [(.int ch)]) (rest := []) (own_mCE l Z a0 hw ch h0 n0 Z0 hch) (W := 0) (by decide) (by decide) (by decide) (by decide) (g := (mkF m 7 #[.val (.int ch)] [(.int ch)])) rfl (by rw [hml]; rfl) (lenOf own_pd2 rfl) rfl (by show 2 * 0 + _ ≤ _; exact Nat.le_of_eq rfl) (hb hby own_d1_7) ?_
  intro v28 T28 L28 X28 hQ28
  obtain ⟨rfl, Nq28, e28⟩ := hQ28
  have N28 := Fr.app N0 Nq28
  show own_Go p e below K T28 (mkF m 10 #[.val (.int ch)] [(.int (1 : Int32))])
  refine own_go (fun _ kk' => XS.ifNo X28.here hx rfl (hb hby own_d1_10) rfl ((if0 _ _).trans (feq ((by decide) : ¬ ((1 : Int32) = (0 : Int32)))).1) kk') ?_
  show own_Go p e below K T28 (mkF m 13 #[.val (.int ch)] [])
  obtain ⟨T29, h29, X29, e29, E29, A29, D29, -, st29⟩ := newO X28 hx hZ hown (hw _ (List.mem_of_getElem? (i := 12) rfl)) (hw _ (List.mem_of_getElem? (i := 13) rfl)) (hw _ (List.mem_of_getElem? (i := 5) rfl)) e28 (g := (mkF m 13 #[.val (.int ch)] [])) rfl (hb hby own_d1_13) (by decide) (by decide)
  obtain ⟨b29, g29⟩ : ∃ z, z = h0.size := ⟨_, rfl⟩
  rw [← g29] at A29 D29 st29
  have gp29 : n0 ≤ b29 := Nat.le_trans Z0 (Nat.le_of_eq g29.symm)
  have sz29 : h0.size ≤ b29 := Nat.le_trans (Nat.le_refl _) (Nat.le_of_eq g29.symm)
  have F29_value : Fld Z h29 b29 "java/lang/String" "value" "[B" .null := D29 (Or.inr (hw _ (List.mem_of_getElem? (i := 26) rfl))) (ty := (.array .byte)) (by decide)
  have F29_coder : Fld Z h29 b29 "java/lang/String" "coder" "B" (.int (0 : Int32)) := D29 (Or.inr (hw _ (List.mem_of_getElem? (i := 28) rfl))) (ty := .byte) (by decide)
  refine own_go st29 ?_
  show own_Go p e below K T29 (mkF m 16 #[.val (.int ch)] [(.ref b29)])
  refine own_go (fun _ kk' => XS.dup X29.here hx rfl (hb hby own_d1_16) rfl rfl kk') ?_
  show own_Go p e below K T29 (mkF m 17 #[.val (.int ch)] [(.ref b29), (.ref b29)])
  refine own_go (fun _ kk' => XS.iloadN X29.here hx rfl (hb hby own_d1_17) rfl  kk') ?_
  show own_Go p e below K T29 (mkF m 18 #[.val (.int ch)] [(.int ch), (.ref b29), (.ref b29)])
  refine own_callS X29 hx hZ (y := (⟨"java/lang/StringLatin1", "toBytes", "(C)[B"⟩ : MethodName)) hown (hw _ (List.mem_of_getElem? (i := 14) rfl)) (hw _ (List.mem_of_getElem? (i := 15) rfl)) (hw _ (List.mem_of_getElem? (i := 10) rfl)) (hw _ (List.mem_of_getElem? (i := 16) rfl)) (by decide) e29 (rm := own_rmTB) (argsL := [(.int ch)]) (rest := [(.ref b29), (.ref b29)]) (own_mTB l Z a0 hw ch h29 n0 (Nat.le_trans Z0 E29.1)) (W := 2) (by decide) (by decide) (by decide) (by decide) (g := (mkF m 18 #[.val (.int ch)] [(.int ch), (.ref b29), (.ref b29)])) rfl (by rw [hml]; rfl) (lenOf own_pd3 rfl) rfl (by show 2 * 0 + _ ≤ _; exact Nat.le_of_eq rfl) (hb hby own_d1_18) ?_
  intro v30 T30 L30 X30 hQ30
  obtain ⟨bq30, rfl, Nq30, Kq30⟩ := hQ30
  have N30 := Fr.app N28 Nq30
  show own_Go p e below K T30 (mkF m 21 #[.val (.int ch)] [(.ref bq30), (.ref b29), (.ref b29)])
  refine own_go (fun _ kk' => XS.iconst X30.here hx rfl (hb hby own_d1_21) kk') ?_
  show own_Go p e below K T30 (mkF m 22 #[.val (.int ch)] [(.int (0 : Int32)), (.ref bq30), (.ref b29), (.ref b29)])
  refine own_callI X30 hx hZ (y := (⟨"java/lang/String", "<init>", "([BB)V"⟩ : MethodName)) rfl hown (hw _ (List.mem_of_getElem? (i := 18) rfl)) (hw _ (List.mem_of_getElem? (i := 19) rfl)) (hw _ (List.mem_of_getElem? (i := 5) rfl)) (hw _ (List.mem_of_getElem? (i := 21) rfl)) (by decide) rfl (rm := own_rmSI) (a := b29) (argsL := [(.ref bq30), (.int (0 : Int32))]) (rest := [(.ref b29)]) (own_mSI l Z a0 hw b29 bq30 .null (.int (0 : Int32)) T30.heap n0 (Nat.le_trans (Nat.le_trans Z0 E29.1) Kq30.1) (A29.keep Kq30) (F29_value.keep Kq30 nin0) (F29_coder.keep Kq30 nin0) gp29) (W := 1) (by decide) (by decide) (by decide) (by decide) (g := (mkF m 22 #[.val (.int ch)] [(.int (0 : Int32)), (.ref bq30), (.ref b29), (.ref b29)])) rfl (by rw [hml]; rfl) (lenOf own_pd4 rfl) rfl (by show 2 * 0 + _ ≤ _; exact Nat.le_of_eq rfl) (hb hby own_d1_22) ?_
  intro v31 T31 L31 X31 hQ31
  obtain ⟨rfl, Nq31, Kq31⟩ := hQ31
  have N31 := Fr.app N30 Nq31
  show own_Go p e below K T31 (mkF m 25 #[.val (.int ch)] [(.ref b29)])
  exact own_retR X31 hx hlk hK hret rfl rfl (hb hby own_d1_25) (by decide) (by decide) ⟨b29, rfl, N31, ((((Keep.refl h0 []).ext E29).trans Kq30 all0).trans Kq31 (allS (Or.inr sz29) all0))⟩
def own_Qg (k : Int32) (h0 : Heap) (n0 : Nat) (v : Option Value) (h : Heap) (L : List Loc) : Prop := v = some (.int k) ∧ Fr n0 L ∧ h = h0
abbrev own_rmG : Room := { frames := 0, cells := 0, slots := 0, locals := 0 }
set_option maxRecDepth 65536 in
set_option maxHeartbeats 40000000 in
theorem own_mG (l : Launch) (Z : State) (a0 : Array Value) (hw : ∀ d ∈ tables_1, d.before a0 Z = true) (a : Addr) (k : Int32) (h0 : Heap) (n0 : Nat) (Z0 : n0 ≤ h0.size) (FM : Fld Z h0 a "com/example/actd/actd/lifecycle/AppProcess" "missedDeadlines" "I" (.int k)) :
    own_Met l Z (⟨"com/example/actd/actd/lifecycle/AppProcess", "getMissedDeadlines", "()I"⟩ : MethodName) prog_19_method_10_code 1 (some .int) [] own_rmG #[(.ref a)] h0 (own_Qg k h0 n0) := by
  refine own_body (plainFor_of_name (by first | (simp [plainName, overriddenIn]; done) | decide +kernel)) (g := fun m => mkF m 0 #[.val (.ref a)] []) (fun m => by first | (simp [entryFrame, mkF, argsToLocals, Value.category]; done) | rfl) ?_
  intro p e s m A below meth c T0 K X0 hx hby hml hown hnm hret hlk hZ e0 hK
  have N0 := Fr.nil n0
  show own_Go p e below K T0 (mkF m 0 #[.val (.ref a)] [])
  refine own_go (fun _ kk' => XS.aloadN X0.here hx rfl (hb hby own_d13_0) rfl rfl  kk') ?_
  show own_Go p e below K T0 (mkF m 1 #[.val (.ref a)] [(.ref a)])
  obtain ⟨T32, X32, e32, st32⟩ := getF X0 hx hZ hown (host := "") (Or.inl (hw _ (List.mem_of_getElem? (i := 92) rfl))) Via.refl e0 FM (g := (mkF m 1 #[.val (.ref a)] [(.ref a)])) rfl rfl (hb hby own_d13_1)
  refine own_go st32 ?_
  show own_Go p e below K T32 (mkF m 4 #[.val (.ref a)] [(.int k)])
  exact own_retI X32 hx hlk hK hret (hb hby own_d13_4) (by decide) (by decide) (by rw [e32]; exact ⟨rfl, N0, rfl⟩)
abbrev own_rmR : Room := { frames := 0, cells := 0, slots := 0, locals := 0 }
set_option maxRecDepth 65536 in
set_option maxHeartbeats 40000000 in
theorem own_mR (l : Launch) (Z : State) (a0 : Array Value) (hw : ∀ d ∈ tables_1, d.before a0 Z = true) (a : Addr) (k : Int32) (h0 : Heap) (n0 : Nat) (Z0 : n0 ≤ h0.size) (Ea : Exa Z h0 a "com/example/actd/actd/lifecycle/AppProcess") (ga : n0 ≤ a) (FM : Fld Z h0 a "com/example/actd/actd/lifecycle/AppProcess" "missedDeadlines" "I" (.int k)) :
    own_Met l Z (⟨"com/example/actd/actd/lifecycle/AppProcess", "reported", "()V"⟩ : MethodName) prog_19_method_12_code 1 none [] own_rmR #[(.ref a)] h0 (own_Qa Z a (0 : Int32) none h0 n0) := by
  refine own_body (plainFor_of_name (by first | (simp [plainName, overriddenIn]; done) | decide +kernel)) (g := fun m => mkF m 0 #[.val (.ref a)] []) (fun m => by first | (simp [entryFrame, mkF, argsToLocals, Value.category]; done) | rfl) ?_
  intro p e s m A below meth c T0 K X0 hx hby hml hown hnm hret hlk hZ e0 hK
  have N0 := Fr.nil n0
  show own_Go p e below K T0 (mkF m 0 #[.val (.ref a)] [])
  refine own_go (fun _ kk' => XS.aloadN X0.here hx rfl (hb hby own_d15_0) rfl rfl  kk') ?_
  show own_Go p e below K T0 (mkF m 1 #[.val (.ref a)] [(.ref a)])
  refine own_go (fun _ kk' => XS.iconst X0.here hx rfl (hb hby own_d15_1) kk') ?_
  show own_Go p e below K T0 (mkF m 2 #[.val (.ref a)] [(.int (0 : Int32)), (.ref a)])
  obtain ⟨T33, h33, X33, e33, W33, st33⟩ := putF X0 hx hZ hown (host := "") (Or.inl (hw _ (List.mem_of_getElem? (i := 92) rfl))) Via.refl e0 FM Ea (Or.inl (hw _ (List.mem_of_getElem? (i := 93) rfl))) (hw _ (List.mem_of_getElem? (i := 1) rfl)) (ty := .int) (by decide) rfl rfl (g := (mkF m 2 #[.val (.ref a)] [(.int (0 : Int32)), (.ref a)])) rfl rfl (hb hby own_d15_2)
  have F33 := FM.same W33
  have N33 := Fr.snoc X33 N0 ga
  refine own_go st33 ?_
  show own_Go p e below K T33 (mkF m 5 #[.val (.ref a)] [])
  exact own_retV X33 hx hlk hK hret (hb hby own_d15_5) (by decide) (by decide) (by rw [e33]; exact ⟨rfl, N33, ((Keep.refl h0 [a]).wr W33 (Or.inl (List.mem_of_getElem? (i := 0) rfl))), (Ea.wr W33), F33⟩)
abbrev own_rmM : Room := { frames := 0, cells := 0, slots := 0, locals := 0 }
set_option maxRecDepth 65536 in
set_option maxHeartbeats 40000000 in
theorem own_mM (l : Launch) (Z : State) (a0 : Array Value) (hw : ∀ d ∈ tables_1, d.before a0 Z = true) (a : Addr) (k : Int32) (h0 : Heap) (n0 : Nat) (Z0 : n0 ≤ h0.size) (Ea : Exa Z h0 a "com/example/actd/actd/lifecycle/AppProcess") (ga : n0 ≤ a) (FM : Fld Z h0 a "com/example/actd/actd/lifecycle/AppProcess" "missedDeadlines" "I" (.int k)) :
    own_Met l Z (⟨"com/example/actd/actd/lifecycle/AppProcess", "missDeadline", "()I"⟩ : MethodName) prog_19_method_11_code 1 (some .int) [] own_rmM #[(.ref a)] h0 (own_Qa Z a (k + (1 : Int32)) (some (.int (k + (1 : Int32)))) h0 n0) := by
  refine own_body (plainFor_of_name (by first | (simp [plainName, overriddenIn]; done) | decide +kernel)) (g := fun m => mkF m 0 #[.val (.ref a)] []) (fun m => by first | (simp [entryFrame, mkF, argsToLocals, Value.category]; done) | rfl) ?_
  intro p e s m A below meth c T0 K X0 hx hby hml hown hnm hret hlk hZ e0 hK
  have N0 := Fr.nil n0
  show own_Go p e below K T0 (mkF m 0 #[.val (.ref a)] [])
  refine own_go (fun _ kk' => XS.aloadN X0.here hx rfl (hb hby own_d16_0) rfl rfl  kk') ?_
  show own_Go p e below K T0 (mkF m 1 #[.val (.ref a)] [(.ref a)])
  refine own_go (fun _ kk' => XS.dup X0.here hx rfl (hb hby own_d16_1) rfl rfl kk') ?_
  show own_Go p e below K T0 (mkF m 2 #[.val (.ref a)] [(.ref a), (.ref a)])
  obtain ⟨T34, X34, e34, st34⟩ := getF X0 hx hZ hown (host := "") (Or.inl (hw _ (List.mem_of_getElem? (i := 92) rfl))) Via.refl e0 FM (g := (mkF m 2 #[.val (.ref a)] [(.ref a), (.ref a)])) rfl rfl (hb hby own_d16_2)
  refine own_go st34 ?_
  show own_Go p e below K T34 (mkF m 5 #[.val (.ref a)] [(.int k), (.ref a)])
  refine own_go (fun _ kk' => XS.iconst X34.here hx rfl (hb hby own_d16_5) kk') ?_
  show own_Go p e below K T34 (mkF m 6 #[.val (.ref a)] [(.int (1 : Int32)), (.int k), (.ref a)])
  refine own_go (fun _ kk' => XS.iadd X34.here hx rfl (hb hby own_d16_6) rfl kk') ?_
  show own_Go p e below K T34 (mkF m 7 #[.val (.ref a)] [(.int (k + (1 : Int32))), (.ref a)])
  refine own_go (fun _ kk' => XS.dupX1 X34.here hx rfl (hb hby own_d16_7) rfl rfl rfl kk') ?_
  show own_Go p e below K T34 (mkF m 8 #[.val (.ref a)] [(.int (k + (1 : Int32))), (.ref a), (.int (k + (1 : Int32)))])
  obtain ⟨T35, h35, X35, e35, W35, st35⟩ := putF X34 hx hZ hown (host := "") (Or.inl (hw _ (List.mem_of_getElem? (i := 92) rfl))) Via.refl e34 FM Ea (Or.inl (hw _ (List.mem_of_getElem? (i := 93) rfl))) (hw _ (List.mem_of_getElem? (i := 1) rfl)) (ty := .int) (by decide) rfl rfl (g := (mkF m 8 #[.val (.ref a)] [(.int (k + (1 : Int32))), (.ref a), (.int (k + (1 : Int32)))])) rfl rfl (hb hby own_d16_8)
  have F35 := FM.same W35
  have N35 := Fr.snoc X35 N0 ga
  refine own_go st35 ?_
  show own_Go p e below K T35 (mkF m 11 #[.val (.ref a)] [(.int (k + (1 : Int32)))])
  exact own_retI X35 hx hlk hK hret (hb hby own_d16_11) (by decide) (by decide) (by rw [e35]; exact ⟨rfl, N35, ((Keep.refl h0 [a]).wr W35 (Or.inl (List.mem_of_getElem? (i := 0) rfl))), (Ea.wr W35), F35⟩)
def own_st (ms k : Int32) : Int32 := if ms = 0 then 0 else k + 1
abbrev own_rmS : Room := { frames := 1, cells := 0, slots := 0, locals := 12 }
set_option maxRecDepth 65536 in
set_option maxHeartbeats 40000000 in
theorem own_mS (l : Launch) (Z : State) (a0 : Array Value) (hw : ∀ d ∈ tables_1, d.before a0 Z = true) (a : Addr) (ms k : Int32) (h0 : Heap) (n0 : Nat) (Z0 : n0 ≤ h0.size) (Ea : Exa Z h0 a "com/example/actd/actd/lifecycle/AppProcess") (ga : n0 ≤ a) (FM : Fld Z h0 a "com/example/actd/actd/lifecycle/AppProcess" "missedDeadlines" "I" (.int k)) :
    own_Met l Z (⟨"com/example/actd/actd/lifecycle/AppProcessMissDeadlinePinLaw", "step", "(Lcom/example/actd/actd/lifecycle/AppProcess;ZI)I"⟩ : MethodName) method_3_code 4 (some .int) [] own_rmS #[(.ref a), (.int ms), (.int k)] h0 (own_Qa Z a (own_st ms k) (some (.int (own_st ms k))) h0 n0) := by
  refine own_body (plainFor_of_name (by first | (simp [plainName, overriddenIn]; done) | decide +kernel)) (g := fun m => mkF m 0 #[.val (.ref a), .val (.int ms), .val (.int k), .unset] []) (fun m => by first | (simp [entryFrame, mkF, argsToLocals, Value.category]; done) | rfl) ?_
  intro p e s m A below meth c T0 K X0 hx hby hml hown hnm hret hlk hZ e0 hK
  have N0 := Fr.nil n0
  show own_Go p e below K T0 (mkF m 0 #[.val (.ref a), .val (.int ms), .val (.int k), .unset] [])
  refine own_go (fun _ kk' => XS.iloadN X0.here hx rfl (hb hby own_d14_0) rfl  kk') ?_
  show own_Go p e below K T0 (mkF m 1 #[.val (.ref a), .val (.int ms), .val (.int k), .unset] [(.int ms)])
  by_cases hc1_36 : ms = (0 : Int32)
  · refine own_go (fun _ kk' => XS.ifYes X0.here hx rfl (pc0 := 1) (pc' := 18) rfl (hb hby own_d14_1) rfl ((if0 _ _).trans (teq (hc1_36 : ms = (0 : Int32))).1) (by decide) (by decide) kk') ?_
    show own_Go p e below K T0 (mkF m 18 #[.val (.ref a), .val (.int ms), .val (.int k), .unset] [])
    refine own_go (fun _ kk' => XS.aloadN X0.here hx rfl (hb hby own_d14_18) rfl rfl  kk') ?_
    show own_Go p e below K T0 (mkF m 19 #[.val (.ref a), .val (.int ms), .val (.int k), .unset] [(.ref a)])
    refine own_callV X0 hx hZ (C := "com/example/actd/actd/lifecycle/AppProcess") (y := (⟨"com/example/actd/actd/lifecycle/AppProcess", "reported", "()V"⟩ : MethodName)) (z := (⟨"com/example/actd/actd/lifecycle/AppProcess", "reported", "()V"⟩ : MethodName)) hown (hw _ (List.mem_of_getElem? (i := 98) rfl)) (hw _ (List.mem_of_getElem? (i := 99) rfl)) (notFace_of_selects (args := #[]) (mvT hZ (hw _ (List.mem_of_getElem? (i := 101) rfl)))) (hw _ (List.mem_of_getElem? (i := 101) rfl)) (hw _ (List.mem_of_getElem? (i := 100) rfl)) (hw _ (List.mem_of_getElem? (i := 2) rfl)) (hw _ (List.mem_of_getElem? (i := 102) rfl)) (by decide) e0 (rm := own_rmR) (a := a) Ea (argsL := []) (rest := []) (own_mR l Z a0 hw a k h0 n0 Z0 Ea ga FM) (W := 0) (by decide) (by decide) (by decide) (by decide) (g := (mkF m 19 #[.val (.ref a), .val (.int ms), .val (.int k), .unset] [(.ref a)])) rfl (by rw [hml]; rfl) (lenOf own_pd0 rfl) rfl (by show 2 * 0 + _ ≤ _; exact Nat.le_of_eq rfl) (hb hby own_d14_19) ?_
    intro v37 T37 L37 X37 hQ37
    obtain ⟨rfl, Nq37, Kq37, Eq37, Fq37⟩ := hQ37
    have N37 := Fr.app N0 Nq37
    show own_Go p e below K T37 (mkF m 22 #[.val (.ref a), .val (.int ms), .val (.int k), .unset] [])
    refine own_go (fun _ kk' => XS.iconst X37.here hx rfl (hb hby own_d14_22) kk') ?_
    show own_Go p e below K T37 (mkF m 23 #[.val (.ref a), .val (.int ms), .val (.int k), .unset] [(.int (0 : Int32))])
    refine own_go (fun _ kk' => XS.istoreN X37.here hx rfl (hb hby own_d14_23) rfl (l' := #[.val (.ref a), .val (.int ms), .val (.int k), .val (.int (0 : Int32))]) rfl kk') ?_
    show own_Go p e below K T37 (mkF m 24 #[.val (.ref a), .val (.int ms), .val (.int k), .val (.int (0 : Int32))] [])
    refine own_go (fun _ kk' => XS.aloadN X37.here hx rfl (hb hby own_d14_24) rfl rfl  kk') ?_
    show own_Go p e below K T37 (mkF m 25 #[.val (.ref a), .val (.int ms), .val (.int k), .val (.int (0 : Int32))] [(.ref a)])
    refine own_callV X37 hx hZ (C := "com/example/actd/actd/lifecycle/AppProcess") (y := (⟨"com/example/actd/actd/lifecycle/AppProcess", "getMissedDeadlines", "()I"⟩ : MethodName)) (z := (⟨"com/example/actd/actd/lifecycle/AppProcess", "getMissedDeadlines", "()I"⟩ : MethodName)) hown (hw _ (List.mem_of_getElem? (i := 87) rfl)) (hw _ (List.mem_of_getElem? (i := 88) rfl)) (notFace_of_selects (args := #[]) (mvT hZ (hw _ (List.mem_of_getElem? (i := 90) rfl)))) (hw _ (List.mem_of_getElem? (i := 90) rfl)) (hw _ (List.mem_of_getElem? (i := 89) rfl)) (hw _ (List.mem_of_getElem? (i := 2) rfl)) (hw _ (List.mem_of_getElem? (i := 91) rfl)) (by decide) rfl (rm := own_rmG) (a := a) Eq37 (argsL := []) (rest := []) (own_mG l Z a0 hw a (0 : Int32) T37.heap n0 (Nat.le_trans Z0 Kq37.1) Fq37) (W := 0) (by decide) (by decide) (by decide) (by decide) (g := (mkF m 25 #[.val (.ref a), .val (.int ms), .val (.int k), .val (.int (0 : Int32))] [(.ref a)])) rfl (by rw [hml]; rfl) (lenOf own_pd5 rfl) rfl (by show 2 * 0 + _ ≤ _; exact Nat.le_of_eq rfl) (hb hby own_d14_25) ?_
    intro v38 T38 L38 X38 hQ38
    obtain ⟨rfl, Nq38, e38⟩ := hQ38
    have N38 := Fr.app N37 Nq38
    show own_Go p e below K T38 (mkF m 28 #[.val (.ref a), .val (.int ms), .val (.int k), .val (.int (0 : Int32))] [(.int (0 : Int32))])
    refine own_go (fun _ kk' => XS.iloadN X38.here hx rfl (hb hby own_d14_28) rfl  kk') ?_
    show own_Go p e below K T38 (mkF m 29 #[.val (.ref a), .val (.int ms), .val (.int k), .val (.int (0 : Int32))] [(.int (0 : Int32)), (.int (0 : Int32))])
    refine own_go (fun _ kk' => XS.icmpYes X38.here hx rfl (pc0 := 29) (pc' := 34) rfl (hb hby own_d14_29) rfl (teq ((by decide) : (0 : Int32) = (0 : Int32))).1 (by decide) (by decide) kk') ?_
    show own_Go p e below K T38 (mkF m 34 #[.val (.ref a), .val (.int ms), .val (.int k), .val (.int (0 : Int32))] [])
    refine own_go (fun _ kk' => XS.iloadN X38.here hx rfl (hb hby own_d14_34) rfl  kk') ?_
    show own_Go p e below K T38 (mkF m 35 #[.val (.ref a), .val (.int ms), .val (.int k), .val (.int (0 : Int32))] [(.int (0 : Int32))])
    have hst : own_st ms k = (0 : Int32) := if_pos hc1_36
    exact own_retI X38 hx hlk hK hret (hb hby own_d14_35) (by decide) (by decide) (by rw [hst]; rw [e38]; exact ⟨rfl, N38, ((Keep.refl h0 [a]).trans Kq37 (allS (Or.inl (List.mem_of_getElem? (i := 0) rfl)) all0)), Eq37, Fq37⟩)
  · refine own_go (fun _ kk' => XS.ifNo X0.here hx rfl (hb hby own_d14_1) rfl ((if0 _ _).trans (feq (hc1_36 : ¬ (ms = (0 : Int32)))).1) kk') ?_
    show own_Go p e below K T0 (mkF m 4 #[.val (.ref a), .val (.int ms), .val (.int k), .unset] [])
    refine own_go (fun _ kk' => XS.iloadN X0.here hx rfl (hb hby own_d14_4) rfl  kk') ?_
    show own_Go p e below K T0 (mkF m 5 #[.val (.ref a), .val (.int ms), .val (.int k), .unset] [(.int k)])
    refine own_go (fun _ kk' => XS.iconst X0.here hx rfl (hb hby own_d14_5) kk') ?_
    show own_Go p e below K T0 (mkF m 6 #[.val (.ref a), .val (.int ms), .val (.int k), .unset] [(.int (1 : Int32)), (.int k)])
    refine own_go (fun _ kk' => XS.iadd X0.here hx rfl (hb hby own_d14_6) rfl kk') ?_
    show own_Go p e below K T0 (mkF m 7 #[.val (.ref a), .val (.int ms), .val (.int k), .unset] [(.int (k + (1 : Int32)))])
    refine own_go (fun _ kk' => XS.istoreN X0.here hx rfl (hb hby own_d14_7) rfl (l' := #[.val (.ref a), .val (.int ms), .val (.int k), .val (.int (k + (1 : Int32)))]) rfl kk') ?_
    show own_Go p e below K T0 (mkF m 8 #[.val (.ref a), .val (.int ms), .val (.int k), .val (.int (k + (1 : Int32)))] [])
    refine own_go (fun _ kk' => XS.aloadN X0.here hx rfl (hb hby own_d14_8) rfl rfl  kk') ?_
    show own_Go p e below K T0 (mkF m 9 #[.val (.ref a), .val (.int ms), .val (.int k), .val (.int (k + (1 : Int32)))] [(.ref a)])
    refine own_callV X0 hx hZ (C := "com/example/actd/actd/lifecycle/AppProcess") (y := (⟨"com/example/actd/actd/lifecycle/AppProcess", "missDeadline", "()I"⟩ : MethodName)) (z := (⟨"com/example/actd/actd/lifecycle/AppProcess", "missDeadline", "()I"⟩ : MethodName)) hown (hw _ (List.mem_of_getElem? (i := 103) rfl)) (hw _ (List.mem_of_getElem? (i := 104) rfl)) (notFace_of_selects (args := #[]) (mvT hZ (hw _ (List.mem_of_getElem? (i := 106) rfl)))) (hw _ (List.mem_of_getElem? (i := 106) rfl)) (hw _ (List.mem_of_getElem? (i := 105) rfl)) (hw _ (List.mem_of_getElem? (i := 2) rfl)) (hw _ (List.mem_of_getElem? (i := 107) rfl)) (by decide) e0 (rm := own_rmM) (a := a) Ea (argsL := []) (rest := []) (own_mM l Z a0 hw a k h0 n0 Z0 Ea ga FM) (W := 0) (by decide) (by decide) (by decide) (by decide) (g := (mkF m 9 #[.val (.ref a), .val (.int ms), .val (.int k), .val (.int (k + (1 : Int32)))] [(.ref a)])) rfl (by rw [hml]; rfl) (lenOf own_pd5 rfl) rfl (by show 2 * 0 + _ ≤ _; exact Nat.le_of_eq rfl) (hb hby own_d14_9) ?_
    intro v39 T39 L39 X39 hQ39
    obtain ⟨rfl, Nq39, Kq39, Eq39, Fq39⟩ := hQ39
    have N39 := Fr.app N0 Nq39
    show own_Go p e below K T39 (mkF m 12 #[.val (.ref a), .val (.int ms), .val (.int k), .val (.int (k + (1 : Int32)))] [(.int (k + (1 : Int32)))])
    refine own_go (fun _ kk' => XS.iloadN X39.here hx rfl (hb hby own_d14_12) rfl  kk') ?_
    show own_Go p e below K T39 (mkF m 13 #[.val (.ref a), .val (.int ms), .val (.int k), .val (.int (k + (1 : Int32)))] [(.int (k + (1 : Int32))), (.int (k + (1 : Int32)))])
    refine own_go (fun _ kk' => XS.icmpYes X39.here hx rfl (pc0 := 13) (pc' := 24) rfl (hb hby own_d14_13) rfl (teq (rfl : (k + (1 : Int32)) = (k + (1 : Int32)))).1 (by decide) (by decide) kk') ?_
    show own_Go p e below K T39 (mkF m 24 #[.val (.ref a), .val (.int ms), .val (.int k), .val (.int (k + (1 : Int32)))] [])
    refine own_go (fun _ kk' => XS.aloadN X39.here hx rfl (hb hby own_d14_24) rfl rfl  kk') ?_
    show own_Go p e below K T39 (mkF m 25 #[.val (.ref a), .val (.int ms), .val (.int k), .val (.int (k + (1 : Int32)))] [(.ref a)])
    refine own_callV X39 hx hZ (C := "com/example/actd/actd/lifecycle/AppProcess") (y := (⟨"com/example/actd/actd/lifecycle/AppProcess", "getMissedDeadlines", "()I"⟩ : MethodName)) (z := (⟨"com/example/actd/actd/lifecycle/AppProcess", "getMissedDeadlines", "()I"⟩ : MethodName)) hown (hw _ (List.mem_of_getElem? (i := 87) rfl)) (hw _ (List.mem_of_getElem? (i := 88) rfl)) (notFace_of_selects (args := #[]) (mvT hZ (hw _ (List.mem_of_getElem? (i := 90) rfl)))) (hw _ (List.mem_of_getElem? (i := 90) rfl)) (hw _ (List.mem_of_getElem? (i := 89) rfl)) (hw _ (List.mem_of_getElem? (i := 2) rfl)) (hw _ (List.mem_of_getElem? (i := 91) rfl)) (by decide) rfl (rm := own_rmG) (a := a) Eq39 (argsL := []) (rest := []) (own_mG l Z a0 hw a (k + (1 : Int32)) T39.heap n0 (Nat.le_trans Z0 Kq39.1) Fq39) (W := 0) (by decide) (by decide) (by decide) (by decide) (g := (mkF m 25 #[.val (.ref a), .val (.int ms), .val (.int k), .val (.int (k + (1 : Int32)))] [(.ref a)])) rfl (by rw [hml]; rfl) (lenOf own_pd5 rfl) rfl (by show 2 * 0 + _ ≤ _; exact Nat.le_of_eq rfl) (hb hby own_d14_25) ?_
    intro v40 T40 L40 X40 hQ40
    obtain ⟨rfl, Nq40, e40⟩ := hQ40
    have N40 := Fr.app N39 Nq40
    show own_Go p e below K T40 (mkF m 28 #[.val (.ref a), .val (.int ms), .val (.int k), .val (.int (k + (1 : Int32)))] [(.int (k + (1 : Int32)))])
    refine own_go (fun _ kk' => XS.iloadN X40.here hx rfl (hb hby own_d14_28) rfl  kk') ?_
    show own_Go p e below K T40 (mkF m 29 #[.val (.ref a), .val (.int ms), .val (.int k), .val (.int (k + (1 : Int32)))] [(.int (k + (1 : Int32))), (.int (k + (1 : Int32)))])
    refine own_go (fun _ kk' => XS.icmpYes X40.here hx rfl (pc0 := 29) (pc' := 34) rfl (hb hby own_d14_29) rfl (teq (rfl : (k + (1 : Int32)) = (k + (1 : Int32)))).1 (by decide) (by decide) kk') ?_
    show own_Go p e below K T40 (mkF m 34 #[.val (.ref a), .val (.int ms), .val (.int k), .val (.int (k + (1 : Int32)))] [])
    refine own_go (fun _ kk' => XS.iloadN X40.here hx rfl (hb hby own_d14_34) rfl  kk') ?_
    show own_Go p e below K T40 (mkF m 35 #[.val (.ref a), .val (.int ms), .val (.int k), .val (.int (k + (1 : Int32)))] [(.int (k + (1 : Int32)))])
    have hst : own_st ms k = (k + (1 : Int32)) := if_neg hc1_36
    exact own_retI X40 hx hlk hK hret (hb hby own_d14_35) (by decide) (by decide) (by rw [hst]; rw [e40]; exact ⟨rfl, N40, ((Keep.refl h0 [a]).trans Kq39 (allS (Or.inl (List.mem_of_getElem? (i := 0) rfl)) all0)), Eq39, Fq39⟩)
theorem own_stb {ms k : Int32} {n : Int} (h0 : 0 ≤ k.toInt) (h1 : k.toInt ≤ n) (hn : n < 1000) : 0 ≤ (own_st ms k).toInt ∧ (own_st ms k).toInt ≤ n + 1 := by
  unfold own_st
  split
  · have : (0 : Int32).toInt = 0 := rfl
    omega
  · have q := c_iadd k 1
    have r := rng32 (k + 1)
    have : (1 : Int32).toInt = 1 := rfl
    omega
theorem own_neg {k : Int32} (h : 0 ≤ k.toInt) : ¬ k < (0 : Int32) := by
  rw [Int32.lt_iff_toInt_lt]; have : (0 : Int32).toInt = 0 := rfl; omega
theorem own_ch (y : Int32) : ¬ (255 : Int32) < (y &&& (255 : Int32)).toUInt32.toUInt16.toUInt32.toInt32 := by
  rw [i2c_mask, Int32.lt_iff_toInt_lt]
  have := (c_and y 255 (by decide)).2
  omega
def own_Q (n0 : Nat) (v : Option Value) (h : Heap) (L : List Loc) : Prop := v = some (.int 1) ∧ Fr n0 L
/- the law needs frames 5, cells 5, slots 21, locals 66 -/
set_option maxRecDepth 65536 in
set_option maxHeartbeats 40000000 in
theorem own_law (l : Launch) (Z : State) (a0 : Array Value) (hw : ∀ d ∈ tables_1, d.before a0 Z = true) (x0 y0 cs : Int32) (es : Addr) (h0 : Heap) (n0 : Nat) (Z0 : n0 ≤ h0.size) (hcs : ¬ cs = (0 : Int32)) (O0 : Old Z n0 h0) (SE : Sta Z Z.heap "java/util/ImmutableCollections" "EMPTY_SET" "Ljava/util/ImmutableCollections$SetN;" (.ref es)) (SS : Sta Z Z.heap "java/lang/String" "COMPACT_STRINGS" "Z" (.int cs)) :
    own_Met l Z x code maxLocals ret tables_1 room_1 #[(.int x0), (.int y0)] h0 (own_Q n0) := by
  refine own_body (plainFor_of_name (by first | (simp [plainName, overriddenIn]; done) | decide +kernel)) (g := fun m => mkF m 0 #[.val (.int x0), .val (.int y0), .unset, .unset] []) (fun m => by first | (simp [entryFrame, mkF, argsToLocals, Value.category, maxLocals]; done) | rfl) ?_
  intro p e s m A below meth c T0 K X0 hx hby hml hown hnm hret hlk hZ e0 hK
  have N0 := Fr.nil n0
  show own_Go p e below K T0 (mkF m 0 #[.val (.int x0), .val (.int y0), .unset, .unset] [])
  obtain ⟨T41, h41, X41, e41, E41, A41, D41, -, st41⟩ := newO X0 hx hZ hown (hw _ (List.mem_of_getElem? (i := 0) rfl)) (hw _ (List.mem_of_getElem? (i := 1) rfl)) (hw _ (List.mem_of_getElem? (i := 2) rfl)) e0 (g := (mkF m 0 #[.val (.int x0), .val (.int y0), .unset, .unset] [])) rfl (hb hby at_0) (by decide) (by decide)
  obtain ⟨b41, g41⟩ : ∃ z, z = h0.size := ⟨_, rfl⟩
  rw [← g41] at A41 D41 st41
  have gp41 : n0 ≤ b41 := Nat.le_trans Z0 (Nat.le_of_eq g41.symm)
  have sz41 : h0.size ≤ b41 := Nat.le_trans (Nat.le_refl _) (Nat.le_of_eq g41.symm)
  have F41_components : Fld Z h41 b41 "com/example/actd/actd/lifecycle/AppProcess" "components" "Ljava/util/Set;" .null := D41 (Or.inl (hw _ (List.mem_of_getElem? (i := 40) rfl))) (ty := (.object "java/util/Set")) (by decide)
  have F41_translucent : Fld Z h41 b41 "com/example/actd/actd/lifecycle/AppProcess" "translucent" "Ljava/util/Set;" .null := D41 (Or.inl (hw _ (List.mem_of_getElem? (i := 42) rfl))) (ty := (.object "java/util/Set")) (by decide)
  have F41_commands : Fld Z h41 b41 "com/example/actd/actd/lifecycle/AppProcess" "commands" "Ljava/util/Set;" .null := D41 (Or.inl (hw _ (List.mem_of_getElem? (i := 44) rfl))) (ty := (.object "java/util/Set")) (by decide)
  have F41_hosted : Fld Z h41 b41 "com/example/actd/actd/lifecycle/AppProcess" "hosted" "Ljava/util/Set;" .null := D41 (Or.inr (hw _ (List.mem_of_getElem? (i := 84) rfl))) (ty := (.object "java/util/Set")) (by decide)
  have F41_name : Fld Z h41 b41 "com/example/actd/actd/lifecycle/AppProcess" "name" "Ljava/lang/String;" .null := D41 (Or.inr (hw _ (List.mem_of_getElem? (i := 86) rfl))) (ty := (.object "java/lang/String")) (by decide)
  have F41_missedDeadlines : Fld Z h41 b41 "com/example/actd/actd/lifecycle/AppProcess" "missedDeadlines" "I" (.int (0 : Int32)) := D41 (Or.inl (hw _ (List.mem_of_getElem? (i := 93) rfl))) (ty := .int) (by decide)
  refine own_go st41 ?_
  show own_Go p e below K T41 (mkF m 3 #[.val (.int x0), .val (.int y0), .unset, .unset] [(.ref b41)])
  refine own_go (fun _ kk' => XS.dup X41.here hx rfl (hb hby at_3) rfl rfl kk') ?_
  show own_Go p e below K T41 (mkF m 4 #[.val (.int x0), .val (.int y0), .unset, .unset] [(.ref b41), (.ref b41)])
  refine own_go (fun _ kk' => XS.iloadN X41.here hx rfl (hb hby at_4) rfl  kk') ?_
  show own_Go p e below K T41 (mkF m 5 #[.val (.int x0), .val (.int y0), .unset, .unset] [(.int y0), (.ref b41), (.ref b41)])
  refine own_go (fun _ kk' => XS.sipush X41.here hx rfl (hb hby at_5) kk') ?_
  show own_Go p e below K T41 (mkF m 8 #[.val (.int x0), .val (.int y0), .unset, .unset] [(.int (255 : Int32)), (.int y0), (.ref b41), (.ref b41)])
  refine own_go (fun _ kk' => XS.iand X41.here hx rfl (hb hby at_8) rfl kk') ?_
  show own_Go p e below K T41 (mkF m 9 #[.val (.int x0), .val (.int y0), .unset, .unset] [(.int (y0 &&& (255 : Int32))), (.ref b41), (.ref b41)])
  refine own_go (fun _ kk' => XS.i2c X41.here hx rfl (hb hby at_9) rfl kk') ?_
  show own_Go p e below K T41 (mkF m 10 #[.val (.int x0), .val (.int y0), .unset, .unset] [(.int ((y0 &&& (255 : Int32)).toUInt32.toUInt16.toUInt32.toInt32)), (.ref b41), (.ref b41)])
  refine own_callS X41 hx hZ (y := (⟨"java/lang/String", "valueOf", "(C)Ljava/lang/String;"⟩ : MethodName)) hown (hw _ (List.mem_of_getElem? (i := 3) rfl)) (hw _ (List.mem_of_getElem? (i := 4) rfl)) (hw _ (List.mem_of_getElem? (i := 5) rfl)) (hw _ (List.mem_of_getElem? (i := 6) rfl)) (by decide) e41 (rm := own_rmVO) (argsL := [(.int ((y0 &&& (255 : Int32)).toUInt32.toUInt16.toUInt32.toInt32))]) (rest := [(.ref b41), (.ref b41)]) (own_mVO l Z a0 hw ((y0 &&& (255 : Int32)).toUInt32.toUInt16.toUInt32.toInt32) cs h41 n0 (Nat.le_trans Z0 E41.1) (own_ch y0) hcs (O0.ext E41) SS) (W := 2) (by decide) (by decide) (by decide) (by decide) (g := (mkF m 10 #[.val (.int x0), .val (.int y0), .unset, .unset] [(.int ((y0 &&& (255 : Int32)).toUInt32.toUInt16.toUInt32.toInt32)), (.ref b41), (.ref b41)])) rfl (by rw [hml]; rfl) (lenOf own_pd6 rfl) rfl (by show 2 * 0 + _ ≤ _; exact Nat.le_of_eq rfl) (hb hby at_10) ?_
  intro v42 T42 L42 X42 hQ42
  obtain ⟨bq42, rfl, Nq42, Kq42⟩ := hQ42
  have N42 := Fr.app N0 Nq42
  show own_Go p e below K T42 (mkF m 13 #[.val (.int x0), .val (.int y0), .unset, .unset] [(.ref bq42), (.ref b41), (.ref b41)])
  refine own_callI X42 hx hZ (y := (⟨"com/example/actd/actd/lifecycle/AppProcess", "<init>", "(Ljava/lang/String;)V"⟩ : MethodName)) rfl hown (hw _ (List.mem_of_getElem? (i := 29) rfl)) (hw _ (List.mem_of_getElem? (i := 30) rfl)) (hw _ (List.mem_of_getElem? (i := 2) rfl)) (hw _ (List.mem_of_getElem? (i := 31) rfl)) (by decide) rfl (rm := own_rmAP) (a := b41) (argsL := [(.ref bq42)]) (rest := [(.ref b41)]) (own_mAP l Z a0 hw b41 bq42 es (0 : Int32) .null .null .null .null .null T42.heap n0 (Nat.le_trans (Nat.le_trans Z0 E41.1) Kq42.1) (A41.keep Kq42) (F41_components.keep Kq42 nin0) (F41_translucent.keep Kq42 nin0) (F41_commands.keep Kq42 nin0) (F41_hosted.keep Kq42 nin0) (F41_name.keep Kq42 nin0) gp41 (F41_missedDeadlines.keep Kq42 nin0) ((O0.ext E41).keep Kq42 all0) SE) (W := 1) (by decide) (by decide) (by decide) (by decide) (g := (mkF m 13 #[.val (.int x0), .val (.int y0), .unset, .unset] [(.ref bq42), (.ref b41), (.ref b41)])) rfl (by rw [hml]; rfl) (lenOf own_pd7 rfl) rfl (by show 2 * 0 + _ ≤ _; exact Nat.le_of_eq rfl) (hb hby at_13) ?_
  intro v43 T43 L43 X43 hQ43
  obtain ⟨rfl, Nq43, Kq43, Eq43, Fq43⟩ := hQ43
  have N43 := Fr.app N42 Nq43
  show own_Go p e below K T43 (mkF m 16 #[.val (.int x0), .val (.int y0), .unset, .unset] [(.ref b41)])
  refine own_go (fun _ kk' => XS.astoreN X43.here hx rfl (hb hby at_16) rfl rfl (l' := #[.val (.int x0), .val (.int y0), .val (.ref b41), .unset]) rfl kk') ?_
  show own_Go p e below K T43 (mkF m 17 #[.val (.int x0), .val (.int y0), .val (.ref b41), .unset] [])
  refine own_go (fun _ kk' => XS.aloadN X43.here hx rfl (hb hby at_17) rfl rfl  kk') ?_
  show own_Go p e below K T43 (mkF m 18 #[.val (.int x0), .val (.int y0), .val (.ref b41), .unset] [(.ref b41)])
  refine own_callV X43 hx hZ (C := "com/example/actd/actd/lifecycle/AppProcess") (y := (⟨"com/example/actd/actd/lifecycle/AppProcess", "getMissedDeadlines", "()I"⟩ : MethodName)) (z := (⟨"com/example/actd/actd/lifecycle/AppProcess", "getMissedDeadlines", "()I"⟩ : MethodName)) hown (hw _ (List.mem_of_getElem? (i := 87) rfl)) (hw _ (List.mem_of_getElem? (i := 88) rfl)) (notFace_of_selects (args := #[]) (mvT hZ (hw _ (List.mem_of_getElem? (i := 90) rfl)))) (hw _ (List.mem_of_getElem? (i := 90) rfl)) (hw _ (List.mem_of_getElem? (i := 89) rfl)) (hw _ (List.mem_of_getElem? (i := 2) rfl)) (hw _ (List.mem_of_getElem? (i := 91) rfl)) (by decide) rfl (rm := own_rmG) (a := b41) Eq43 (argsL := []) (rest := []) (own_mG l Z a0 hw b41 (0 : Int32) T43.heap n0 (Nat.le_trans (Nat.le_trans (Nat.le_trans Z0 E41.1) Kq42.1) Kq43.1) Fq43) (W := 0) (by decide) (by decide) (by decide) (by decide) (g := (mkF m 18 #[.val (.int x0), .val (.int y0), .val (.ref b41), .unset] [(.ref b41)])) rfl (by rw [hml]; rfl) (lenOf own_pd5 rfl) rfl (by show 2 * 0 + _ ≤ _; exact Nat.le_of_eq rfl) (hb hby at_18) ?_
  intro v44 T44 L44 X44 hQ44
  obtain ⟨rfl, Nq44, e44⟩ := hQ44
  have N44 := Fr.app N43 Nq44
  show own_Go p e below K T44 (mkF m 21 #[.val (.int x0), .val (.int y0), .val (.ref b41), .unset] [(.int (0 : Int32))])
  refine own_go (fun _ kk' => XS.ifYes X44.here hx rfl (pc0 := 21) (pc' := 26) rfl (hb hby at_21) rfl ((if0 _ _).trans (teq ((by decide) : (0 : Int32) = (0 : Int32))).1) (by decide) (by decide) kk') ?_
  show own_Go p e below K T44 (mkF m 26 #[.val (.int x0), .val (.int y0), .val (.ref b41), .unset] [])
  refine own_go (fun _ kk' => XS.iconst X44.here hx rfl (hb hby at_26) kk') ?_
  show own_Go p e below K T44 (mkF m 27 #[.val (.int x0), .val (.int y0), .val (.ref b41), .unset] [(.int (0 : Int32))])
  refine own_go (fun _ kk' => XS.istoreN X44.here hx rfl (hb hby at_27) rfl (l' := #[.val (.int x0), .val (.int y0), .val (.ref b41), .val (.int (0 : Int32))]) rfl kk') ?_
  show own_Go p e below K T44 (mkF m 28 #[.val (.int x0), .val (.int y0), .val (.ref b41), .val (.int (0 : Int32))] [])
  refine own_go (fun _ kk' => XS.aloadN X44.here hx rfl (hb hby at_28) rfl rfl  kk') ?_
  show own_Go p e below K T44 (mkF m 29 #[.val (.int x0), .val (.int y0), .val (.ref b41), .val (.int (0 : Int32))] [(.ref b41)])
  have j40 : ∀ f : Int32, own_Go p e below K T44 (mkF m 40 #[.val (.int x0), .val (.int y0), .val (.ref b41), .val (.int (0 : Int32))] [(.int f), (.ref b41)]) := by
    intro f40
    refine own_go (fun _ kk' => XS.iloadN X44.here hx rfl (hb hby at_40) rfl  kk') ?_
    show own_Go p e below K T44 (mkF m 41 #[.val (.int x0), .val (.int y0), .val (.ref b41), .val (.int (0 : Int32))] [(.int (0 : Int32)), (.int f40), (.ref b41)])
    refine own_callS X44 hx hZ (y := (⟨"com/example/actd/actd/lifecycle/AppProcessMissDeadlinePinLaw", "step", "(Lcom/example/actd/actd/lifecycle/AppProcess;ZI)I"⟩ : MethodName)) hown (hw _ (List.mem_of_getElem? (i := 94) rfl)) (hw _ (List.mem_of_getElem? (i := 95) rfl)) (hw _ (List.mem_of_getElem? (i := 96) rfl)) (hw _ (List.mem_of_getElem? (i := 97) rfl)) (by decide) e44 (rm := own_rmS) (argsL := [(.ref b41), (.int f40), (.int (0 : Int32))]) (rest := []) (own_mS l Z a0 hw b41 f40 (0 : Int32) T43.heap n0 (Nat.le_trans (Nat.le_trans (Nat.le_trans Z0 E41.1) Kq42.1) Kq43.1) Eq43 gp41 Fq43) (W := 0) (by decide) (by decide) (by decide) (by decide) (g := (mkF m 41 #[.val (.int x0), .val (.int y0), .val (.ref b41), .val (.int (0 : Int32))] [(.int (0 : Int32)), (.int f40), (.ref b41)])) rfl (by rw [hml]; rfl) (lenOf own_pd8 rfl) rfl (by show 2 * 0 + _ ≤ _; exact Nat.le_of_eq rfl) (hb hby at_41) ?_
    intro v45 T45 L45 X45 hQ45
    obtain ⟨rfl, Nq45, Kq45, Eq45, Fq45⟩ := hQ45
    have N45 := Fr.app N44 Nq45
    show own_Go p e below K T45 (mkF m 44 #[.val (.int x0), .val (.int y0), .val (.ref b41), .val (.int (0 : Int32))] [(.int (own_st f40 (0 : Int32)))])
    have B45 := own_stb (ms := f40) (k := (0 : Int32)) (n := 0) (by decide) (by decide) (by decide)
    have G45 := own_neg B45.1
    refine own_go (fun _ kk' => XS.istoreN X45.here hx rfl (hb hby at_44) rfl (l' := #[.val (.int x0), .val (.int y0), .val (.ref b41), .val (.int (own_st f40 (0 : Int32)))]) rfl kk') ?_
    show own_Go p e below K T45 (mkF m 45 #[.val (.int x0), .val (.int y0), .val (.ref b41), .val (.int (own_st f40 (0 : Int32)))] [])
    refine own_go (fun _ kk' => XS.iloadN X45.here hx rfl (hb hby at_45) rfl  kk') ?_
    show own_Go p e below K T45 (mkF m 46 #[.val (.int x0), .val (.int y0), .val (.ref b41), .val (.int (own_st f40 (0 : Int32)))] [(.int (own_st f40 (0 : Int32)))])
    refine own_go (fun _ kk' => XS.ifYes X45.here hx rfl (pc0 := 46) (pc' := 51) rfl (hb hby at_46) rfl ((if0 _ _).trans (flt (G45 : ¬ ((own_st f40 (0 : Int32)) < (0 : Int32)))).2.1) (by decide) (by decide) kk') ?_
    show own_Go p e below K T45 (mkF m 51 #[.val (.int x0), .val (.int y0), .val (.ref b41), .val (.int (own_st f40 (0 : Int32)))] [])
    refine own_go (fun _ kk' => XS.aloadN X45.here hx rfl (hb hby at_51) rfl rfl  kk') ?_
    show own_Go p e below K T45 (mkF m 52 #[.val (.int x0), .val (.int y0), .val (.ref b41), .val (.int (own_st f40 (0 : Int32)))] [(.ref b41)])
    have j63 : ∀ f : Int32, own_Go p e below K T45 (mkF m 63 #[.val (.int x0), .val (.int y0), .val (.ref b41), .val (.int (own_st f40 (0 : Int32)))] [(.int f), (.ref b41)]) := by
      intro f63
      refine own_go (fun _ kk' => XS.iloadN X45.here hx rfl (hb hby at_63) rfl  kk') ?_
      show own_Go p e below K T45 (mkF m 64 #[.val (.int x0), .val (.int y0), .val (.ref b41), .val (.int (own_st f40 (0 : Int32)))] [(.int (own_st f40 (0 : Int32))), (.int f63), (.ref b41)])
      refine own_callS X45 hx hZ (y := (⟨"com/example/actd/actd/lifecycle/AppProcessMissDeadlinePinLaw", "step", "(Lcom/example/actd/actd/lifecycle/AppProcess;ZI)I"⟩ : MethodName)) hown (hw _ (List.mem_of_getElem? (i := 94) rfl)) (hw _ (List.mem_of_getElem? (i := 95) rfl)) (hw _ (List.mem_of_getElem? (i := 96) rfl)) (hw _ (List.mem_of_getElem? (i := 97) rfl)) (by decide) rfl (rm := own_rmS) (argsL := [(.ref b41), (.int f63), (.int (own_st f40 (0 : Int32)))]) (rest := []) (own_mS l Z a0 hw b41 f63 (own_st f40 (0 : Int32)) T45.heap n0 (Nat.le_trans (Nat.le_trans (Nat.le_trans (Nat.le_trans Z0 E41.1) Kq42.1) Kq43.1) Kq45.1) Eq45 gp41 Fq45) (W := 0) (by decide) (by decide) (by decide) (by decide) (g := (mkF m 64 #[.val (.int x0), .val (.int y0), .val (.ref b41), .val (.int (own_st f40 (0 : Int32)))] [(.int (own_st f40 (0 : Int32))), (.int f63), (.ref b41)])) rfl (by rw [hml]; rfl) (lenOf own_pd8 rfl) rfl (by show 2 * 0 + _ ≤ _; exact Nat.le_of_eq rfl) (hb hby at_64) ?_
      intro v46 T46 L46 X46 hQ46
      obtain ⟨rfl, Nq46, Kq46, Eq46, Fq46⟩ := hQ46
      have N46 := Fr.app N45 Nq46
      show own_Go p e below K T46 (mkF m 67 #[.val (.int x0), .val (.int y0), .val (.ref b41), .val (.int (own_st f40 (0 : Int32)))] [(.int (own_st f63 (own_st f40 (0 : Int32))))])
      have B46 := own_stb (ms := f63) (k := (own_st f40 (0 : Int32))) (n := 1) B45.1 B45.2 (by decide)
      have G46 := own_neg B46.1
      refine own_go (fun _ kk' => XS.istoreN X46.here hx rfl (hb hby at_67) rfl (l' := #[.val (.int x0), .val (.int y0), .val (.ref b41), .val (.int (own_st f63 (own_st f40 (0 : Int32))))]) rfl kk') ?_
      show own_Go p e below K T46 (mkF m 68 #[.val (.int x0), .val (.int y0), .val (.ref b41), .val (.int (own_st f63 (own_st f40 (0 : Int32))))] [])
      refine own_go (fun _ kk' => XS.iloadN X46.here hx rfl (hb hby at_68) rfl  kk') ?_
      show own_Go p e below K T46 (mkF m 69 #[.val (.int x0), .val (.int y0), .val (.ref b41), .val (.int (own_st f63 (own_st f40 (0 : Int32))))] [(.int (own_st f63 (own_st f40 (0 : Int32))))])
      refine own_go (fun _ kk' => XS.ifYes X46.here hx rfl (pc0 := 69) (pc' := 74) rfl (hb hby at_69) rfl ((if0 _ _).trans (flt (G46 : ¬ ((own_st f63 (own_st f40 (0 : Int32))) < (0 : Int32)))).2.1) (by decide) (by decide) kk') ?_
      show own_Go p e below K T46 (mkF m 74 #[.val (.int x0), .val (.int y0), .val (.ref b41), .val (.int (own_st f63 (own_st f40 (0 : Int32))))] [])
      refine own_go (fun _ kk' => XS.aloadN X46.here hx rfl (hb hby at_74) rfl rfl  kk') ?_
      show own_Go p e below K T46 (mkF m 75 #[.val (.int x0), .val (.int y0), .val (.ref b41), .val (.int (own_st f63 (own_st f40 (0 : Int32))))] [(.ref b41)])
      have j86 : ∀ f : Int32, own_Go p e below K T46 (mkF m 86 #[.val (.int x0), .val (.int y0), .val (.ref b41), .val (.int (own_st f63 (own_st f40 (0 : Int32))))] [(.int f), (.ref b41)]) := by
        intro f86
        refine own_go (fun _ kk' => XS.iloadN X46.here hx rfl (hb hby at_86) rfl  kk') ?_
        show own_Go p e below K T46 (mkF m 87 #[.val (.int x0), .val (.int y0), .val (.ref b41), .val (.int (own_st f63 (own_st f40 (0 : Int32))))] [(.int (own_st f63 (own_st f40 (0 : Int32)))), (.int f86), (.ref b41)])
        refine own_callS X46 hx hZ (y := (⟨"com/example/actd/actd/lifecycle/AppProcessMissDeadlinePinLaw", "step", "(Lcom/example/actd/actd/lifecycle/AppProcess;ZI)I"⟩ : MethodName)) hown (hw _ (List.mem_of_getElem? (i := 94) rfl)) (hw _ (List.mem_of_getElem? (i := 95) rfl)) (hw _ (List.mem_of_getElem? (i := 96) rfl)) (hw _ (List.mem_of_getElem? (i := 97) rfl)) (by decide) rfl (rm := own_rmS) (argsL := [(.ref b41), (.int f86), (.int (own_st f63 (own_st f40 (0 : Int32))))]) (rest := []) (own_mS l Z a0 hw b41 f86 (own_st f63 (own_st f40 (0 : Int32))) T46.heap n0 (Nat.le_trans (Nat.le_trans (Nat.le_trans (Nat.le_trans (Nat.le_trans Z0 E41.1) Kq42.1) Kq43.1) Kq45.1) Kq46.1) Eq46 gp41 Fq46) (W := 0) (by decide) (by decide) (by decide) (by decide) (g := (mkF m 87 #[.val (.int x0), .val (.int y0), .val (.ref b41), .val (.int (own_st f63 (own_st f40 (0 : Int32))))] [(.int (own_st f63 (own_st f40 (0 : Int32)))), (.int f86), (.ref b41)])) rfl (by rw [hml]; rfl) (lenOf own_pd8 rfl) rfl (by show 2 * 0 + _ ≤ _; exact Nat.le_of_eq rfl) (hb hby at_87) ?_
        intro v47 T47 L47 X47 hQ47
        obtain ⟨rfl, Nq47, Kq47, Eq47, Fq47⟩ := hQ47
        have N47 := Fr.app N46 Nq47
        show own_Go p e below K T47 (mkF m 90 #[.val (.int x0), .val (.int y0), .val (.ref b41), .val (.int (own_st f63 (own_st f40 (0 : Int32))))] [(.int (own_st f86 (own_st f63 (own_st f40 (0 : Int32)))))])
        have B47 := own_stb (ms := f86) (k := (own_st f63 (own_st f40 (0 : Int32)))) (n := 2) B46.1 B46.2 (by decide)
        have G47 := own_neg B47.1
        refine own_go (fun _ kk' => XS.istoreN X47.here hx rfl (hb hby at_90) rfl (l' := #[.val (.int x0), .val (.int y0), .val (.ref b41), .val (.int (own_st f86 (own_st f63 (own_st f40 (0 : Int32)))))]) rfl kk') ?_
        show own_Go p e below K T47 (mkF m 91 #[.val (.int x0), .val (.int y0), .val (.ref b41), .val (.int (own_st f86 (own_st f63 (own_st f40 (0 : Int32)))))] [])
        refine own_go (fun _ kk' => XS.iloadN X47.here hx rfl (hb hby at_91) rfl  kk') ?_
        show own_Go p e below K T47 (mkF m 92 #[.val (.int x0), .val (.int y0), .val (.ref b41), .val (.int (own_st f86 (own_st f63 (own_st f40 (0 : Int32)))))] [(.int (own_st f86 (own_st f63 (own_st f40 (0 : Int32)))))])
        refine own_go (fun _ kk' => XS.ifYes X47.here hx rfl (pc0 := 92) (pc' := 97) rfl (hb hby at_92) rfl ((if0 _ _).trans (flt (G47 : ¬ ((own_st f86 (own_st f63 (own_st f40 (0 : Int32)))) < (0 : Int32)))).2.1) (by decide) (by decide) kk') ?_
        show own_Go p e below K T47 (mkF m 97 #[.val (.int x0), .val (.int y0), .val (.ref b41), .val (.int (own_st f86 (own_st f63 (own_st f40 (0 : Int32)))))] [])
        refine own_go (fun _ kk' => XS.aloadN X47.here hx rfl (hb hby at_97) rfl rfl  kk') ?_
        show own_Go p e below K T47 (mkF m 98 #[.val (.int x0), .val (.int y0), .val (.ref b41), .val (.int (own_st f86 (own_st f63 (own_st f40 (0 : Int32)))))] [(.ref b41)])
        have j110 : ∀ f : Int32, own_Go p e below K T47 (mkF m 110 #[.val (.int x0), .val (.int y0), .val (.ref b41), .val (.int (own_st f86 (own_st f63 (own_st f40 (0 : Int32)))))] [(.int f), (.ref b41)]) := by
          intro f110
          refine own_go (fun _ kk' => XS.iloadN X47.here hx rfl (hb hby at_110) rfl  kk') ?_
          show own_Go p e below K T47 (mkF m 111 #[.val (.int x0), .val (.int y0), .val (.ref b41), .val (.int (own_st f86 (own_st f63 (own_st f40 (0 : Int32)))))] [(.int (own_st f86 (own_st f63 (own_st f40 (0 : Int32))))), (.int f110), (.ref b41)])
          refine own_callS X47 hx hZ (y := (⟨"com/example/actd/actd/lifecycle/AppProcessMissDeadlinePinLaw", "step", "(Lcom/example/actd/actd/lifecycle/AppProcess;ZI)I"⟩ : MethodName)) hown (hw _ (List.mem_of_getElem? (i := 94) rfl)) (hw _ (List.mem_of_getElem? (i := 95) rfl)) (hw _ (List.mem_of_getElem? (i := 96) rfl)) (hw _ (List.mem_of_getElem? (i := 97) rfl)) (by decide) rfl (rm := own_rmS) (argsL := [(.ref b41), (.int f110), (.int (own_st f86 (own_st f63 (own_st f40 (0 : Int32)))))]) (rest := []) (own_mS l Z a0 hw b41 f110 (own_st f86 (own_st f63 (own_st f40 (0 : Int32)))) T47.heap n0 (Nat.le_trans (Nat.le_trans (Nat.le_trans (Nat.le_trans (Nat.le_trans (Nat.le_trans Z0 E41.1) Kq42.1) Kq43.1) Kq45.1) Kq46.1) Kq47.1) Eq47 gp41 Fq47) (W := 0) (by decide) (by decide) (by decide) (by decide) (g := (mkF m 111 #[.val (.int x0), .val (.int y0), .val (.ref b41), .val (.int (own_st f86 (own_st f63 (own_st f40 (0 : Int32)))))] [(.int (own_st f86 (own_st f63 (own_st f40 (0 : Int32))))), (.int f110), (.ref b41)])) rfl (by rw [hml]; rfl) (lenOf own_pd8 rfl) rfl (by show 2 * 0 + _ ≤ _; exact Nat.le_of_eq rfl) (hb hby at_111) ?_
          intro v48 T48 L48 X48 hQ48
          obtain ⟨rfl, Nq48, Kq48, Eq48, Fq48⟩ := hQ48
          have N48 := Fr.app N47 Nq48
          show own_Go p e below K T48 (mkF m 114 #[.val (.int x0), .val (.int y0), .val (.ref b41), .val (.int (own_st f86 (own_st f63 (own_st f40 (0 : Int32)))))] [(.int (own_st f110 (own_st f86 (own_st f63 (own_st f40 (0 : Int32))))))])
          have B48 := own_stb (ms := f110) (k := (own_st f86 (own_st f63 (own_st f40 (0 : Int32))))) (n := 3) B47.1 B47.2 (by decide)
          have G48 := own_neg B48.1
          refine own_go (fun _ kk' => XS.istoreN X48.here hx rfl (hb hby at_114) rfl (l' := #[.val (.int x0), .val (.int y0), .val (.ref b41), .val (.int (own_st f110 (own_st f86 (own_st f63 (own_st f40 (0 : Int32))))))]) rfl kk') ?_
          show own_Go p e below K T48 (mkF m 115 #[.val (.int x0), .val (.int y0), .val (.ref b41), .val (.int (own_st f110 (own_st f86 (own_st f63 (own_st f40 (0 : Int32))))))] [])
          refine own_go (fun _ kk' => XS.iloadN X48.here hx rfl (hb hby at_115) rfl  kk') ?_
          show own_Go p e below K T48 (mkF m 116 #[.val (.int x0), .val (.int y0), .val (.ref b41), .val (.int (own_st f110 (own_st f86 (own_st f63 (own_st f40 (0 : Int32))))))] [(.int (own_st f110 (own_st f86 (own_st f63 (own_st f40 (0 : Int32))))))])
          refine own_go (fun _ kk' => XS.ifYes X48.here hx rfl (pc0 := 116) (pc' := 121) rfl (hb hby at_116) rfl ((if0 _ _).trans (flt (G48 : ¬ ((own_st f110 (own_st f86 (own_st f63 (own_st f40 (0 : Int32))))) < (0 : Int32)))).2.1) (by decide) (by decide) kk') ?_
          show own_Go p e below K T48 (mkF m 121 #[.val (.int x0), .val (.int y0), .val (.ref b41), .val (.int (own_st f110 (own_st f86 (own_st f63 (own_st f40 (0 : Int32))))))] [])
          refine own_go (fun _ kk' => XS.iconst X48.here hx rfl (hb hby at_121) kk') ?_
          show own_Go p e below K T48 (mkF m 122 #[.val (.int x0), .val (.int y0), .val (.ref b41), .val (.int (own_st f110 (own_st f86 (own_st f63 (own_st f40 (0 : Int32))))))] [(.int (1 : Int32))])
          exact own_retZ X48 hx hlk hK hret (by decide) (hb hby at_122) (by decide) (by decide) ⟨rfl, N48⟩
        refine own_go (fun _ kk' => XS.iloadN X47.here hx rfl (hb hby at_98) rfl  kk') ?_
        show own_Go p e below K T47 (mkF m 99 #[.val (.int x0), .val (.int y0), .val (.ref b41), .val (.int (own_st f86 (own_st f63 (own_st f40 (0 : Int32)))))] [(.int x0), (.ref b41)])
        refine own_go (fun _ kk' => XS.bipush X47.here hx rfl (hb hby at_99) kk') ?_
        show own_Go p e below K T47 (mkF m 101 #[.val (.int x0), .val (.int y0), .val (.ref b41), .val (.int (own_st f86 (own_st f63 (own_st f40 (0 : Int32)))))] [(.int (8 : Int32)), (.int x0), (.ref b41)])
        refine own_go (fun _ kk' => XS.iand X47.here hx rfl (hb hby at_101) rfl kk') ?_
        show own_Go p e below K T47 (mkF m 102 #[.val (.int x0), .val (.int y0), .val (.ref b41), .val (.int (own_st f86 (own_st f63 (own_st f40 (0 : Int32)))))] [(.int (x0 &&& (8 : Int32))), (.ref b41)])
        by_cases hc102_49 : (x0 &&& (8 : Int32)) = (0 : Int32)
        · refine own_go (fun _ kk' => XS.ifYes X47.here hx rfl (pc0 := 102) (pc' := 109) rfl (hb hby at_102) rfl ((if0 _ _).trans (teq (hc102_49 : (x0 &&& (8 : Int32)) = (0 : Int32))).1) (by decide) (by decide) kk') ?_
          show own_Go p e below K T47 (mkF m 109 #[.val (.int x0), .val (.int y0), .val (.ref b41), .val (.int (own_st f86 (own_st f63 (own_st f40 (0 : Int32)))))] [(.ref b41)])
          refine own_go (fun _ kk' => XS.iconst X47.here hx rfl (hb hby at_109) kk') ?_
          show own_Go p e below K T47 (mkF m 110 #[.val (.int x0), .val (.int y0), .val (.ref b41), .val (.int (own_st f86 (own_st f63 (own_st f40 (0 : Int32)))))] [(.int (0 : Int32)), (.ref b41)])
          exact j110 _
        · refine own_go (fun _ kk' => XS.ifNo X47.here hx rfl (hb hby at_102) rfl ((if0 _ _).trans (feq (hc102_49 : ¬ ((x0 &&& (8 : Int32)) = (0 : Int32)))).1) kk') ?_
          show own_Go p e below K T47 (mkF m 105 #[.val (.int x0), .val (.int y0), .val (.ref b41), .val (.int (own_st f86 (own_st f63 (own_st f40 (0 : Int32)))))] [(.ref b41)])
          refine own_go (fun _ kk' => XS.iconst X47.here hx rfl (hb hby at_105) kk') ?_
          show own_Go p e below K T47 (mkF m 106 #[.val (.int x0), .val (.int y0), .val (.ref b41), .val (.int (own_st f86 (own_st f63 (own_st f40 (0 : Int32)))))] [(.int (1 : Int32)), (.ref b41)])
          refine own_go (fun _ kk' => XS.goto X47.here hx rfl (pc0 := 106) (pc' := 110) rfl (hb hby at_106) (by decide) (by decide) kk') ?_
          show own_Go p e below K T47 (mkF m 110 #[.val (.int x0), .val (.int y0), .val (.ref b41), .val (.int (own_st f86 (own_st f63 (own_st f40 (0 : Int32)))))] [(.int (1 : Int32)), (.ref b41)])
          exact j110 _
      refine own_go (fun _ kk' => XS.iloadN X46.here hx rfl (hb hby at_75) rfl  kk') ?_
      show own_Go p e below K T46 (mkF m 76 #[.val (.int x0), .val (.int y0), .val (.ref b41), .val (.int (own_st f63 (own_st f40 (0 : Int32))))] [(.int x0), (.ref b41)])
      refine own_go (fun _ kk' => XS.iconst X46.here hx rfl (hb hby at_76) kk') ?_
      show own_Go p e below K T46 (mkF m 77 #[.val (.int x0), .val (.int y0), .val (.ref b41), .val (.int (own_st f63 (own_st f40 (0 : Int32))))] [(.int (4 : Int32)), (.int x0), (.ref b41)])
      refine own_go (fun _ kk' => XS.iand X46.here hx rfl (hb hby at_77) rfl kk') ?_
      show own_Go p e below K T46 (mkF m 78 #[.val (.int x0), .val (.int y0), .val (.ref b41), .val (.int (own_st f63 (own_st f40 (0 : Int32))))] [(.int (x0 &&& (4 : Int32))), (.ref b41)])
      by_cases hc78_50 : (x0 &&& (4 : Int32)) = (0 : Int32)
      · refine own_go (fun _ kk' => XS.ifYes X46.here hx rfl (pc0 := 78) (pc' := 85) rfl (hb hby at_78) rfl ((if0 _ _).trans (teq (hc78_50 : (x0 &&& (4 : Int32)) = (0 : Int32))).1) (by decide) (by decide) kk') ?_
        show own_Go p e below K T46 (mkF m 85 #[.val (.int x0), .val (.int y0), .val (.ref b41), .val (.int (own_st f63 (own_st f40 (0 : Int32))))] [(.ref b41)])
        refine own_go (fun _ kk' => XS.iconst X46.here hx rfl (hb hby at_85) kk') ?_
        show own_Go p e below K T46 (mkF m 86 #[.val (.int x0), .val (.int y0), .val (.ref b41), .val (.int (own_st f63 (own_st f40 (0 : Int32))))] [(.int (0 : Int32)), (.ref b41)])
        exact j86 _
      · refine own_go (fun _ kk' => XS.ifNo X46.here hx rfl (hb hby at_78) rfl ((if0 _ _).trans (feq (hc78_50 : ¬ ((x0 &&& (4 : Int32)) = (0 : Int32)))).1) kk') ?_
        show own_Go p e below K T46 (mkF m 81 #[.val (.int x0), .val (.int y0), .val (.ref b41), .val (.int (own_st f63 (own_st f40 (0 : Int32))))] [(.ref b41)])
        refine own_go (fun _ kk' => XS.iconst X46.here hx rfl (hb hby at_81) kk') ?_
        show own_Go p e below K T46 (mkF m 82 #[.val (.int x0), .val (.int y0), .val (.ref b41), .val (.int (own_st f63 (own_st f40 (0 : Int32))))] [(.int (1 : Int32)), (.ref b41)])
        refine own_go (fun _ kk' => XS.goto X46.here hx rfl (pc0 := 82) (pc' := 86) rfl (hb hby at_82) (by decide) (by decide) kk') ?_
        show own_Go p e below K T46 (mkF m 86 #[.val (.int x0), .val (.int y0), .val (.ref b41), .val (.int (own_st f63 (own_st f40 (0 : Int32))))] [(.int (1 : Int32)), (.ref b41)])
        exact j86 _
    refine own_go (fun _ kk' => XS.iloadN X45.here hx rfl (hb hby at_52) rfl  kk') ?_
    show own_Go p e below K T45 (mkF m 53 #[.val (.int x0), .val (.int y0), .val (.ref b41), .val (.int (own_st f40 (0 : Int32)))] [(.int x0), (.ref b41)])
    refine own_go (fun _ kk' => XS.iconst X45.here hx rfl (hb hby at_53) kk') ?_
    show own_Go p e below K T45 (mkF m 54 #[.val (.int x0), .val (.int y0), .val (.ref b41), .val (.int (own_st f40 (0 : Int32)))] [(.int (2 : Int32)), (.int x0), (.ref b41)])
    refine own_go (fun _ kk' => XS.iand X45.here hx rfl (hb hby at_54) rfl kk') ?_
    show own_Go p e below K T45 (mkF m 55 #[.val (.int x0), .val (.int y0), .val (.ref b41), .val (.int (own_st f40 (0 : Int32)))] [(.int (x0 &&& (2 : Int32))), (.ref b41)])
    by_cases hc55_51 : (x0 &&& (2 : Int32)) = (0 : Int32)
    · refine own_go (fun _ kk' => XS.ifYes X45.here hx rfl (pc0 := 55) (pc' := 62) rfl (hb hby at_55) rfl ((if0 _ _).trans (teq (hc55_51 : (x0 &&& (2 : Int32)) = (0 : Int32))).1) (by decide) (by decide) kk') ?_
      show own_Go p e below K T45 (mkF m 62 #[.val (.int x0), .val (.int y0), .val (.ref b41), .val (.int (own_st f40 (0 : Int32)))] [(.ref b41)])
      refine own_go (fun _ kk' => XS.iconst X45.here hx rfl (hb hby at_62) kk') ?_
      show own_Go p e below K T45 (mkF m 63 #[.val (.int x0), .val (.int y0), .val (.ref b41), .val (.int (own_st f40 (0 : Int32)))] [(.int (0 : Int32)), (.ref b41)])
      exact j63 _
    · refine own_go (fun _ kk' => XS.ifNo X45.here hx rfl (hb hby at_55) rfl ((if0 _ _).trans (feq (hc55_51 : ¬ ((x0 &&& (2 : Int32)) = (0 : Int32)))).1) kk') ?_
      show own_Go p e below K T45 (mkF m 58 #[.val (.int x0), .val (.int y0), .val (.ref b41), .val (.int (own_st f40 (0 : Int32)))] [(.ref b41)])
      refine own_go (fun _ kk' => XS.iconst X45.here hx rfl (hb hby at_58) kk') ?_
      show own_Go p e below K T45 (mkF m 59 #[.val (.int x0), .val (.int y0), .val (.ref b41), .val (.int (own_st f40 (0 : Int32)))] [(.int (1 : Int32)), (.ref b41)])
      refine own_go (fun _ kk' => XS.goto X45.here hx rfl (pc0 := 59) (pc' := 63) rfl (hb hby at_59) (by decide) (by decide) kk') ?_
      show own_Go p e below K T45 (mkF m 63 #[.val (.int x0), .val (.int y0), .val (.ref b41), .val (.int (own_st f40 (0 : Int32)))] [(.int (1 : Int32)), (.ref b41)])
      exact j63 _
  refine own_go (fun _ kk' => XS.iloadN X44.here hx rfl (hb hby at_29) rfl  kk') ?_
  show own_Go p e below K T44 (mkF m 30 #[.val (.int x0), .val (.int y0), .val (.ref b41), .val (.int (0 : Int32))] [(.int x0), (.ref b41)])
  refine own_go (fun _ kk' => XS.iconst X44.here hx rfl (hb hby at_30) kk') ?_
  show own_Go p e below K T44 (mkF m 31 #[.val (.int x0), .val (.int y0), .val (.ref b41), .val (.int (0 : Int32))] [(.int (1 : Int32)), (.int x0), (.ref b41)])
  refine own_go (fun _ kk' => XS.iand X44.here hx rfl (hb hby at_31) rfl kk') ?_
  show own_Go p e below K T44 (mkF m 32 #[.val (.int x0), .val (.int y0), .val (.ref b41), .val (.int (0 : Int32))] [(.int (x0 &&& (1 : Int32))), (.ref b41)])
  by_cases hc32_52 : (x0 &&& (1 : Int32)) = (0 : Int32)
  · refine own_go (fun _ kk' => XS.ifYes X44.here hx rfl (pc0 := 32) (pc' := 39) rfl (hb hby at_32) rfl ((if0 _ _).trans (teq (hc32_52 : (x0 &&& (1 : Int32)) = (0 : Int32))).1) (by decide) (by decide) kk') ?_
    show own_Go p e below K T44 (mkF m 39 #[.val (.int x0), .val (.int y0), .val (.ref b41), .val (.int (0 : Int32))] [(.ref b41)])
    refine own_go (fun _ kk' => XS.iconst X44.here hx rfl (hb hby at_39) kk') ?_
    show own_Go p e below K T44 (mkF m 40 #[.val (.int x0), .val (.int y0), .val (.ref b41), .val (.int (0 : Int32))] [(.int (0 : Int32)), (.ref b41)])
    exact j40 _
  · refine own_go (fun _ kk' => XS.ifNo X44.here hx rfl (hb hby at_32) rfl ((if0 _ _).trans (feq (hc32_52 : ¬ ((x0 &&& (1 : Int32)) = (0 : Int32)))).1) kk') ?_
    show own_Go p e below K T44 (mkF m 35 #[.val (.int x0), .val (.int y0), .val (.ref b41), .val (.int (0 : Int32))] [(.ref b41)])
    refine own_go (fun _ kk' => XS.iconst X44.here hx rfl (hb hby at_35) kk') ?_
    show own_Go p e below K T44 (mkF m 36 #[.val (.int x0), .val (.int y0), .val (.ref b41), .val (.int (0 : Int32))] [(.int (1 : Int32)), (.ref b41)])
    refine own_go (fun _ kk' => XS.goto X44.here hx rfl (pc0 := 36) (pc' := 40) rfl (hb hby at_36) (by decide) (by decide) kk') ?_
    show own_Go p e below K T44 (mkF m 40 #[.val (.int x0), .val (.int y0), .val (.ref b41), .val (.int (0 : Int32))] [(.int (1 : Int32)), (.ref b41)])
    exact j40 _
set_option maxRecDepth 65536 in
set_option maxHeartbeats 40000000 in
theorem own_comes {Post : Tables → Env → Array Value → State → Outcome → State → Prop} (hpost : ∀ tb e args s v u, (limb_1_1.after args s (.returned v) u = true ∧ limb_1_2.after args s (.returned v) u = true ∧ True) → FrameEnd s (.returned v) u (Jvm.fieldLocs frame_1_writes args s ++ Jvm.arrayLocs frame_1_arrays args s ++ Jvm.staticLocs frame_1_statics s) 24 128 → Post tb e args s (.returned v) u) :
    ArmFor flags0 classFile x code maxLocals ret World_1 tables_1 room_1 Calls_1 rest_1 Pre_1 Post := by
  intro l hfl _ _ p e ha hc hk s m args below hf hA hF happ hP
  obtain ⟨hcalls, hrest, hpre⟩ := hP
  obtain ⟨-, -, -, hnamed, -, -, -, hat⟩ := (Spec.applies_iff hf).mp happ
  obtain ⟨hg, hn⟩ := and_e (Cond.before_iff.mp (show (Jvm.Cond.and given_1 narrow_1).before args s = true from hpre))
  obtain ⟨hcnt, hg0⟩ := and_e hg
  obtain ⟨hi0, hg1⟩ := and_e hg0
  have hi1 := hg1
  obtain ⟨w0, w1, rfl⟩ : ∃ w0 w1 : Value, args = #[w0, w1] := by
    have hs : args.size = 2 := by simpa [Cond.value, given_1] using hcnt
    obtain ⟨L⟩ := args
    match L, hs with
    | [w0, w1], _ => exact ⟨w0, w1, rfl⟩
  have hw := fun d (hd : d ∈ tables_1) => atoms_spec (ws := Jvm.Cond.code x code maxLocals ret :: tables_1) hat d (List.mem_cons_of_mem _ hd)
  have hfit : Fit s := fun {y c} hc i hi => by
    obtain ⟨ha, rfl⟩ := Array.getElem?_eq_some_iff.mp hc
    have q := List.all_eq_true.mp ((Array.all_eq_true_iff_forall_mem.mp hF) _ (Array.getElem_mem ha)) i (List.mem_range.mpr hi)
    simpa [Array.getElem?_eq_getElem hi] using q
  obtain ⟨x0, ei0⟩ := is_v hi0
  obtain rfl : w0 = (.int x0) := Option.some.inj ei0
  obtain ⟨y0, ei1⟩ := is_v hi1
  obtain rfl : w1 = (.int y0) := Option.some.inj ei1
  have hsets := (atoms_of (own := restOwn_1) jdkStatics_1 hrest).1
  have w0 := hsets _ (List.mem_of_getElem? (i := 0) rfl)
  have w1 := hsets _ (List.mem_of_getElem? (i := 1) rfl)
  have w2 := hsets _ (List.mem_of_getElem? (i := 2) rfl)
  have w10 := hsets _ (List.mem_of_getElem? (i := 10) rfl)
  have w11 := hsets _ (List.mem_of_getElem? (i := 11) rfl)
  obtain ⟨cs, ec⟩ := is_v (Cond.before_iff.mp w1)
  have hcs : ¬ cs = (0 : Int32) := gotF (Cond.eq_ints ec (Term.int_eval _)) (not_v (Cond.before_iff.mp w2))
  have SS : Sta s s.heap "java/lang/String" "COMPACT_STRINGS" "Z" (.int cs) := Sta.start ec (Or.inl w0)
  obtain ⟨es, ee⟩ := exa_v (Cond.before_iff.mp w11)
  have SE : Sta s s.heap "java/util/ImmutableCollections" "EMPTY_SET" "Ljava/util/ImmutableCollections$SetN;" (.ref es) := Sta.start ee (Or.inl w10)
  obtain ⟨n, o, q1, q2, q3, _, L, rfl, ⟨rfl, N⟩, hq⟩ := own_law l s _ hw x0 y0 cs es s.heap s.heap.size (Nat.le_refl _) hcs (Old.start s) SE SS p e ha hc hk s m _ below hf ((Spec.applies_iff_loose hf).mp happ).1 ⟨rfl, State.Warmed39.refl s, rfl⟩ trivial
  refine ⟨n, _, q1, q2, q3, hpost _ _ _ _ _ _ ⟨Cond.after_iff.mpr rfl, Cond.after_iff.mpr (eq_i res_at (Term.int_eval (1)) rfl), trivial⟩ ⟨hq.1, hq.2.1, (hq.2.2.sift fun y hy => Or.inr (N y hy)).mono (by decide) (by decide)⟩⟩
theorem main_1_1 : Claimed_1_1 := own_comes fun _ _ _ _ _ _ h hF => ⟨h.1, hF⟩
theorem main_1_2 : Claimed_1_2 := own_comes fun _ _ _ _ _ _ h hF => ⟨h.2.1, hF⟩
end Jvm.Pilot.@@N@@
namespace Jvm.Pilot.@@N@@
open Jvm Jvm.ClassFile Sem Op Lib Jvm.Free Jvm.Stand Jvm.Pilot.@@N@@.Jvm.D
/-! MADE BY PROGRAM (witnessworld.py) out of the Statement's table words and the real class files: 31 classes; the members and pool entries that the words name. The judged class is class 1, her method 1. -/
namespace start1
open Jvm.ClassFile
def u (s : String) : CpInfo := .utf8 (stringToUtf16 s)
/-- a pool by its gaps: so many unusable entries, then the entry; so many at the end -/
def gap : Nat → List CpInfo → List CpInfo
  | 0, r => r
  | n + 1, r => .unusable :: gap n r
def poolList (es : List (Nat × CpInfo)) (last : Nat) : List CpInfo := es.foldr (fun e r => gap e.1 (e.2 :: r)) (gap last [])
def pool (es : List (Nat × CpInfo)) (last : Nat) : Array CpInfo := ⟨poolList es last⟩
def fileOf (pool : Array CpInfo) (this : Nat) (attrs : Array Attribute := #[]) (ms : Array MethodInfo := #[]) (fl : Nat := 33) (sup : Nat := 0) (ifs : Array Nat := #[]) (fds : Array FieldInfo := #[]) : ClassFile where
  minorVersion := 0
  majorVersion := 65
  constantPool := pool
  accessFlags := fl
  thisClass := this
  superClass := sup
  interfaces := ifs
  fields := fds
  methods := ms
  attributes := attrs
def plain (name : String) (sup : Option ClassId) : Class where
  name := name
  kind := .ordinary
  loader := none
  accessFlags := 33
  super := sup
  interfaces := #[]
  cf := none
  fields := #[]
  methods := #[]
  instanceTypes := #[]
  staticTypes := #[]
  resolved := #[]
  callSites := []
  init := .initialized
  statics := none
  mirror := none

def pool0 : Array CpInfo := pool [(5, u "<init>"), (0, u "()V"), (1, .class_ 10), (1, u "java/lang/Object")] 113

def k0c0 : Code := { maxStack := 0, maxLocals := 1, code := object_method_1_code, exceptionTable := #[], attributes := #[] }
def k0m0 : Method := { name := "<init>", desc := "()V", sig := { parameters := [], returnType := none }, accessFlags := 1, code := some k0c0 }
/-- java/lang/Object -/
def k0 : Class := { plain "java/lang/Object" none with
  accessFlags := 33
  interfaces := #[]
  cf := some (fileOf pool0 8 #[] #[{ accessFlags := 1, nameIndex := 5, descriptorIndex := 6, attributes := #[] }] 33 0 #[] #[])
  fields := #[]
  methods := #[k0m0]
  instanceTypes := #[]
  staticTypes := #[]
  resolved := Array.replicate 124 none
  statics := none }

def pool1 : Array CpInfo := pool [(2, .class_ 4), (1, u "java/lang/Object"), (0, u "<init>"), (0, u "()V"), (0, .class_ 8), (0, u "com/example/actd/actd/lifecycle/AppProcess"), (0, .methodref 10 11), (0, .class_ 12), (0, .nameAndType 13 14), (0, u "java/lang/String"), (0, u "valueOf"), (0, u "(C)Ljava/lang/String;"), (0, .methodref 7 16), (0, .nameAndType 5 17), (0, u "(Ljava/lang/String;)V"), (0, .methodref 7 19), (0, .nameAndType 20 21), (0, u "getMissedDeadlines"), (0, u "()I"), (0, .methodref 23 24), (0, .class_ 25), (0, .nameAndType 26 27), (0, u "com/example/actd/actd/lifecycle/AppProcessMissDeadlinePinLaw"), (0, u "step"), (0, u "(Lcom/example/actd/actd/lifecycle/AppProcess;ZI)I"), (0, .methodref 7 29), (0, .nameAndType 30 21), (0, u "missDeadline"), (0, .methodref 7 32), (0, .nameAndType 33 6), (0, u "reported"), (2, u "law"), (0, u "(II)Z")] 3

def k1m0 : Method := { name := "<init>", desc := "()V", sig := { parameters := [], returnType := none }, accessFlags := 1, code := none }
def k1c1 : Code := { maxStack := 4, maxLocals := 4, code := code, exceptionTable := #[], attributes := #[] }
def k1m1 : Method := { name := "law", desc := "(II)Z", sig := { parameters := [.int, .int], returnType := some .boolean }, accessFlags := 9, code := some k1c1 }
def k1c2 : Code := { maxStack := 2, maxLocals := 4, code := method_3_code, exceptionTable := #[], attributes := #[] }
def k1m2 : Method := { name := "step", desc := "(Lcom/example/actd/actd/lifecycle/AppProcess;ZI)I", sig := { parameters := [(.object "com/example/actd/actd/lifecycle/AppProcess"), .boolean, .int], returnType := some .int }, accessFlags := 10, code := some k1c2 }
/-- com/example/actd/actd/lifecycle/AppProcessMissDeadlinePinLaw -/
def k1 : Class := { plain "com/example/actd/actd/lifecycle/AppProcessMissDeadlinePinLaw" (some 0) with
  accessFlags := 49
  interfaces := #[]
  cf := some (fileOf pool1 23 #[] #[{ accessFlags := 1, nameIndex := 5, descriptorIndex := 6, attributes := #[] }, { accessFlags := 9, nameIndex := 36, descriptorIndex := 37, attributes := #[] }, { accessFlags := 10, nameIndex := 26, descriptorIndex := 27, attributes := #[] }] 49 2 #[] #[])
  fields := #[]
  methods := #[k1m0, k1m1, k1m2]
  instanceTypes := #[]
  staticTypes := #[]
  resolved := Array.replicate 41 none
  statics := none }

def pool2 : Array CpInfo := pool [(1, .methodref 2 3), (0, .class_ 4), (0, .nameAndType 5 6), (0, u "java/lang/Object"), (0, u "<init>"), (0, u "()V"), (0, .interfaceMethodref 8 9), (0, .class_ 10), (0, .nameAndType 11 12), (0, u "java/util/Set"), (0, u "of"), (0, u "()Ljava/util/Set;"), (0, .fieldref 14 15), (0, .class_ 16), (0, .nameAndType 17 18), (0, u "com/example/actd/actd/lifecycle/AppProcess"), (0, u "components"), (0, u "Ljava/util/Set;"), (0, .fieldref 14 20), (0, .nameAndType 21 18), (0, u "translucent"), (0, .fieldref 14 23), (0, .nameAndType 24 18), (0, u "commands"), (0, .class_ 26), (0, u "java/util/HashSet"), (0, .methodref 25 3), (0, .fieldref 14 29), (0, .nameAndType 30 18), (0, u "hosted"), (0, .fieldref 14 32), (0, .nameAndType 33 34), (0, u "name"), (0, u "Ljava/lang/String;"), (2, u "attached"), (0, u "Z"), (13, .fieldref 14 53), (0, .nameAndType 54 55), (0, u "missedDeadlines"), (0, u "I"), (17, u "(Ljava/lang/String;)V"), (19, u "getMissedDeadlines"), (0, u "()I"), (0, u "missDeadline"), (0, u "reported")] 22

def k2c0 : Code := { maxStack := 3, maxLocals := 2, code := prog_19_method_1_code, exceptionTable := #[], attributes := #[] }
def k2m0 : Method := { name := "<init>", desc := "(Ljava/lang/String;)V", sig := { parameters := [(.object "java/lang/String")], returnType := none }, accessFlags := 0, code := some k2c0 }
def k2c1 : Code := { maxStack := 1, maxLocals := 1, code := prog_19_method_10_code, exceptionTable := #[], attributes := #[] }
def k2m1 : Method := { name := "getMissedDeadlines", desc := "()I", sig := { parameters := [], returnType := some .int }, accessFlags := 1, code := some k2c1 }
def k2c2 : Code := { maxStack := 3, maxLocals := 1, code := prog_19_method_11_code, exceptionTable := #[], attributes := #[] }
def k2m2 : Method := { name := "missDeadline", desc := "()I", sig := { parameters := [], returnType := some .int }, accessFlags := 0, code := some k2c2 }
def k2c3 : Code := { maxStack := 2, maxLocals := 1, code := prog_19_method_12_code, exceptionTable := #[], attributes := #[] }
def k2m3 : Method := { name := "reported", desc := "()V", sig := { parameters := [], returnType := none }, accessFlags := 0, code := some k2c3 }
/-- com/example/actd/actd/lifecycle/AppProcess -/
def k2 : Class := { plain "com/example/actd/actd/lifecycle/AppProcess" (some 0) with
  accessFlags := 33
  interfaces := #[]
  cf := some (fileOf pool2 14 #[] #[{ accessFlags := 0, nameIndex := 5, descriptorIndex := 73, attributes := #[] }, { accessFlags := 1, nameIndex := 93, descriptorIndex := 94, attributes := #[] }, { accessFlags := 0, nameIndex := 95, descriptorIndex := 94, attributes := #[] }, { accessFlags := 0, nameIndex := 96, descriptorIndex := 6, attributes := #[] }] 33 2 #[] #[{ accessFlags := 18, nameIndex := 33, descriptorIndex := 34, attributes := #[] }, { accessFlags := 2, nameIndex := 17, descriptorIndex := 18, attributes := #[] }, { accessFlags := 2, nameIndex := 21, descriptorIndex := 18, attributes := #[] }, { accessFlags := 2, nameIndex := 24, descriptorIndex := 18, attributes := #[] }, { accessFlags := 2, nameIndex := 37, descriptorIndex := 38, attributes := #[] }, { accessFlags := 18, nameIndex := 30, descriptorIndex := 18, attributes := #[] }, { accessFlags := 2, nameIndex := 54, descriptorIndex := 55, attributes := #[] }])
  fields := #[{ name := "name", type := (.object "java/lang/String"), accessFlags := 18, slot := 0, constantValue := 0 }, { name := "components", type := (.object "java/util/Set"), accessFlags := 2, slot := 1, constantValue := 0 }, { name := "translucent", type := (.object "java/util/Set"), accessFlags := 2, slot := 2, constantValue := 0 }, { name := "commands", type := (.object "java/util/Set"), accessFlags := 2, slot := 3, constantValue := 0 }, { name := "attached", type := .boolean, accessFlags := 2, slot := 4, constantValue := 0 }, { name := "hosted", type := (.object "java/util/Set"), accessFlags := 18, slot := 5, constantValue := 0 }, { name := "missedDeadlines", type := .int, accessFlags := 2, slot := 6, constantValue := 0 }]
  methods := #[k2m0, k2m1, k2m2, k2m3]
  instanceTypes := #[(.object "java/lang/String"), (.object "java/util/Set"), (.object "java/util/Set"), (.object "java/util/Set"), .boolean, (.object "java/util/Set"), .int]
  staticTypes := #[]
  resolved := Array.replicate 119 none
  statics := none }

def pool3 : Array CpInfo := pool [(1, .class_ 2), (0, u "java/io/Serializable"), (0, .class_ 4), (0, u "java/lang/Object")] 2

/-- java/io/Serializable -/
def k3 : Class := { plain "java/io/Serializable" (some 0) with
  accessFlags := 1537
  interfaces := #[]
  cf := some (fileOf pool3 1 #[] #[] 1537 3 #[] #[])
  fields := #[]
  methods := #[]
  instanceTypes := #[]
  staticTypes := #[]
  resolved := Array.replicate 7 none
  statics := none }

def pool4 : Array CpInfo := pool [(1, .class_ 2), (0, u "java/lang/Comparable"), (0, .class_ 4), (0, u "java/lang/Object")] 7

/-- java/lang/Comparable -/
def k4 : Class := { plain "java/lang/Comparable" (some 0) with
  accessFlags := 1537
  interfaces := #[]
  cf := some (fileOf pool4 1 #[] #[] 1537 3 #[] #[])
  fields := #[]
  methods := #[]
  instanceTypes := #[]
  staticTypes := #[]
  resolved := Array.replicate 12 none
  statics := none }

def pool5 : Array CpInfo := pool [(2, .class_ 4), (1, u "java/lang/CharSequence"), (42, .class_ 48), (0, u "java/lang/CharSequence$1CodePointIterator"), (10, .class_ 60), (0, u "java/lang/CharSequence$1CharIterator"), (5, .class_ 67), (0, u "java/lang/Object")] 63

/-- java/lang/CharSequence -/
def k5 : Class := { plain "java/lang/CharSequence" (some 0) with
  accessFlags := 1537
  interfaces := #[]
  cf := some (fileOf pool5 2 #[.nestMembers #[47, 59]] #[] 1537 66 #[] #[])
  fields := #[]
  methods := #[]
  instanceTypes := #[]
  staticTypes := #[]
  resolved := Array.replicate 131 none
  statics := none }

def pool6 : Array CpInfo := pool [(1, .class_ 2), (0, u "java/lang/constant/Constable"), (0, .class_ 4), (0, u "java/lang/Object")] 6

/-- java/lang/constant/Constable -/
def k6 : Class := { plain "java/lang/constant/Constable" (some 0) with
  accessFlags := 1537
  interfaces := #[]
  cf := some (fileOf pool6 1 #[] #[] 1537 3 #[] #[])
  fields := #[]
  methods := #[]
  instanceTypes := #[]
  staticTypes := #[]
  resolved := Array.replicate 11 none
  statics := none }

def pool7 : Array CpInfo := pool [(1, .class_ 2), (0, u "java/lang/constant/ConstantDesc"), (0, .class_ 4), (0, u "java/lang/Object")] 32

/-- java/lang/constant/ConstantDesc -/
def k7 : Class := { plain "java/lang/constant/ConstantDesc" (some 0) with
  accessFlags := 1537
  interfaces := #[]
  cf := some (fileOf pool7 1 #[] #[] 1537 3 #[] #[])
  fields := #[]
  methods := #[]
  instanceTypes := #[]
  staticTypes := #[]
  resolved := Array.replicate 37 none
  statics := none }

def pool8 : Array CpInfo := pool [(1, .methodref 2 3), (0, .class_ 4), (0, .nameAndType 5 6), (0, u "java/lang/Object"), (0, u "<init>"), (0, u "()V"), (2, .fieldref 10 11), (0, .class_ 12), (0, .nameAndType 13 14), (0, u "java/lang/String"), (0, u "value"), (0, u "[B"), (0, .fieldref 10 16), (0, .nameAndType 17 18), (0, u "coder"), (0, u "B"), (2, u "hash"), (0, u "I"), (2, u "hashIsZero"), (0, u "Z"), (11, .fieldref 10 39), (0, .nameAndType 40 26), (0, u "COMPACT_STRINGS"), (12, u "toBytes"), (53, .class_ 109), (1, u "java/lang/StringLatin1"), (99, .methodref 10 210), (0, .nameAndType 5 211), (0, u "([BB)V"), (157, u "(C)Z"), (205, .class_ 576), (0, u "java/lang/CharSequence"), (22, u "CASE_INSENSITIVE_ORDER"), (0, u "Ljava/util/Comparator;"), (181, u "valueOf"), (0, u "(C)Ljava/lang/String;"), (231, .methodref 107 1016), (0, .nameAndType 1017 369), (0, u "canEncode"), (0, .methodref 107 1019), (0, .nameAndType 53 1020), (0, u "(C)[B"), (80, u "serialPersistentFields"), (0, u "[Ljava/io/ObjectStreamField;"), (0, .class_ 1104), (0, u "java/lang/String$CaseInsensitiveComparator"), (1, .class_ 1107), (0, u "java/io/Serializable"), (0, .class_ 1109), (0, u "java/lang/Comparable"), (0, .class_ 1111), (0, u "java/lang/constant/Constable"), (0, .class_ 1113), (0, u "java/lang/constant/ConstantDesc"), (2, u "serialVersionUID"), (0, u "J"), (3, u "REPL"), (0, u "C"), (2, u "LATIN1"), (1, u "UTF16")] 323

def k8m0 : Method := { name := "<init>", desc := "()V", sig := { parameters := [], returnType := none }, accessFlags := 1, code := none }
def k8c1 : Code := { maxStack := 4, maxLocals := 1, code := jdk_42_method_139_code, exceptionTable := #[], attributes := #[] }
def k8m1 : Method := { name := "valueOf", desc := "(C)Ljava/lang/String;", sig := { parameters := [.char], returnType := some (.object "java/lang/String") }, accessFlags := 9, code := some k8c1 }
def k8c2 : Code := { maxStack := 2, maxLocals := 3, code := jdk_42_method_151_code, exceptionTable := #[], attributes := #[] }
def k8m2 : Method := { name := "<init>", desc := "([BB)V", sig := { parameters := [(.array .byte), .byte], returnType := none }, accessFlags := 0, code := some k8c2 }
/-- java/lang/String -/
def k8 : Class := { plain "java/lang/String" (some 0) with
  accessFlags := 49
  interfaces := #[3, 4, 5, 6, 7]
  cf := some (fileOf pool8 10 #[.nestMembers #[1103]] #[{ accessFlags := 1, nameIndex := 5, descriptorIndex := 6, attributes := #[] }, { accessFlags := 9, nameIndex := 782, descriptorIndex := 783, attributes := #[] }, { accessFlags := 0, nameIndex := 5, descriptorIndex := 211, attributes := #[] }] 49 2 #[1106, 1108, 575, 1110, 1112] #[{ accessFlags := 18, nameIndex := 13, descriptorIndex := 14, attributes := #[] }, { accessFlags := 18, nameIndex := 17, descriptorIndex := 18, attributes := #[] }, { accessFlags := 2, nameIndex := 21, descriptorIndex := 22, attributes := #[] }, { accessFlags := 2, nameIndex := 25, descriptorIndex := 26, attributes := #[] }, { accessFlags := 26, nameIndex := 1116, descriptorIndex := 1117, attributes := #[] }, { accessFlags := 24, nameIndex := 40, descriptorIndex := 26, attributes := #[] }, { accessFlags := 26, nameIndex := 1101, descriptorIndex := 1102, attributes := #[] }, { accessFlags := 26, nameIndex := 1121, descriptorIndex := 1122, attributes := #[] }, { accessFlags := 25, nameIndex := 599, descriptorIndex := 600, attributes := #[] }, { accessFlags := 24, nameIndex := 1125, descriptorIndex := 18, attributes := #[] }, { accessFlags := 24, nameIndex := 1127, descriptorIndex := 18, attributes := #[] }])
  fields := #[{ name := "value", type := (.array .byte), accessFlags := 18, slot := 0, constantValue := 0 }, { name := "coder", type := .byte, accessFlags := 18, slot := 1, constantValue := 0 }, { name := "hash", type := .int, accessFlags := 2, slot := 2, constantValue := 0 }, { name := "hashIsZero", type := .boolean, accessFlags := 2, slot := 3, constantValue := 0 }, { name := "serialVersionUID", type := .long, accessFlags := 26, slot := 0, constantValue := 0 }, { name := "COMPACT_STRINGS", type := .boolean, accessFlags := 24, slot := 1, constantValue := 0 }, { name := "serialPersistentFields", type := (.array (.object "java/io/ObjectStreamField")), accessFlags := 26, slot := 2, constantValue := 0 }, { name := "REPL", type := .char, accessFlags := 26, slot := 3, constantValue := 0 }, { name := "CASE_INSENSITIVE_ORDER", type := (.object "java/util/Comparator"), accessFlags := 25, slot := 4, constantValue := 0 }, { name := "LATIN1", type := .byte, accessFlags := 24, slot := 5, constantValue := 0 }, { name := "UTF16", type := .byte, accessFlags := 24, slot := 6, constantValue := 0 }]
  methods := #[k8m0, k8m1, k8m2]
  instanceTypes := #[(.array .byte), .byte, .int, .boolean]
  staticTypes := #[.long, .boolean, (.array (.object "java/io/ObjectStreamField")), .char, (.object "java/util/Comparator"), .byte, .byte]
  resolved := Array.replicate 1451 none
  statics := some 0 }

def pool9 : Array CpInfo := pool [(4, .class_ 6), (1, u "java/lang/Object"), (0, u "<init>"), (0, u "()V"), (5, .class_ 16), (1, u "java/lang/StringLatin1"), (73, u "canEncode"), (14, u "(C)Z"), (15, u "$assertionsDisabled"), (0, u "Z"), (98, .class_ 223), (1, u "java/lang/StringLatin1$LinesSpliterator"), (156, u "toBytes"), (1, u "(C)[B"), (7, .class_ 391), (0, u "java/lang/StringLatin1$CharsSpliterator")] 3

def k9m0 : Method := { name := "<init>", desc := "()V", sig := { parameters := [], returnType := none }, accessFlags := 0, code := none }
def k9c1 : Code := { maxStack := 2, maxLocals := 1, code := jdk_43_method_3_code, exceptionTable := #[], attributes := #[] }
def k9m1 : Method := { name := "canEncode", desc := "(C)Z", sig := { parameters := [.char], returnType := some .boolean }, accessFlags := 9, code := some k9c1 }
def k9c2 : Code := { maxStack := 4, maxLocals := 1, code := jdk_43_method_46_code, exceptionTable := #[], attributes := #[] }
def k9m2 : Method := { name := "toBytes", desc := "(C)[B", sig := { parameters := [.char], returnType := some (.array .byte) }, accessFlags := 9, code := some k9c2 }
/-- java/lang/StringLatin1 -/
def k9 : Class := { plain "java/lang/StringLatin1" (some 0) with
  accessFlags := 48
  interfaces := #[]
  cf := some (fileOf pool9 14 #[.nestMembers #[390, 221]] #[{ accessFlags := 0, nameIndex := 7, descriptorIndex := 8, attributes := #[] }, { accessFlags := 9, nameIndex := 90, descriptorIndex := 105, attributes := #[] }, { accessFlags := 9, nameIndex := 380, descriptorIndex := 382, attributes := #[] }] 48 4 #[] #[{ accessFlags := 4120, nameIndex := 121, descriptorIndex := 122, attributes := #[] }])
  fields := #[{ name := "$assertionsDisabled", type := .boolean, accessFlags := 4120, slot := 0, constantValue := 0 }]
  methods := #[k9m0, k9m1, k9m2]
  instanceTypes := #[]
  staticTypes := #[.boolean]
  resolved := Array.replicate 395 none
  statics := none }

def pool10 : Array CpInfo := pool [(8, .class_ 10), (1, u "java/lang/Iterable"), (24, .class_ 36), (0, u "java/lang/Object")] 25

/-- java/lang/Iterable -/
def k10 : Class := { plain "java/lang/Iterable" (some 0) with
  accessFlags := 1537
  interfaces := #[]
  cf := some (fileOf pool10 8 #[] #[] 1537 35 #[] #[])
  fields := #[]
  methods := #[]
  instanceTypes := #[]
  staticTypes := #[]
  resolved := Array.replicate 62 none
  statics := none }

def pool11 : Array CpInfo := pool [(10, .class_ 12), (1, u "java/util/Collection"), (47, .class_ 61), (0, u "java/lang/Object"), (0, .class_ 63), (0, u "java/lang/Iterable")] 51

/-- java/util/Collection -/
def k11 : Class := { plain "java/util/Collection" (some 0) with
  accessFlags := 1537
  interfaces := #[10]
  cf := some (fileOf pool11 10 #[] #[] 1537 60 #[62] #[])
  fields := #[]
  methods := #[]
  instanceTypes := #[]
  staticTypes := #[]
  resolved := Array.replicate 115 none
  statics := none }

def pool12 : Array CpInfo := pool [(9, .fieldref 10 11), (0, .class_ 12), (0, .nameAndType 13 14), (0, u "java/util/ImmutableCollections"), (0, u "EMPTY_SET"), (0, u "Ljava/util/ImmutableCollections$SetN;"), (11, .class_ 27), (0, u "java/lang/Object"), (5, .class_ 34), (0, u "java/util/Set"), (1, .class_ 38), (1, u "java/util/Collection"), (4, u "of"), (0, u "()Ljava/util/Set;")] 99

def k12c0 : Code := { maxStack := 1, maxLocals := 0, code := jdk_96_method_17_code, exceptionTable := #[], attributes := #[] }
def k12m0 : Method := { name := "of", desc := "()Ljava/util/Set;", sig := { parameters := [], returnType := some (.object "java/util/Set") }, accessFlags := 9, code := some k12c0 }
/-- java/util/Set -/
def k12 : Class := { plain "java/util/Set" (some 0) with
  accessFlags := 1537
  interfaces := #[11]
  cf := some (fileOf pool12 33 #[] #[{ accessFlags := 9, nameIndex := 43, descriptorIndex := 44, attributes := #[] }] 1537 26 #[36] #[])
  fields := #[]
  methods := #[k12m0]
  instanceTypes := #[]
  staticTypes := #[]
  resolved := Array.replicate 144 none
  statics := none }

def pool13 : Array CpInfo := pool [(2, .class_ 4), (1, u "java/lang/Object"), (0, u "<init>"), (0, u "()V"), (3, .class_ 11), (0, u "java/util/ImmutableCollections$List12"), (0, .class_ 13), (0, u "java/util/ImmutableCollections$ListN"), (3, u "Z"), (29, .class_ 49), (1, u "java/util/ImmutableCollections"), (0, u "$assertionsDisabled"), (5, u "[Ljava/lang/Object;"), (5, u "EMPTY_LIST"), (0, u "Ljava/util/ImmutableCollections$ListN;"), (8, u "EMPTY_LIST_NULLS"), (22, u "SALT32L"), (0, u "J"), (2, u "REVERSE"), (6, u "archivedObjects"), (2, u "EMPTY"), (0, u "Ljava/lang/Object;"), (0, .class_ 112), (0, u "java/util/ImmutableCollections$SetN"), (5, u "EMPTY_SET"), (0, u "Ljava/util/ImmutableCollections$SetN;"), (0, .class_ 121), (0, u "java/util/ImmutableCollections$MapN"), (3, u "EMPTY_MAP"), (0, u "Ljava/util/ImmutableCollections$MapN;"), (4, u "EXPAND_FACTOR"), (0, u "I"), (36, .class_ 170), (0, u "java/util/ImmutableCollections$MapN$MapNIterator"), (0, .class_ 172), (0, u "java/util/ImmutableCollections$MapN$1"), (0, .class_ 174), (0, u "java/util/ImmutableCollections$Map1"), (0, .class_ 176), (0, u "java/util/ImmutableCollections$AbstractImmutableMap"), (0, .class_ 178), (0, u "java/util/ImmutableCollections$SetN$SetNIterator"), (0, .class_ 180), (0, u "java/util/ImmutableCollections$Set12"), (0, .class_ 182), (0, u "java/util/ImmutableCollections$Set12$1"), (0, .class_ 184), (0, u "java/util/ImmutableCollections$AbstractImmutableSet"), (0, .class_ 186), (0, u "java/util/ImmutableCollections$SubList"), (0, .class_ 188), (0, u "java/util/ImmutableCollections$ListItr"), (0, .class_ 190), (0, u "java/util/ImmutableCollections$AbstractImmutableList"), (0, .class_ 192), (0, u "java/util/ImmutableCollections$AbstractImmutableCollection"), (0, .class_ 194), (0, u "java/util/ImmutableCollections$Access"), (0, .class_ 196), (0, u "java/util/ImmutableCollections$Access$1")] 16

def k13m0 : Method := { name := "<init>", desc := "()V", sig := { parameters := [], returnType := none }, accessFlags := 2, code := none }
/-- java/util/ImmutableCollections -/
def k13 : Class := { plain "java/util/ImmutableCollections" (some 0) with
  accessFlags := 32
  interfaces := #[]
  cf := some (fileOf pool13 47 #[.nestMembers #[120, 169, 171, 173, 175, 111, 177, 179, 181, 183, 12, 10, 185, 187, 189, 191, 193, 195]] #[{ accessFlags := 2, nameIndex := 5, descriptorIndex := 6, attributes := #[] }] 32 2 #[] #[{ accessFlags := 26, nameIndex := 95, descriptorIndex := 96, attributes := #[] }, { accessFlags := 26, nameIndex := 99, descriptorIndex := 17, attributes := #[] }, { accessFlags := 10, nameIndex := 106, descriptorIndex := 56, attributes := #[] }, { accessFlags := 26, nameIndex := 109, descriptorIndex := 110, attributes := #[] }, { accessFlags := 24, nameIndex := 62, descriptorIndex := 63, attributes := #[] }, { accessFlags := 24, nameIndex := 72, descriptorIndex := 63, attributes := #[] }, { accessFlags := 24, nameIndex := 118, descriptorIndex := 119, attributes := #[] }, { accessFlags := 24, nameIndex := 125, descriptorIndex := 126, attributes := #[] }, { accessFlags := 24, nameIndex := 131, descriptorIndex := 132, attributes := #[] }, { accessFlags := 4120, nameIndex := 50, descriptorIndex := 17, attributes := #[] }])
  fields := #[{ name := "SALT32L", type := .long, accessFlags := 26, slot := 0, constantValue := 0 }, { name := "REVERSE", type := .boolean, accessFlags := 26, slot := 1, constantValue := 0 }, { name := "archivedObjects", type := (.array (.object "java/lang/Object")), accessFlags := 10, slot := 2, constantValue := 0 }, { name := "EMPTY", type := (.object "java/lang/Object"), accessFlags := 26, slot := 3, constantValue := 0 }, { name := "EMPTY_LIST", type := (.object "java/util/ImmutableCollections$ListN"), accessFlags := 24, slot := 4, constantValue := 0 }, { name := "EMPTY_LIST_NULLS", type := (.object "java/util/ImmutableCollections$ListN"), accessFlags := 24, slot := 5, constantValue := 0 }, { name := "EMPTY_SET", type := (.object "java/util/ImmutableCollections$SetN"), accessFlags := 24, slot := 6, constantValue := 0 }, { name := "EMPTY_MAP", type := (.object "java/util/ImmutableCollections$MapN"), accessFlags := 24, slot := 7, constantValue := 0 }, { name := "EXPAND_FACTOR", type := .int, accessFlags := 24, slot := 8, constantValue := 0 }, { name := "$assertionsDisabled", type := .boolean, accessFlags := 4120, slot := 9, constantValue := 0 }]
  methods := #[k13m0]
  instanceTypes := #[]
  staticTypes := #[.long, .boolean, (.array (.object "java/lang/Object")), (.object "java/lang/Object"), (.object "java/util/ImmutableCollections$ListN"), (.object "java/util/ImmutableCollections$ListN"), (.object "java/util/ImmutableCollections$SetN"), (.object "java/util/ImmutableCollections$MapN"), .int, .boolean]
  resolved := Array.replicate 213 none
  statics := some 1 }

def pool14 : Array CpInfo := pool [(1, .methodref 2 3), (0, .class_ 4), (0, .nameAndType 5 6), (0, u "java/lang/Object"), (0, u "<init>"), (0, u "()V"), (1, .class_ 10), (1, u "java/util/AbstractCollection"), (66, .class_ 78), (0, u "java/util/Collection")] 81

def k14c0 : Code := { maxStack := 1, maxLocals := 1, code := jdk_22_method_1_code, exceptionTable := #[], attributes := #[] }
def k14m0 : Method := { name := "<init>", desc := "()V", sig := { parameters := [], returnType := none }, accessFlags := 4, code := some k14c0 }
/-- java/util/AbstractCollection -/
def k14 : Class := { plain "java/util/AbstractCollection" (some 0) with
  accessFlags := 1057
  interfaces := #[11]
  cf := some (fileOf pool14 8 #[] #[{ accessFlags := 4, nameIndex := 5, descriptorIndex := 6, attributes := #[] }] 1057 2 #[77] #[])
  fields := #[]
  methods := #[k14m0]
  instanceTypes := #[]
  staticTypes := #[]
  resolved := Array.replicate 160 none
  statics := none }

def pool15 : Array CpInfo := pool [(1, .methodref 2 3), (0, .class_ 4), (0, .nameAndType 5 6), (0, u "java/util/AbstractCollection"), (0, u "<init>"), (0, u "()V"), (0, .class_ 8), (0, u "java/util/Set"), (7, .class_ 17), (0, u "java/util/AbstractSet")] 78

def k15c0 : Code := { maxStack := 1, maxLocals := 1, code := jdk_91_method_1_code, exceptionTable := #[], attributes := #[] }
def k15m0 : Method := { name := "<init>", desc := "()V", sig := { parameters := [], returnType := none }, accessFlags := 4, code := some k15c0 }
/-- java/util/AbstractSet -/
def k15 : Class := { plain "java/util/AbstractSet" (some 14) with
  accessFlags := 1057
  interfaces := #[12]
  cf := some (fileOf pool15 16 #[] #[{ accessFlags := 4, nameIndex := 5, descriptorIndex := 6, attributes := #[] }] 1057 2 #[7] #[])
  fields := #[]
  methods := #[k15m0]
  instanceTypes := #[]
  staticTypes := #[]
  resolved := Array.replicate 96 none
  statics := none }

def pool16 : Array CpInfo := pool [(1, .class_ 2), (0, u "java/lang/Cloneable"), (0, .class_ 4), (0, u "java/lang/Object")] 2

/-- java/lang/Cloneable -/
def k16 : Class := { plain "java/lang/Cloneable" (some 0) with
  accessFlags := 1537
  interfaces := #[]
  cf := some (fileOf pool16 1 #[] #[] 1537 3 #[] #[])
  fields := #[]
  methods := #[]
  instanceTypes := #[]
  staticTypes := #[]
  resolved := Array.replicate 7 none
  statics := none }

def pool17 : Array CpInfo := pool [(1, .methodref 2 3), (0, .class_ 4), (0, .nameAndType 5 6), (0, u "java/util/AbstractSet"), (0, u "<init>"), (0, u "()V"), (0, .class_ 8), (0, u "java/util/HashMap"), (0, .methodref 7 3), (0, .fieldref 11 12), (0, .class_ 13), (0, .nameAndType 14 15), (0, u "java/util/HashSet"), (0, u "map"), (0, u "Ljava/util/HashMap;"), (34, .class_ 52), (1, u "java/util/Set"), (13, u "PRESENT"), (0, u "Ljava/lang/Object;"), (158, .class_ 227), (0, u "java/lang/Cloneable"), (0, .class_ 229), (0, u "java/io/Serializable"), (0, u "serialVersionUID"), (0, u "J")] 71

def k17c0 : Code := { maxStack := 3, maxLocals := 1, code := jdk_93_method_1_code, exceptionTable := #[], attributes := #[] }
def k17m0 : Method := { name := "<init>", desc := "()V", sig := { parameters := [], returnType := none }, accessFlags := 1, code := some k17c0 }
/-- java/util/HashSet -/
def k17 : Class := { plain "java/util/HashSet" (some 15) with
  accessFlags := 33
  interfaces := #[12, 16, 3]
  cf := some (fileOf pool17 11 #[] #[{ accessFlags := 1, nameIndex := 5, descriptorIndex := 6, attributes := #[] }] 33 2 #[50, 226, 228] #[{ accessFlags := 24, nameIndex := 230, descriptorIndex := 231, attributes := #[] }, { accessFlags := 128, nameIndex := 14, descriptorIndex := 15, attributes := #[] }, { accessFlags := 24, nameIndex := 66, descriptorIndex := 67, attributes := #[] }])
  fields := #[{ name := "serialVersionUID", type := .long, accessFlags := 24, slot := 0, constantValue := 0 }, { name := "map", type := (.object "java/util/HashMap"), accessFlags := 128, slot := 0, constantValue := 0 }, { name := "PRESENT", type := (.object "java/lang/Object"), accessFlags := 24, slot := 1, constantValue := 0 }]
  methods := #[k17m0]
  instanceTypes := #[(.object "java/util/HashMap")]
  staticTypes := #[.long, (.object "java/lang/Object")]
  resolved := Array.replicate 303 none
  statics := none }

def pool18 : Array CpInfo := pool [(2, .class_ 4), (1, u "java/util/Map"), (31, .class_ 37), (0, u "java/util/Map$Entry"), (55, .class_ 94), (0, u "java/lang/Object")] 168

/-- java/util/Map -/
def k18 : Class := { plain "java/util/Map" (some 0) with
  accessFlags := 1537
  interfaces := #[]
  cf := some (fileOf pool18 2 #[.nestMembers #[36]] #[] 1537 93 #[] #[])
  fields := #[]
  methods := #[]
  instanceTypes := #[]
  staticTypes := #[]
  resolved := Array.replicate 263 none
  statics := none }

def pool19 : Array CpInfo := pool [(1, .methodref 2 3), (0, .class_ 4), (0, .nameAndType 5 6), (0, u "java/lang/Object"), (0, u "<init>"), (0, u "()V"), (1, .class_ 10), (1, u "java/util/AbstractMap"), (42, .class_ 54), (0, u "java/util/Map"), (9, u "keySet"), (0, u "Ljava/util/Set;"), (0, .class_ 67), (0, u "java/util/AbstractMap$1"), (5, u "values"), (0, u "Ljava/util/Collection;"), (0, .class_ 76), (0, u "java/util/AbstractMap$2"), (104, .class_ 182), (0, u "java/util/AbstractMap$ViewCollection"), (0, .class_ 184), (0, u "java/util/AbstractMap$SimpleImmutableEntry"), (0, .class_ 186), (0, u "java/util/AbstractMap$SimpleEntry"), (0, .class_ 188), (0, u "java/util/AbstractMap$2$1"), (0, .class_ 190), (0, u "java/util/AbstractMap$1$1")] 5

def k19c0 : Code := { maxStack := 1, maxLocals := 1, code := jdk_71_method_1_code, exceptionTable := #[], attributes := #[] }
def k19m0 : Method := { name := "<init>", desc := "()V", sig := { parameters := [], returnType := none }, accessFlags := 4, code := some k19c0 }
/-- java/util/AbstractMap -/
def k19 : Class := { plain "java/util/AbstractMap" (some 0) with
  accessFlags := 1057
  interfaces := #[18]
  cf := some (fileOf pool19 8 #[.nestMembers #[181, 183, 185, 75, 187, 66, 189]] #[{ accessFlags := 4, nameIndex := 5, descriptorIndex := 6, attributes := #[] }] 1057 2 #[53] #[{ accessFlags := 128, nameIndex := 64, descriptorIndex := 65, attributes := #[] }, { accessFlags := 128, nameIndex := 73, descriptorIndex := 74, attributes := #[] }])
  fields := #[{ name := "keySet", type := (.object "java/util/Set"), accessFlags := 128, slot := 0, constantValue := 0 }, { name := "values", type := (.object "java/util/Collection"), accessFlags := 128, slot := 1, constantValue := 0 }]
  methods := #[k19m0]
  instanceTypes := #[(.object "java/util/Set"), (.object "java/util/Collection")]
  staticTypes := #[]
  resolved := Array.replicate 196 none
  statics := none }

def pool20 : Array CpInfo := pool [(40, .class_ 41), (0, u "java/util/HashMap"), (1, .methodref 44 45), (0, .class_ 46), (0, .nameAndType 47 48), (0, u "java/util/AbstractMap"), (0, u "<init>"), (0, u "()V"), (32, .fieldref 40 82), (0, .nameAndType 83 84), (0, u "loadFactor"), (0, u "F"), (5, u "threshold"), (0, u "I"), (0, .float 1061158912), (8, .class_ 103), (1, u "java/util/Map"), (0, u "size"), (2, u "table"), (0, u "[Ljava/util/HashMap$Node;"), (14, u "entrySet"), (39, .class_ 165), (1, u "java/util/HashMap$Node"), (14, .class_ 181), (0, u "java/util/HashMap$TreeNode"), (22, u "modCount"), (37, u "Ljava/util/Set;"), (0, .class_ 244), (0, u "java/util/HashMap$KeySet"), (18, .class_ 264), (0, u "java/util/HashMap$Values"), (3, .class_ 269), (0, u "java/util/HashMap$EntrySet"), (76, .class_ 348), (1, u "java/util/HashMap$UnsafeHolder"), (43, .class_ 393), (0, u "java/lang/Cloneable"), (0, .class_ 395), (0, u "java/io/Serializable"), (0, u "serialVersionUID"), (0, u "J"), (3, u "DEFAULT_INITIAL_CAPACITY"), (1, u "MAXIMUM_CAPACITY"), (0, u "DEFAULT_LOAD_FACTOR"), (0, u "TREEIFY_THRESHOLD"), (1, u "UNTREEIFY_THRESHOLD"), (1, u "MIN_TREEIFY_CAPACITY"), (186, .class_ 597), (0, u "java/util/HashMap$EntrySpliterator"), (0, .class_ 599), (0, u "java/util/HashMap$ValueSpliterator"), (0, .class_ 601), (0, u "java/util/HashMap$KeySpliterator"), (0, .class_ 603), (0, u "java/util/HashMap$HashMapSpliterator"), (0, .class_ 605), (0, u "java/util/HashMap$EntryIterator"), (0, .class_ 607), (0, u "java/util/HashMap$ValueIterator"), (0, .class_ 609), (0, u "java/util/HashMap$KeyIterator"), (0, .class_ 611), (0, u "java/util/HashMap$HashIterator")] 17

def k20c0 : Code := { maxStack := 2, maxLocals := 1, code := jdk_69_method_7_code, exceptionTable := #[], attributes := #[] }
def k20m0 : Method := { name := "<init>", desc := "()V", sig := { parameters := [], returnType := none }, accessFlags := 1, code := some k20c0 }
/-- java/util/HashMap -/
def k20 : Class := { plain "java/util/HashMap" (some 19) with
  accessFlags := 33
  interfaces := #[18, 16, 3]
  cf := some (fileOf pool20 40 #[.nestMembers #[180, 596, 598, 600, 602, 604, 606, 608, 610, 346, 268, 263, 243, 163]] #[{ accessFlags := 1, nameIndex := 47, descriptorIndex := 48, attributes := #[] }] 33 44 #[101, 392, 394] #[{ accessFlags := 26, nameIndex := 396, descriptorIndex := 397, attributes := #[] }, { accessFlags := 24, nameIndex := 401, descriptorIndex := 91, attributes := #[] }, { accessFlags := 24, nameIndex := 403, descriptorIndex := 91, attributes := #[] }, { accessFlags := 24, nameIndex := 404, descriptorIndex := 84, attributes := #[] }, { accessFlags := 24, nameIndex := 405, descriptorIndex := 91, attributes := #[] }, { accessFlags := 24, nameIndex := 407, descriptorIndex := 91, attributes := #[] }, { accessFlags := 24, nameIndex := 409, descriptorIndex := 91, attributes := #[] }, { accessFlags := 128, nameIndex := 107, descriptorIndex := 108, attributes := #[] }, { accessFlags := 128, nameIndex := 123, descriptorIndex := 242, attributes := #[] }, { accessFlags := 128, nameIndex := 104, descriptorIndex := 91, attributes := #[] }, { accessFlags := 128, nameIndex := 204, descriptorIndex := 91, attributes := #[] }, { accessFlags := 0, nameIndex := 90, descriptorIndex := 91, attributes := #[] }, { accessFlags := 16, nameIndex := 83, descriptorIndex := 84, attributes := #[] }])
  fields := #[{ name := "serialVersionUID", type := .long, accessFlags := 26, slot := 0, constantValue := 0 }, { name := "DEFAULT_INITIAL_CAPACITY", type := .int, accessFlags := 24, slot := 1, constantValue := 0 }, { name := "MAXIMUM_CAPACITY", type := .int, accessFlags := 24, slot := 2, constantValue := 0 }, { name := "DEFAULT_LOAD_FACTOR", type := .float, accessFlags := 24, slot := 3, constantValue := 0 }, { name := "TREEIFY_THRESHOLD", type := .int, accessFlags := 24, slot := 4, constantValue := 0 }, { name := "UNTREEIFY_THRESHOLD", type := .int, accessFlags := 24, slot := 5, constantValue := 0 }, { name := "MIN_TREEIFY_CAPACITY", type := .int, accessFlags := 24, slot := 6, constantValue := 0 }, { name := "table", type := (.array (.object "java/util/HashMap$Node")), accessFlags := 128, slot := 2, constantValue := 0 }, { name := "entrySet", type := (.object "java/util/Set"), accessFlags := 128, slot := 3, constantValue := 0 }, { name := "size", type := .int, accessFlags := 128, slot := 4, constantValue := 0 }, { name := "modCount", type := .int, accessFlags := 128, slot := 5, constantValue := 0 }, { name := "threshold", type := .int, accessFlags := 0, slot := 6, constantValue := 0 }, { name := "loadFactor", type := .float, accessFlags := 16, slot := 7, constantValue := 0 }]
  methods := #[k20m0]
  instanceTypes := #[(.object "java/util/Set"), (.object "java/util/Collection"), (.array (.object "java/util/HashMap$Node")), (.object "java/util/Set"), .int, .int, .int, .float]
  staticTypes := #[.long, .int, .int, .float, .int, .int, .int]
  resolved := Array.replicate 629 none
  statics := none }

def pool21 : Array CpInfo := pool [(2, .class_ 4), (1, u "java/lang/Object"), (0, u "<init>"), (0, u "()V"), (17, .class_ 26), (1, u "jdk/internal/util/Preconditions"), (28, .class_ 56), (0, u "jdk/internal/util/Preconditions$4"), (57, .class_ 115), (0, u "jdk/internal/util/Preconditions$1"), (7, u "SIOOBE_FORMATTER"), (0, u "Ljava/util/function/BiFunction;"), (0, .class_ 126), (0, u "jdk/internal/util/Preconditions$2"), (3, u "AIOOBE_FORMATTER"), (0, .class_ 132), (0, u "jdk/internal/util/Preconditions$3"), (3, u "IOOBE_FORMATTER")] 57

def k21m0 : Method := { name := "<init>", desc := "()V", sig := { parameters := [], returnType := none }, accessFlags := 1, code := none }
/-- jdk/internal/util/Preconditions -/
def k21 : Class := { plain "jdk/internal/util/Preconditions" (some 0) with
  accessFlags := 33
  interfaces := #[]
  cf := some (fileOf pool21 24 #[.nestMembers #[55, 131, 125, 114]] #[{ accessFlags := 1, nameIndex := 5, descriptorIndex := 6, attributes := #[] }] 33 2 #[] #[{ accessFlags := 25, nameIndex := 123, descriptorIndex := 124, attributes := #[] }, { accessFlags := 25, nameIndex := 130, descriptorIndex := 124, attributes := #[] }, { accessFlags := 25, nameIndex := 136, descriptorIndex := 124, attributes := #[] }])
  fields := #[{ name := "SIOOBE_FORMATTER", type := (.object "java/util/function/BiFunction"), accessFlags := 25, slot := 0, constantValue := 0 }, { name := "AIOOBE_FORMATTER", type := (.object "java/util/function/BiFunction"), accessFlags := 25, slot := 1, constantValue := 0 }, { name := "IOOBE_FORMATTER", type := (.object "java/util/function/BiFunction"), accessFlags := 25, slot := 2, constantValue := 0 }]
  methods := #[k21m0]
  instanceTypes := #[]
  staticTypes := #[(.object "java/util/function/BiFunction"), (.object "java/util/function/BiFunction"), (.object "java/util/function/BiFunction")]
  resolved := Array.replicate 194 none
  statics := some 2 }

def pool22 : Array CpInfo := pool [(9, u "<init>"), (6, .class_ 18), (1, u "java/lang/Object"), (0, u "()V"), (1, .class_ 23), (1, u "jdk/internal/util/ArraysSupport"), (0, u "LOG2_ARRAY_LONG_INDEX_SCALE"), (0, u "I"), (2, u "U"), (0, u "Ljdk/internal/misc/Unsafe;"), (8, u "BIG_ENDIAN"), (0, u "Z"), (8, u "LOG2_BYTE_BIT_SIZE"), (4, u "LOG2_ARRAY_INT_INDEX_SCALE"), (54, u "JLA"), (0, u "Ljdk/internal/access/JavaLangAccess;"), (11, u "LOG2_ARRAY_BOOLEAN_INDEX_SCALE"), (9, u "LOG2_ARRAY_BYTE_INDEX_SCALE"), (5, u "LOG2_ARRAY_CHAR_INDEX_SCALE"), (5, u "LOG2_ARRAY_SHORT_INDEX_SCALE"), (18, u "LOG2_ARRAY_FLOAT_INDEX_SCALE"), (24, u "LOG2_ARRAY_DOUBLE_INDEX_SCALE"), (89, u "T_BOOLEAN"), (2, u "T_CHAR"), (1, u "T_FLOAT"), (1, u "T_DOUBLE"), (1, u "T_BYTE"), (1, u "T_SHORT"), (1, u "T_INT"), (1, u "T_LONG"), (1, u "SOFT_MAX_ARRAY_LENGTH")] 83

def k22m0 : Method := { name := "<init>", desc := "()V", sig := { parameters := [], returnType := none }, accessFlags := 2, code := none }
/-- jdk/internal/util/ArraysSupport -/
def k22 : Class := { plain "jdk/internal/util/ArraysSupport" (some 0) with
  accessFlags := 33
  interfaces := #[]
  cf := some (fileOf pool22 21 #[] #[{ accessFlags := 2, nameIndex := 9, descriptorIndex := 19, attributes := #[] }] 33 16 #[] #[{ accessFlags := 24, nameIndex := 28, descriptorIndex := 29, attributes := #[] }, { accessFlags := 26, nameIndex := 38, descriptorIndex := 39, attributes := #[] }, { accessFlags := 25, nameIndex := 121, descriptorIndex := 25, attributes := #[] }, { accessFlags := 25, nameIndex := 131, descriptorIndex := 25, attributes := #[] }, { accessFlags := 25, nameIndex := 137, descriptorIndex := 25, attributes := #[] }, { accessFlags := 25, nameIndex := 143, descriptorIndex := 25, attributes := #[] }, { accessFlags := 25, nameIndex := 53, descriptorIndex := 25, attributes := #[] }, { accessFlags := 25, nameIndex := 24, descriptorIndex := 25, attributes := #[] }, { accessFlags := 25, nameIndex := 162, descriptorIndex := 25, attributes := #[] }, { accessFlags := 25, nameIndex := 187, descriptorIndex := 25, attributes := #[] }, { accessFlags := 26, nameIndex := 48, descriptorIndex := 25, attributes := #[] }, { accessFlags := 25, nameIndex := 277, descriptorIndex := 25, attributes := #[] }, { accessFlags := 25, nameIndex := 280, descriptorIndex := 25, attributes := #[] }, { accessFlags := 25, nameIndex := 282, descriptorIndex := 25, attributes := #[] }, { accessFlags := 25, nameIndex := 284, descriptorIndex := 25, attributes := #[] }, { accessFlags := 25, nameIndex := 286, descriptorIndex := 25, attributes := #[] }, { accessFlags := 25, nameIndex := 288, descriptorIndex := 25, attributes := #[] }, { accessFlags := 25, nameIndex := 290, descriptorIndex := 25, attributes := #[] }, { accessFlags := 25, nameIndex := 292, descriptorIndex := 25, attributes := #[] }, { accessFlags := 26, nameIndex := 108, descriptorIndex := 109, attributes := #[] }, { accessFlags := 25, nameIndex := 294, descriptorIndex := 25, attributes := #[] }])
  fields := #[{ name := "U", type := (.object "jdk/internal/misc/Unsafe"), accessFlags := 24, slot := 0, constantValue := 0 }, { name := "BIG_ENDIAN", type := .boolean, accessFlags := 26, slot := 1, constantValue := 0 }, { name := "LOG2_ARRAY_BOOLEAN_INDEX_SCALE", type := .int, accessFlags := 25, slot := 2, constantValue := 0 }, { name := "LOG2_ARRAY_BYTE_INDEX_SCALE", type := .int, accessFlags := 25, slot := 3, constantValue := 0 }, { name := "LOG2_ARRAY_CHAR_INDEX_SCALE", type := .int, accessFlags := 25, slot := 4, constantValue := 0 }, { name := "LOG2_ARRAY_SHORT_INDEX_SCALE", type := .int, accessFlags := 25, slot := 5, constantValue := 0 }, { name := "LOG2_ARRAY_INT_INDEX_SCALE", type := .int, accessFlags := 25, slot := 6, constantValue := 0 }, { name := "LOG2_ARRAY_LONG_INDEX_SCALE", type := .int, accessFlags := 25, slot := 7, constantValue := 0 }, { name := "LOG2_ARRAY_FLOAT_INDEX_SCALE", type := .int, accessFlags := 25, slot := 8, constantValue := 0 }, { name := "LOG2_ARRAY_DOUBLE_INDEX_SCALE", type := .int, accessFlags := 25, slot := 9, constantValue := 0 }, { name := "LOG2_BYTE_BIT_SIZE", type := .int, accessFlags := 26, slot := 10, constantValue := 0 }, { name := "T_BOOLEAN", type := .int, accessFlags := 25, slot := 11, constantValue := 0 }, { name := "T_CHAR", type := .int, accessFlags := 25, slot := 12, constantValue := 0 }, { name := "T_FLOAT", type := .int, accessFlags := 25, slot := 13, constantValue := 0 }, { name := "T_DOUBLE", type := .int, accessFlags := 25, slot := 14, constantValue := 0 }, { name := "T_BYTE", type := .int, accessFlags := 25, slot := 15, constantValue := 0 }, { name := "T_SHORT", type := .int, accessFlags := 25, slot := 16, constantValue := 0 }, { name := "T_INT", type := .int, accessFlags := 25, slot := 17, constantValue := 0 }, { name := "T_LONG", type := .int, accessFlags := 25, slot := 18, constantValue := 0 }, { name := "JLA", type := (.object "jdk/internal/access/JavaLangAccess"), accessFlags := 26, slot := 19, constantValue := 0 }, { name := "SOFT_MAX_ARRAY_LENGTH", type := .int, accessFlags := 25, slot := 20, constantValue := 0 }]
  methods := #[k22m0]
  instanceTypes := #[]
  staticTypes := #[(.object "jdk/internal/misc/Unsafe"), .boolean, .int, .int, .int, .int, .int, .int, .int, .int, .int, .int, .int, .int, .int, .int, .int, .int, .int, (.object "jdk/internal/access/JavaLangAccess"), .int]
  resolved := Array.replicate 378 none
  statics := none }

def pool23 : Array CpInfo := pool [(2, .class_ 4), (1, u "java/util/AbstractCollection"), (0, u "<init>"), (0, u "()V"), (1, .class_ 10), (1, u "java/util/ImmutableCollections"), (2, .class_ 14), (0, u "java/util/ImmutableCollections$AbstractImmutableCollection")] 41

def k23m0 : Method := { name := "<init>", desc := "()V", sig := { parameters := [], returnType := none }, accessFlags := 0, code := none }
/-- java/util/ImmutableCollections$AbstractImmutableCollection -/
def k23 : Class := { plain "java/util/ImmutableCollections$AbstractImmutableCollection" (some 14) with
  accessFlags := 1056
  interfaces := #[]
  cf := some (fileOf pool23 13 #[.nestHost 8] #[{ accessFlags := 0, nameIndex := 5, descriptorIndex := 6, attributes := #[] }] 1056 2 #[] #[])
  fields := #[]
  methods := #[k23m0]
  instanceTypes := #[]
  staticTypes := #[]
  resolved := Array.replicate 56 none
  statics := none }

def pool24 : Array CpInfo := pool [(2, .class_ 4), (1, u "java/util/ImmutableCollections$AbstractImmutableCollection"), (0, u "<init>"), (0, u "()V"), (0, .class_ 8), (0, u "java/util/Set"), (7, .class_ 17), (0, u "java/util/ImmutableCollections$AbstractImmutableSet"), (43, .class_ 62), (0, u "java/util/ImmutableCollections")] 3

def k24m0 : Method := { name := "<init>", desc := "()V", sig := { parameters := [], returnType := none }, accessFlags := 0, code := none }
/-- java/util/ImmutableCollections$AbstractImmutableSet -/
def k24 : Class := { plain "java/util/ImmutableCollections$AbstractImmutableSet" (some 23) with
  accessFlags := 1056
  interfaces := #[12]
  cf := some (fileOf pool24 16 #[.nestHost 61] #[{ accessFlags := 0, nameIndex := 5, descriptorIndex := 6, attributes := #[] }] 1056 2 #[7] #[])
  fields := #[]
  methods := #[k24m0]
  instanceTypes := #[]
  staticTypes := #[]
  resolved := Array.replicate 66 none
  statics := none }

def pool25 : Array CpInfo := pool [(1, .class_ 2), (0, u "java/util/ImmutableCollections"), (1, .class_ 6), (1, u "java/util/ImmutableCollections$AbstractImmutableSet"), (3, .class_ 12), (1, u "java/util/ImmutableCollections$SetN"), (0, u "size"), (0, u "I"), (4, u "elements"), (0, u "[Ljava/lang/Object;"), (86, .class_ 108), (0, u "java/io/Serializable")] 59

/-- java/util/ImmutableCollections$SetN -/
def k25 : Class := { plain "java/util/ImmutableCollections$SetN" (some 24) with
  accessFlags := 48
  interfaces := #[3]
  cf := some (fileOf pool25 10 #[.nestHost 1] #[] 48 4 #[107] #[{ accessFlags := 16, nameIndex := 19, descriptorIndex := 20, attributes := #[] }, { accessFlags := 16, nameIndex := 13, descriptorIndex := 14, attributes := #[] }])
  fields := #[{ name := "elements", type := (.array (.object "java/lang/Object")), accessFlags := 16, slot := 0, constantValue := 0 }, { name := "size", type := .int, accessFlags := 16, slot := 1, constantValue := 0 }]
  methods := #[]
  instanceTypes := #[(.array (.object "java/lang/Object")), .int]
  staticTypes := #[]
  resolved := Array.replicate 168 none
  statics := none }

/-- the primitive byte -/
def k26 : Class := { plain "byte" none with kind := .primitive 'B', accessFlags := 0x411 }
/-- [B -/
def k27 : Class := { plain "[B" (some 0) with kind := .array 26 .byte, interfaces := #[16, 3], accessFlags := 1041 }

/-- the primitive int -/
def k28 : Class := { plain "int" none with kind := .primitive 'I', accessFlags := 0x411 }
/-- [I -/
def k29 : Class := { plain "[I" (some 0) with kind := .array 28 .int, interfaces := #[16, 3], accessFlags := 1041 }

/-- [Ljava/lang/Object; -/
def k30 : Class := { plain "[Ljava/lang/Object;" (some 0) with kind := .array 0 (.object "java/lang/Object"), interfaces := #[16, 3], accessFlags := 1041 }

def heap : Heap := #[{ cls := 8, slots := #[.long 0, .int 1, .null, .int 0, .null, .int 0, .int 0], vm := .statics 8 },
  { cls := 13, slots := #[.long 0, .int 0, .null, .null, .null, .null, .ref 4, .null, .int 0, .int 0], vm := .statics 13 },
  { cls := 21, slots := #[.null, .null, .null], vm := .statics 21 },
  { cls := 30, slots := #[], vm := .none },
  { cls := 25, slots := #[.ref 3, .int 0], vm := .none }]
def classes : Array Class := #[k0, k1, k2, k3, k4, k5, k6, k7, k8, k9, k10, k11, k12, k13, k14, k15, k16, k17, k18, k19, k20, k21, k22, k23, k24, k25, k26, k27, k28, k29, k30]
def interned : List (Array UInt16 × Addr) := []
def slotsUsed : Nat := 22
def theMethod : MethodId := ⟨1, 1⟩
def args0 : Array Value := #[.int 5, .int 7]
def aboutOver (below : List Frame) : State where
  vm := { classes := classes, interned := interned.toArray }
  heap := heap
  slotsUsed := slotsUsed
  threads := #[{ frames := .invoking theMethod args0 :: below }]
def below0 : List Frame := [.native { method := ⟨0, 0⟩, args := #[] }]
def about1 : State := aboutOver below0
def p0 : Program := .bare "" "" ""
def e0 : Env := launch0.env 0 0 0
theorem w_frames : about1.frames = Frame.invoking theMethod args0 :: below0 := rfl
set_option maxRecDepth 65536 in
theorem w_args : argsFit about1.vm theMethod args0 = true := by decide +kernel
set_option maxRecDepth 65536 in
theorem w_heap : heapFits about1 = true := by decide +kernel
set_option maxRecDepth 65536 in
theorem w_runnable : about1.curStatus? = some .runnable := by decide +kernel
set_option maxRecDepth 65536 in
theorem w_alone : about1.alone = true := by decide +kernel
set_option maxRecDepth 65536 in
theorem w_named : about1.methodNamed? x = some theMethod := by decide +kernel
set_option maxRecDepth 65536 in
theorem w_hears : about1.hears theMethod below0 = true := by decide +kernel
set_option maxRecDepth 65536 in
theorem w_ripe : about1.ripe theMethod args0 below0 = true := by decide +kernel
theorem w_running : about1.status = .running := rfl
set_option maxRecDepth 65536 in
theorem w_room : about1.hasRoom e0.platform room_1 = true :=
  launch0.hasRoom_least _ room_1 (by decide +kernel) (by decide +kernel) (by decide +kernel) (by decide +kernel) (by decide +kernel) (by decide +kernel)
theorem allAtoms_all (ts : List Jvm.Cond) (a : Array Jvm.Value) (st : Jvm.State) : (allAtoms ts).before a st = ts.all (fun c => c.before a st) := by
  induction ts with
  | nil => rfl
  | cons c t ih =>
    show (Jvm.Cond.and c (allAtoms t)).before a st = _
    rw [Jvm.Cond.before_and, ih, List.all_cons]
def words1 : List Jvm.Cond := Jvm.Cond.code x code maxLocals ret :: tables_1
/-- a 'code' word, met by the world's own term for the bytes: nothing is compared byte by byte -/
theorem code_word {y : MethodName} {bytes : ByteArray} {mx : Nat} {rt : Option FieldType} {a : Array Value} {s : State} {m : MethodId} {meth : Method} {c : Code} (h1 : s.methodNamed? y = some m) (h2 : s.vm.method? m = some meth) (h3 : meth.code = some c) (h4 : c.code = bytes)
    (h5 : (c.maxLocals == mx && c.exceptionTable.isEmpty && decide (c.maxStack ≤ mostOperands) && decide (meth.sig.returnType = rt) && !meth.locks && decide (parseMethodDescriptor y.desc = some meth.sig)) = true) : (Jvm.Cond.code y bytes mx rt).before a s = true := by
  simp only [Bool.and_eq_true, beq_iff_eq, Bool.not_eq_true', decide_eq_true_eq] at h5
  obtain ⟨⟨⟨⟨⟨g1, g2⟩, g3⟩, g4⟩, g5⟩, g6⟩ := h5
  simp [Cond.before, Cond.holds, Cond.value, h1, h2, h3, h4, g1, g2, g3, g4, g5, g6]
def isCode : Jvm.Cond → Bool
  | .code _ _ _ _ => true
  | _ => false
theorem all_split {L : List Jvm.Cond} {P : Jvm.Cond → Bool} (h1 : L.all (fun c => isCode c || P c) = true) (h2 : ∀ c ∈ L.filter isCode, P c = true) : L.all P = true := by
  refine List.all_eq_true.mpr fun c hc => ?_
  have h := List.all_eq_true.mp h1 c hc
  rcases Bool.eq_false_or_eq_true (isCode c) with hi | hi
  · exact h2 c (List.mem_filter.mpr ⟨hc, hi⟩)
  · simpa [hi] using h
set_option maxRecDepth 65536 in
theorem w_c0 : (Jvm.Cond.code x code maxLocals ret).before args0 about1 = true := code_word (m := ⟨1, 1⟩) (meth := k1m1) (c := k1c1) (by decide +kernel) rfl rfl rfl (by decide +kernel)
set_option maxRecDepth 65536 in
theorem w_c1 : (Jvm.Cond.code ({ cls := "java/lang/String", name := "valueOf", desc := "(C)Ljava/lang/String;" } : Jvm.MethodName) jdk_42_method_139_code (1 : Nat) (Option.some (Jvm.ClassFile.FieldType.object "java/lang/String"))).before args0 about1 = true := code_word (m := ⟨8, 1⟩) (meth := k8m1) (c := k8c1) (by decide +kernel) rfl rfl rfl (by decide +kernel)
set_option maxRecDepth 65536 in
theorem w_c2 : (Jvm.Cond.code ({ cls := "java/lang/StringLatin1", name := "canEncode", desc := "(C)Z" } : Jvm.MethodName) jdk_43_method_3_code (1 : Nat) (Option.some Jvm.ClassFile.FieldType.boolean)).before args0 about1 = true := code_word (m := ⟨9, 1⟩) (meth := k9m1) (c := k9c1) (by decide +kernel) rfl rfl rfl (by decide +kernel)
set_option maxRecDepth 65536 in
theorem w_c3 : (Jvm.Cond.code ({ cls := "java/lang/StringLatin1", name := "toBytes", desc := "(C)[B" } : Jvm.MethodName) jdk_43_method_46_code (1 : Nat) (Option.some (Jvm.ClassFile.FieldType.array Jvm.ClassFile.FieldType.byte))).before args0 about1 = true := code_word (m := ⟨9, 2⟩) (meth := k9m2) (c := k9c2) (by decide +kernel) rfl rfl rfl (by decide +kernel)
set_option maxRecDepth 65536 in
theorem w_c4 : (Jvm.Cond.code ({ cls := "java/lang/String", name := "<init>", desc := "([BB)V" } : Jvm.MethodName) jdk_42_method_151_code (3 : Nat) (Option.none : Option Jvm.ClassFile.FieldType)).before args0 about1 = true := code_word (m := ⟨8, 2⟩) (meth := k8m2) (c := k8c2) (by decide +kernel) rfl rfl rfl (by decide +kernel)
set_option maxRecDepth 65536 in
theorem w_c5 : (Jvm.Cond.code ({ cls := "java/lang/Object", name := "<init>", desc := "()V" } : Jvm.MethodName) object_method_1_code (1 : Nat) (Option.none : Option Jvm.ClassFile.FieldType)).before args0 about1 = true := code_word (m := ⟨0, 0⟩) (meth := k0m0) (c := k0c0) (by decide +kernel) rfl rfl rfl (by decide +kernel)
set_option maxRecDepth 65536 in
theorem w_c6 : (Jvm.Cond.code ({ cls := "com/example/actd/actd/lifecycle/AppProcess", name := "<init>", desc := "(Ljava/lang/String;)V" } : Jvm.MethodName) prog_19_method_1_code (2 : Nat) (Option.none : Option Jvm.ClassFile.FieldType)).before args0 about1 = true := code_word (m := ⟨2, 0⟩) (meth := k2m0) (c := k2c0) (by decide +kernel) rfl rfl rfl (by decide +kernel)
set_option maxRecDepth 65536 in
theorem w_c7 : (Jvm.Cond.code ({ cls := "java/util/Set", name := "of", desc := "()Ljava/util/Set;" } : Jvm.MethodName) jdk_96_method_17_code (0 : Nat) (Option.some (Jvm.ClassFile.FieldType.object "java/util/Set"))).before args0 about1 = true := code_word (m := ⟨12, 0⟩) (meth := k12m0) (c := k12c0) (by decide +kernel) rfl rfl rfl (by decide +kernel)
set_option maxRecDepth 65536 in
theorem w_c8 : (Jvm.Cond.code ({ cls := "java/util/HashSet", name := "<init>", desc := "()V" } : Jvm.MethodName) jdk_93_method_1_code (1 : Nat) (Option.none : Option Jvm.ClassFile.FieldType)).before args0 about1 = true := code_word (m := ⟨17, 0⟩) (meth := k17m0) (c := k17c0) (by decide +kernel) rfl rfl rfl (by decide +kernel)
set_option maxRecDepth 65536 in
theorem w_c9 : (Jvm.Cond.code ({ cls := "java/util/AbstractSet", name := "<init>", desc := "()V" } : Jvm.MethodName) jdk_91_method_1_code (1 : Nat) (Option.none : Option Jvm.ClassFile.FieldType)).before args0 about1 = true := code_word (m := ⟨15, 0⟩) (meth := k15m0) (c := k15c0) (by decide +kernel) rfl rfl rfl (by decide +kernel)
set_option maxRecDepth 65536 in
theorem w_c10 : (Jvm.Cond.code ({ cls := "java/util/AbstractCollection", name := "<init>", desc := "()V" } : Jvm.MethodName) jdk_22_method_1_code (1 : Nat) (Option.none : Option Jvm.ClassFile.FieldType)).before args0 about1 = true := code_word (m := ⟨14, 0⟩) (meth := k14m0) (c := k14c0) (by decide +kernel) rfl rfl rfl (by decide +kernel)
set_option maxRecDepth 65536 in
theorem w_c11 : (Jvm.Cond.code ({ cls := "java/util/HashMap", name := "<init>", desc := "()V" } : Jvm.MethodName) jdk_69_method_7_code (1 : Nat) (Option.none : Option Jvm.ClassFile.FieldType)).before args0 about1 = true := code_word (m := ⟨20, 0⟩) (meth := k20m0) (c := k20c0) (by decide +kernel) rfl rfl rfl (by decide +kernel)
set_option maxRecDepth 65536 in
theorem w_c12 : (Jvm.Cond.code ({ cls := "java/util/AbstractMap", name := "<init>", desc := "()V" } : Jvm.MethodName) jdk_71_method_1_code (1 : Nat) (Option.none : Option Jvm.ClassFile.FieldType)).before args0 about1 = true := code_word (m := ⟨19, 0⟩) (meth := k19m0) (c := k19c0) (by decide +kernel) rfl rfl rfl (by decide +kernel)
set_option maxRecDepth 65536 in
theorem w_c13 : (Jvm.Cond.code ({ cls := "com/example/actd/actd/lifecycle/AppProcess", name := "getMissedDeadlines", desc := "()I" } : Jvm.MethodName) prog_19_method_10_code (1 : Nat) (Option.some Jvm.ClassFile.FieldType.int)).before args0 about1 = true := code_word (m := ⟨2, 1⟩) (meth := k2m1) (c := k2c1) (by decide +kernel) rfl rfl rfl (by decide +kernel)
set_option maxRecDepth 65536 in
theorem w_c14 : (Jvm.Cond.code ({ cls := "com/example/actd/actd/lifecycle/AppProcessMissDeadlinePinLaw", name := "step", desc := "(Lcom/example/actd/actd/lifecycle/AppProcess;ZI)I" } : Jvm.MethodName) method_3_code (4 : Nat) (Option.some Jvm.ClassFile.FieldType.int)).before args0 about1 = true := code_word (m := ⟨1, 2⟩) (meth := k1m2) (c := k1c2) (by decide +kernel) rfl rfl rfl (by decide +kernel)
set_option maxRecDepth 65536 in
theorem w_c15 : (Jvm.Cond.code ({ cls := "com/example/actd/actd/lifecycle/AppProcess", name := "reported", desc := "()V" } : Jvm.MethodName) prog_19_method_12_code (1 : Nat) (Option.none : Option Jvm.ClassFile.FieldType)).before args0 about1 = true := code_word (m := ⟨2, 3⟩) (meth := k2m3) (c := k2c3) (by decide +kernel) rfl rfl rfl (by decide +kernel)
set_option maxRecDepth 65536 in
theorem w_c16 : (Jvm.Cond.code ({ cls := "com/example/actd/actd/lifecycle/AppProcess", name := "missDeadline", desc := "()I" } : Jvm.MethodName) prog_19_method_11_code (1 : Nat) (Option.some Jvm.ClassFile.FieldType.int)).before args0 about1 = true := code_word (m := ⟨2, 2⟩) (meth := k2m2) (c := k2c2) (by decide +kernel) rfl rfl rfl (by decide +kernel)
def codes1 : List Jvm.Cond := [Jvm.Cond.code x code maxLocals ret, Jvm.Cond.code ({ cls := "java/lang/String", name := "valueOf", desc := "(C)Ljava/lang/String;" } : Jvm.MethodName) jdk_42_method_139_code (1 : Nat) (Option.some (Jvm.ClassFile.FieldType.object "java/lang/String")), Jvm.Cond.code ({ cls := "java/lang/StringLatin1", name := "canEncode", desc := "(C)Z" } : Jvm.MethodName) jdk_43_method_3_code (1 : Nat) (Option.some Jvm.ClassFile.FieldType.boolean), Jvm.Cond.code ({ cls := "java/lang/StringLatin1", name := "toBytes", desc := "(C)[B" } : Jvm.MethodName) jdk_43_method_46_code (1 : Nat) (Option.some (Jvm.ClassFile.FieldType.array Jvm.ClassFile.FieldType.byte)), Jvm.Cond.code ({ cls := "java/lang/String", name := "<init>", desc := "([BB)V" } : Jvm.MethodName) jdk_42_method_151_code (3 : Nat) (Option.none : Option Jvm.ClassFile.FieldType), Jvm.Cond.code ({ cls := "java/lang/Object", name := "<init>", desc := "()V" } : Jvm.MethodName) object_method_1_code (1 : Nat) (Option.none : Option Jvm.ClassFile.FieldType), Jvm.Cond.code ({ cls := "com/example/actd/actd/lifecycle/AppProcess", name := "<init>", desc := "(Ljava/lang/String;)V" } : Jvm.MethodName) prog_19_method_1_code (2 : Nat) (Option.none : Option Jvm.ClassFile.FieldType), Jvm.Cond.code ({ cls := "java/util/Set", name := "of", desc := "()Ljava/util/Set;" } : Jvm.MethodName) jdk_96_method_17_code (0 : Nat) (Option.some (Jvm.ClassFile.FieldType.object "java/util/Set")), Jvm.Cond.code ({ cls := "java/util/HashSet", name := "<init>", desc := "()V" } : Jvm.MethodName) jdk_93_method_1_code (1 : Nat) (Option.none : Option Jvm.ClassFile.FieldType), Jvm.Cond.code ({ cls := "java/util/AbstractSet", name := "<init>", desc := "()V" } : Jvm.MethodName) jdk_91_method_1_code (1 : Nat) (Option.none : Option Jvm.ClassFile.FieldType), Jvm.Cond.code ({ cls := "java/util/AbstractCollection", name := "<init>", desc := "()V" } : Jvm.MethodName) jdk_22_method_1_code (1 : Nat) (Option.none : Option Jvm.ClassFile.FieldType), Jvm.Cond.code ({ cls := "java/util/HashMap", name := "<init>", desc := "()V" } : Jvm.MethodName) jdk_69_method_7_code (1 : Nat) (Option.none : Option Jvm.ClassFile.FieldType), Jvm.Cond.code ({ cls := "java/util/AbstractMap", name := "<init>", desc := "()V" } : Jvm.MethodName) jdk_71_method_1_code (1 : Nat) (Option.none : Option Jvm.ClassFile.FieldType), Jvm.Cond.code ({ cls := "com/example/actd/actd/lifecycle/AppProcess", name := "getMissedDeadlines", desc := "()I" } : Jvm.MethodName) prog_19_method_10_code (1 : Nat) (Option.some Jvm.ClassFile.FieldType.int), Jvm.Cond.code ({ cls := "com/example/actd/actd/lifecycle/AppProcessMissDeadlinePinLaw", name := "step", desc := "(Lcom/example/actd/actd/lifecycle/AppProcess;ZI)I" } : Jvm.MethodName) method_3_code (4 : Nat) (Option.some Jvm.ClassFile.FieldType.int), Jvm.Cond.code ({ cls := "com/example/actd/actd/lifecycle/AppProcess", name := "reported", desc := "()V" } : Jvm.MethodName) prog_19_method_12_code (1 : Nat) (Option.none : Option Jvm.ClassFile.FieldType), Jvm.Cond.code ({ cls := "com/example/actd/actd/lifecycle/AppProcess", name := "missDeadline", desc := "()I" } : Jvm.MethodName) prog_19_method_11_code (1 : Nat) (Option.some Jvm.ClassFile.FieldType.int)]
set_option maxRecDepth 65536 in
theorem codes_eq : words1.filter isCode = codes1 := rfl
theorem w_codes : ∀ c ∈ words1.filter isCode, c.before args0 about1 = true := by
  rw [codes_eq]
  intro c hc
  simp only [codes1, List.mem_cons, List.not_mem_nil, or_false] at hc
  rcases hc with rfl | rfl | rfl | rfl | rfl | rfl | rfl | rfl | rfl | rfl | rfl | rfl | rfl | rfl | rfl | rfl | rfl
  · exact w_c0
  · exact w_c1
  · exact w_c2
  · exact w_c3
  · exact w_c4
  · exact w_c5
  · exact w_c6
  · exact w_c7
  · exact w_c8
  · exact w_c9
  · exact w_c10
  · exact w_c11
  · exact w_c12
  · exact w_c13
  · exact w_c14
  · exact w_c15
  · exact w_c16
set_option maxRecDepth 65536 in
theorem w_t1 : (words1.take 24).all (fun c => isCode c || c.before args0 about1) = true := by decide +kernel
set_option maxRecDepth 65536 in
theorem w_t2 : ((words1.drop 24).take 24).all (fun c => isCode c || c.before args0 about1) = true := by decide +kernel
set_option maxRecDepth 65536 in
theorem w_t3 : (((words1.drop 24).drop 24).take 24).all (fun c => isCode c || c.before args0 about1) = true := by decide +kernel
set_option maxRecDepth 65536 in
theorem w_t4 : ((((words1.drop 24).drop 24).drop 24).take 24).all (fun c => isCode c || c.before args0 about1) = true := by decide +kernel
set_option maxRecDepth 65536 in
theorem w_t5 : ((((words1.drop 24).drop 24).drop 24).drop 24).all (fun c => isCode c || c.before args0 about1) = true := by decide +kernel
theorem w_tables : (allAtoms (Jvm.Cond.code x code maxLocals ret :: tables_1)).before args0 about1 = true := by
  rw [allAtoms_all]
  show words1.all (fun c => c.before args0 about1) = true
  refine all_split ?_ w_codes
  rw [← List.take_append_drop 24 words1, List.all_append, w_t1, ← List.take_append_drop 24 (words1.drop 24), List.all_append, w_t2, ← List.take_append_drop 24 ((words1.drop 24).drop 24), List.all_append, w_t3, ← List.take_append_drop 24 (((words1.drop 24).drop 24).drop 24), List.all_append, w_t4, w_t5]
  rfl
set_option maxRecDepth 65536 in
theorem w_rest : rest_1_c.before args0 about1 = true := by decide +kernel
set_option maxRecDepth 65536 in
theorem w_case : (Jvm.Cond.and given_1 narrow_1).before args0 about1 = true := by decide +kernel
theorem w_applies : (headSpec (Jvm.Cond.code x code maxLocals ret :: tables_1) room_1).applies x e0.platform about1 = true :=
  (Spec.applies_iff w_frames).mpr ⟨w_running, w_runnable, w_alone, w_named, w_hears, w_ripe, w_room, w_tables⟩
theorem atStart : AtStart classFile x code maxLocals ret World_1 tables_1 room_1 Calls_1 rest_1 Pre_1 launch0 p0 e0 about1 theMethod args0 below0 :=
  ⟨lists_1, trivial, launch0.admits_env _ _ _, launch0.least_env, fairChoices_fair.cas, fairChoices_fair.clock, w_frames, w_args, w_heap, w_applies, trivial, w_rest, w_case⟩
end start1
theorem witness_1 : WitnessClaimed_1 := ⟨start1.p0, start1.e0, start1.about1, start1.theMethod, start1.args0, start1.below0, start1.atStart⟩
end Jvm.Pilot.@@N@@
