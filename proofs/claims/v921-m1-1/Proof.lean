import JvmDerived
import JvmDerived.Pilot.@@N@@Statement
import JvmDerived.Pilot.@@N@@Code
set_option linter.unusedVariables false
set_option linter.unusedSimpArgs false
namespace Jvm.RoadKit
open Sem ClassFile Op Lib Jvm.Stand Jvm.Free Jvm.LawKit
section Own
variable {p : Program} {l : Launch} {e : Env} {R : Room} {s : State} {m : MethodId} {args : Array Value} {below : List Frame} {meth : Method} {c : Code} {T : State} {locs : List Loc} {cells slots : Nat} {Z : State} {a0 : Array Value} {h h' h2 : Heap}
/-- what is left to show of a walk that stands at S -/
def OEnds (p : Program) (e : Env) (below : List Frame) (s : State) (K N : Nat) (Qf : Option Value → Heap → List Loc → Prop) (S : State) : Prop :=
  ∃ s₂ o, Steps p.tables e below S s₂ ∧ s₂.status = .running ∧ Ended s₂ below o ∧ ∃ v L, o = .returned v ∧ Qf v s₂.heap L ∧ FrameEnd s o s₂ L K N
variable {K N : Nat} {Qf : Option Value → Heap → List Loc → Prop}
theorem OEnds.st {S S' : State} (k : ∀ t, Steps p.tables e below S' t → Steps p.tables e below S t) (h : OEnds p e below s K N Qf S') : OEnds p e below s K N Qf S := by
  obtain ⟨s2, o, h1, r⟩ := h
  exact ⟨s2, o, k _ h1, r⟩
theorem OEnds.cast {g g' : JFrame} (q : g = g') (k : OEnds p e below s K N Qf (T.setTop g')) : OEnds p e below s K N Qf (T.setTop g) := q ▸ k
theorem OEnds.ret (X : Stand p l e R s m args below meth c T locs cells slots) (hx : p.tables.exec = Jvm.exec) {pc : Nat} {Ls : Array Slot} {w : Value} {t : FieldType} {i : Instr} {rest : List Value} (hret : meth.sig.returnType = some t) (hlk : meth.locks = false) (hn : narrow t w = w)
    (hi : (i = .ireturn ∧ (t = .int ∨ t = .boolean ∨ t = .byte ∨ t = .char ∨ t = .short) ∧ ∃ z, w = .int z) ∨ (i = .lreturn ∧ t = .long ∧ ∃ z, w = .long z) ∨ (i = .dreturn ∧ t = .double ∧ ∃ z, w = .double z) ∨ (i = .freturn ∧ t = .float ∧ ∃ z, w = .float z) ∨ (i = .areturn ∧ t.isReference = true ∧ w.isRef = true))
    (hd : decode c.code pc = .ok (i, 1)) (hc : cells ≤ K) (hs : slots ≤ N) (q : Qf (some w) T.heap locs) : OEnds p e below s K N Qf (T.setTop (mkF m pc Ls (w :: rest))) := by
  obtain ⟨fs, hr, hrun, hended, hW, hsame⟩ := X.leave (v := some w) (fun h => by rw [hret] at h; cases h) hlk
  exact ⟨_, _, retOut X hx hret hn hi hd hr, hrun, hended, _, _, rfl, q, ⟨_, rfl⟩, hW, hsame.mono hc hs⟩
theorem OEnds.retV (X : Stand p l e R s m args below meth c T locs cells slots) (hx : p.tables.exec = Jvm.exec) {pc : Nat} {Ls : Array Slot} (hret : meth.sig.returnType = none) (hlk : meth.locks = false)
    (hd : decode c.code pc = .ok (.return_, 1)) (hc : cells ≤ K) (hs : slots ≤ N) (q : Qf none T.heap locs) : OEnds p e below s K N Qf (T.setTop (mkF m pc Ls [])) := by
  obtain ⟨fs, hr, hrun, hended, hW, hsame⟩ := X.leave (v := none) (fun _ => rfl) hlk
  exact ⟨_, _, X.returnOut hx hret hd hr, hrun, hended, _, _, rfl, q, ⟨_, rfl⟩, hW, hsame.mono hc hs⟩
/-- a contract -/
def Con (l : Launch) (Z : State) (y : MethodName) (bytes : ByteArray) (maxL : Nat) (ret : Option FieldType) (ws : List Cond) (rm : Room) (as' : Array Value) (h0 : Heap) (Q : Option Value → Heap → List Loc → Prop) : Prop :=
  MetFree l y (head1 (Cond.code y bytes maxL ret :: ws) rm) (fun a U => a = as' ∧ Z.Warmed39 U.vm ∧ U.heap = h0) (fun _ _ _ _ _ => True) (fun _ U o U' => ∃ v L, o = .returned v ∧ Q v U'.heap L ∧ FrameEnd U o U' L rm.cells rm.slots)
variable {y : MethodName} {bytes : ByteArray} {maxL : Nat} {ret : Option FieldType} {ws : List Cond} {rm : Room} {as' : Array Value} {h0 : Heap} {Q : Option Value → Heap → List Loc → Prop}
theorem Con.walk (hpl : plainFor y = true) (body : ∀ (p : Program) (e : Env) (s : State) (m : MethodId) (below : List Frame) (meth : Method) (c : Code) (T : State), Stand p l e rm s m as' below meth c T [] 0 0 → p.tables.exec = Jvm.exec → Z.Warmed39 s.vm → c.code = bytes → c.maxLocals = maxL →
      s.vm.findClass y.cls = some m.cls → meth.name = y.name → meth.sig.returnType = ret → meth.locks = false → T.heap = h0 → OEnds p e below s rm.cells rm.slots Q (T.setTop (entryFrame m as' maxL))) : Con l Z y bytes maxL ret ws rm as' h0 Q := by
  refine MetFree.of_bodySF hpl hisR ?_
  intro p e s m args below meth c s₁ Bd hml0 hP hK
  obtain ⟨rfl, hZ, hh⟩ := hP
  exact body p e s m below meth c s₁ (Stand.of_body Bd) Bd.exec hZ Bd.bytes hml0 (findClass_of_methodNamed Bd.named) (name_of_methodNamed Bd.named Bd.method).1 Bd.returns Bd.notSynchronized (by rw [← hh, Bd.state]; rfl)
/-- who pays a call, in the one form of this text -/
def SB (l : Launch) (R : Room) (p : Program) (e : Env) (below : List Frame) (s : State) (args : Array Value) (y : MethodName) (len W : Nat) (as' : Array Value) (h : Heap) (Q : Option Value → Heap → List Loc → Prop) (kc ks : Nat) : Prop :=
  Back l R p e below s args y len W (fun A a => a = as' ∧ A.U.heap = h ∧ A.cells + kc ≤ R.cells ∧ A.slots + ks ≤ R.slots) (fun A _ v B => ∃ L, Q v B.U.heap L ∧ B.locs = A.locs ++ L ∧ B.cells = A.cells + kc ∧ B.slots = A.slots + ks)
theorem Con.sb {len W : Nat} (hM : Con l Z y bytes maxL ret [] rm as' h Q) (hZ : Z.Warmed39 s.vm) (wc : (Cond.code y bytes maxL ret).before a0 Z = true) (wz : (Cond.initialized y.cls).before a0 Z = true) (hf : rm.frames + 1 ≤ R.frames) (hl : W + (maxL + 11) + rm.locals ≤ R.locals) :
    SB l R p e below s args y len W as' h Q rm.cells rm.slots := backOf hM hZ wc wz hf hl
theorem SB.of {len W kc ks : Nat} (hB : Back l R p e below s args y len W (fun A a => a = as' ∧ A.U.heap = h ∧ A.cells + kc ≤ R.cells ∧ A.slots + ks ≤ R.slots) (fun A _ v B => ∃ L, Q v B.U.heap L ∧ B.locs = A.locs ++ L ∧ B.cells = A.cells + kc ∧ B.slots = A.slots + ks)) : SB l R p e below s args y len W as' h Q kc ks := hB
theorem SB.mono {len W kc ks : Nat} {Q' : Option Value → Heap → List Loc → Prop} (hB : SB l R p e below s args y len W as' h Q kc ks) (f : ∀ v h' L, Q v h' L → Q' v h' L) : SB l R p e below s args y len W as' h Q' kc ks :=
  Back.mono hB (fun _ _ q => q) (fun _ _ _ _ _ ⟨L, q, r⟩ => ⟨L, f _ _ _ q, r⟩)
theorem callC (X : Stand p l e R s m args below meth c T locs cells slots) (hx : p.tables.exec = Jvm.exec) (hZ : Z.Warmed39 s.vm) {own : String} {index : Nat} {y : MethodName} {bytes : ByteArray} {maxL : Nat} {ret : Option FieldType}
    (hown : s.vm.findClass own = some m.cls) (w1 : (Cond.methodLink own index y).before a0 Z = true) (w2 : (Cond.static y).before a0 Z = true) (w3 : (Cond.initialized y.cls).before a0 Z = true)
    (w4 : (Cond.code y bytes maxL ret).before a0 Z = true) (hy : y.cls ≠ "java/lang/invoke/MethodHandle" ∧ y.cls ≠ "java/lang/invoke/VarHandle") {argsL rest : List Value} {W kc ks : Nat} (hK : SB l R p e below s args y 3 W argsL.toArray h Q kc ks) (eT : T.heap = h)
    {g : JFrame} (hg : g.method = m) (hsize : g.locals.size = c.maxLocals) (hlen : ∀ sig, parseMethodDescriptor y.desc = some sig → argsL.length = sig.parameters.length)
    (hstack : g.stack = argsL.reverse ++ rest) (hW : 2 * g.monitorRoom + (rest.map fun v => v.category).sum ≤ W) (hdg : decode c.code g.pc = .ok (.invokestatic index, 3)) (hc : cells + kc ≤ R.cells) (hs : slots + ks ≤ R.slots) :
    ∃ (v : Option Value) (T' : State) (h' : Heap) (L : List Loc), Stand p l e R s m args below meth c T' (locs ++ L) (cells + kc) (slots + ks) ∧ T'.heap = h' ∧ Q v h' L ∧
      ∀ target, Steps p.tables e below (T'.setTop { g with pc := g.pc + 3, stack := v.toList ++ rest }) target → Steps p.tables e below (T.setTop g) target := by
  obtain ⟨v, vm, ⟨T', L', k', n'⟩, -, X', ⟨L, hQ, l1, y1, z1⟩, st⟩ := Jvm.LawKit.callS X hx hown (mvT hZ w1) (mvT hZ w2) (mvT hZ w3) (mvT hZ w4) hy hK hg hsize hlen hstack hW hdg (fun _ _ => ⟨rfl, eT, hc, hs⟩)
  dsimp only [Pt.U, Pt.locs, Pt.cells, Pt.slots] at X' l1 y1 z1 st hQ
  subst l1 y1 z1
  exact ⟨v, T', _, L, X', rfl, hQ, st⟩
theorem specC (X : Stand p l e R s m args below meth c T locs cells slots) (hx : p.tables.exec = Jvm.exec) (hZ : Z.Warmed39 s.vm) {own : String} {index : Nat} {y : MethodName} {bytes : ByteArray} {maxL : Nat} (hy1 : y.name = "<init>")
    (hown : s.vm.findClass own = some m.cls) (w1 : (Cond.methodLink own index y).before a0 Z = true) (w2 : (Cond.instanceMethod y).before a0 Z = true)
    (w4 : (Cond.code y bytes maxL none).before a0 Z = true) (hy : y.cls ≠ "java/lang/invoke/MethodHandle" ∧ y.cls ≠ "java/lang/invoke/VarHandle") {a : Addr} {argsL rest : List Value} {W kc ks : Nat} (hK : SB l R p e below s args y 3 W (.ref a :: argsL).toArray h Q kc ks) (eT : T.heap = h)
    {g : JFrame} (hg : g.method = m) (hsize : g.locals.size = c.maxLocals) (hlen : ∀ sig, parseMethodDescriptor y.desc = some sig → argsL.length = sig.parameters.length)
    (hstack : g.stack = argsL.reverse ++ .ref a :: rest) (hW : 2 * g.monitorRoom + (rest.map fun v => v.category).sum ≤ W) (hdg : decode c.code g.pc = .ok (.invokespecial index, 3)) (hc : cells + kc ≤ R.cells) (hs : slots + ks ≤ R.slots) :
    ∃ (v : Option Value) (T' : State) (h' : Heap) (L : List Loc), Stand p l e R s m args below meth c T' (locs ++ L) (cells + kc) (slots + ks) ∧ T'.heap = h' ∧ Q v h' L ∧
      ∀ target, Steps p.tables e below (T'.setTop { g with pc := g.pc + 3, stack := v.toList ++ rest }) target → Steps p.tables e below (T.setTop g) target := by
  obtain ⟨v, vm, ⟨T', L', k', n'⟩, -, X', ⟨L, hQ, l1, y1, z1⟩, st⟩ := X.specialBack hx hy1 hown (mvT hZ w1) (mvT hZ w2) (mvT hZ w4) hy hK hg hsize (Steps.refl _) hlen hstack hW hdg (fun _ _ => ⟨rfl, eT, hc, hs⟩)
  dsimp only [Pt.U, Pt.locs, Pt.cells, Pt.slots] at X' l1 y1 z1 st hQ
  subst l1 y1 z1
  exact ⟨v, T', _, L, X', rfl, hQ, fun _ k => st.trans k⟩
theorem virtC (X : Stand p l e R s m args below meth c T locs cells slots) (hx : p.tables.exec = Jvm.exec) (hZ : Z.Warmed39 s.vm) {own C : String} {index : Nat} {y z : MethodName}
    (hown : s.vm.findClass own = some m.cls) (w1 : (Cond.methodLink own index y).before a0 Z = true) (w2 : (Cond.declares y).before a0 Z = true) (hnf : NotFace s y) (w3 : (Cond.selects C y z).before a0 Z = true) (w4 : (Cond.instanceMethod z).before a0 Z = true)
    (hy : y.cls ≠ "java/lang/invoke/MethodHandle" ∧ y.cls ≠ "java/lang/invoke/VarHandle") {a : Addr} {argsL rest : List Value} {W kc ks : Nat} (hK : SB l R p e below s args z 3 W (.ref a :: argsL).toArray h Q kc ks) (eT : T.heap = h) (E : Exa Z h a C)
    {g : JFrame} (hg : g.method = m) (hsize : g.locals.size = c.maxLocals) (hlen : ∀ sig, parseMethodDescriptor y.desc = some sig → argsL.length = sig.parameters.length)
    (hstack : g.stack = argsL.reverse ++ .ref a :: rest) (hW : 2 * g.monitorRoom + (rest.map fun v => v.category).sum ≤ W) (hdg : decode c.code g.pc = .ok (.invokevirtual index, 3)) (hc : cells + kc ≤ R.cells) (hs : slots + ks ≤ R.slots) :
    ∃ (v : Option Value) (T' : State) (h' : Heap) (L : List Loc), Stand p l e R s m args below meth c T' (locs ++ L) (cells + kc) (slots + ks) ∧ T'.heap = h' ∧ Q v h' L ∧
      ∀ target, Steps p.tables e below (T'.setTop { g with pc := g.pc + 3, stack := v.toList ++ rest }) target → Steps p.tables e below (T.setTop g) target := by
  obtain ⟨cq, kq, qa, qb, qc⟩ := isOf hZ eT E
  obtain ⟨v, vm, ⟨T', L', k', n'⟩, -, X', ⟨L, hQ, l1, y1, z1⟩, st⟩ := X.virtualBack hx hown (mvT hZ w1) (mvT hZ w2) hnf (mvT hZ w3) (mvT hZ w4) hy hK qa qc hg hsize (Steps.refl _) hlen hstack hW hdg (fun _ _ => ⟨rfl, eT, hc, hs⟩)
  dsimp only [Pt.U, Pt.locs, Pt.cells, Pt.slots] at X' l1 y1 z1 st hQ
  subst l1 y1 z1
  exact ⟨v, T', _, L, X', rfl, hQ, fun _ k => st.trans k⟩
theorem faceC (X : Stand p l e R s m args below meth c T locs cells slots) (hx : p.tables.exec = Jvm.exec) (hZ : Z.Warmed39 s.vm) {own C : String} {index count : Nat} {xi y : MethodName}
    (hown : s.vm.findClass own = some m.cls) (w1 : (Cond.methodLink own index xi).before a0 Z = true) (w2 : (Cond.declares xi).before a0 Z = true) (w3 : (Cond.interfaceMethod xi.cls xi.cls xi.name xi.desc).before a0 Z = true) (w4 : (Cond.selects C xi y).before a0 Z = true) (w5 : (Cond.instanceMethod y).before a0 Z = true)
    (w6 : (Cond.publicMethod y).before a0 Z = true) (w7 : (Cond.unhidden C xi.name xi.desc).before a0 Z = true) (w8 : (Cond.castable C xi.cls).before a0 Z = true)
    (hy : xi.cls ≠ "java/lang/invoke/MethodHandle" ∧ xi.cls ≠ "java/lang/invoke/VarHandle") {a : Addr} {argsL rest : List Value} {W kc ks : Nat} (hK : SB l R p e below s args y 5 W (.ref a :: argsL).toArray h Q kc ks) (eT : T.heap = h) (E : Exa Z h a C)
    {g : JFrame} (hg : g.method = m) (hsize : g.locals.size = c.maxLocals) (hlen : ∀ sig, parseMethodDescriptor xi.desc = some sig → argsL.length = sig.parameters.length)
    (hstack : g.stack = argsL.reverse ++ .ref a :: rest) (hW : 2 * g.monitorRoom + (rest.map fun v => v.category).sum ≤ W) (hdg : decode c.code g.pc = .ok (.invokeinterface index count, 5)) (hc : cells + kc ≤ R.cells) (hs : slots + ks ≤ R.slots) :
    ∃ (v : Option Value) (T' : State) (h' : Heap) (L : List Loc), Stand p l e R s m args below meth c T' (locs ++ L) (cells + kc) (slots + ks) ∧ T'.heap = h' ∧ Q v h' L ∧
      ∀ target, Steps p.tables e below (T'.setTop { g with pc := g.pc + 5, stack := v.toList ++ rest }) target → Steps p.tables e below (T.setTop g) target := by
  obtain ⟨cq, kq, qa, qb, qc⟩ := isOf hZ eT E
  obtain ⟨v, vm, ⟨T', L', k', n'⟩, -, X', ⟨L, hQ, l1, y1, z1⟩, st⟩ := X.interfaceBack hx hown (mvT hZ w1) (mvT hZ w2) (mvT hZ w3 (by simp [Cond.onTables, Cond.keepsFace, Cond.keeps, Cond.steady, Cond.faceAtom]; exact hy)) (mvT hZ w4) (mvT hZ w5) (mvT hZ w6) (mvT hZ w7) (mvT hZ w8) hy hK qa qb qc hg hsize (Steps.refl _) hlen hstack hW hdg (fun _ _ => ⟨rfl, eT, hc, hs⟩)
  dsimp only [Pt.U, Pt.locs, Pt.cells, Pt.slots] at X' l1 y1 z1 st hQ
  subst l1 y1 z1
  exact ⟨v, T', _, L, X', rfl, hQ, fun _ k => st.trans k⟩
theorem privC (X : Stand p l e R s m args below meth c T locs cells slots) (hx : p.tables.exec = Jvm.exec) (hZ : Z.Warmed39 s.vm) {own C : String} {index : Nat} {y : MethodName} {bytes : ByteArray} {maxL : Nat} {ret : Option FieldType}
    (hown : s.vm.findClass own = some m.cls) (w1 : (Cond.methodLink own index y).before a0 Z = true) (w2 : (Cond.instanceMethod y).before a0 Z = true) (w3 : (Cond.selects y.cls y y).before a0 Z = true) (w4 : (Cond.privateMethod y).before a0 Z = true) (w5 : (Cond.code y bytes maxL ret).before a0 Z = true)
    (hy : y.cls ≠ "java/lang/invoke/MethodHandle" ∧ y.cls ≠ "java/lang/invoke/VarHandle") {a : Addr} {argsL rest : List Value} {W kc ks : Nat} (hK : SB l R p e below s args y 3 W (.ref a :: argsL).toArray h Q kc ks) (eT : T.heap = h) (E : Exa Z h a C)
    {g : JFrame} (hg : g.method = m) (hsize : g.locals.size = c.maxLocals) (hlen : ∀ sig, parseMethodDescriptor y.desc = some sig → argsL.length = sig.parameters.length)
    (hstack : g.stack = argsL.reverse ++ .ref a :: rest) (hW : 2 * g.monitorRoom + (rest.map fun v => v.category).sum ≤ W) (hdg : decode c.code g.pc = .ok (.invokevirtual index, 3)) (hc : cells + kc ≤ R.cells) (hs : slots + ks ≤ R.slots) :
    ∃ (v : Option Value) (T' : State) (h' : Heap) (L : List Loc), Stand p l e R s m args below meth c T' (locs ++ L) (cells + kc) (slots + ks) ∧ T'.heap = h' ∧ Q v h' L ∧
      ∀ target, Steps p.tables e below (T'.setTop { g with pc := g.pc + 3, stack := v.toList ++ rest }) target → Steps p.tables e below (T.setTop g) target := by
  obtain ⟨cq, q1, q2⟩ := E.cell
  obtain ⟨v, vm, ⟨T', L', k', n'⟩, -, X', ⟨L, hQ, l1, y1, z1⟩, st⟩ := X.privateBack hx hown (mvT hZ w1) (mvT hZ w2) (mvT hZ w3) (Cond.privateMethod_at (mvP hZ w4 (args := #[]))) (mvT hZ w5) hy hK hg hsize (Steps.refl _) (by rw [eT]; exact q1) q2 hlen hstack hW hdg (fun _ _ => ⟨rfl, eT, hc, hs⟩)
  dsimp only [Pt.U, Pt.locs, Pt.cells, Pt.slots] at X' l1 y1 z1 st hQ
  subst l1 y1 z1
  exact ⟨v, T', _, L, X', rfl, hQ, fun _ k => st.trans k⟩
theorem ne_arv {a b : Addr} {C : String} {k : Nat} {kc : ClassId} {ty : FieldType} {z : Int32} {vs : List Value} {d : Value} (F : Exa Z h a C) (wi : (Cond.instantiable C k).before a0 Z = true) (G : Arv Z h b kc ty z vs d) : a ≠ b := by
  obtain ⟨cl, A, -⟩ := G
  exact ne_arr F wi A
theorem ext_refl (h : Heap) : Ext h h := ⟨Nat.le_refl _, fun _ _ q => q⟩
theorem ext_trans (A : Ext h h') (B : Ext h' h2) : Ext h h2 := ⟨Nat.le_trans A.1 B.1, fun a c q => B.2 a c (A.2 a c q)⟩
theorem ext_keep {ws : List Addr} (O : Ext h h') (Kp : Keep h' h2 ws) (q : ∀ x ∈ ws, h.size ≤ x) : Ext h h2 := ⟨Nat.le_trans O.1 Kp.1, fun a c r => Kp.2.1 a c (O.2 a c r) fun z => absurd (Array.getElem?_eq_some_iff.mp r).1 (Nat.not_lt.mpr (q a z))⟩
theorem ext_wr {a : Addr} {sl : Nat} {v : Value} (O : Ext h h') (W : Wr h' h2 a sl v) (q : h.size ≤ a) : Ext h h2 := ext_keep O (Keep.of_wr W) (allS q all0)
theorem ins_keep {ws : List Addr} {a : Addr} {C : String} {b : Bool} (F : Ins Z h a C b) (Kp : Keep h h' ws) : Ins Z h' a C b := by
  obtain ⟨cell, cT, h1, h2, h3⟩ := F
  obtain ⟨c', q, r1, r2, r3⟩ := Kp.2.2 a cell h1
  exact ⟨c', cT, q, h2, by rw [r1, r2]; exact h3⟩
theorem fits_isRef {ty : FieldType} {v : Value} (ht : ty.isReference = true) (hv : v.isRef = true) : fits ty v = true := by
  rcases ref_cases hv with rfl | ⟨a, rfl⟩ <;> cases ty <;> first | rfl | cases ht
theorem narrow_isRef {ty : FieldType} {v : Value} (ht : ty.isReference = true) : narrow ty v = v := by cases ty <;> first | rfl | cases ht
theorem nf_sel {C : String} {y' z y : MethodName} {s : State} {args : Array Value} (w : (Cond.selects C y' z).before args s = true) (hz : z.cls = y.cls) : NotFace s y := fun r0 h0 => by
  obtain ⟨c2, r2, m2, q1, q2, q3, q4, kP, hkP, hkPi⟩ := Cond.selects_spec w
  have e1 := findClass_of_methodNamed h0
  have e2 := findClass_of_methodNamed q3
  rw [hz] at e2
  have e3 : m2.cls = r0.cls := Option.some.inj (e2.symm.trans e1)
  exact ⟨kP, e3 ▸ hkP, hkPi⟩
theorem decl_of {y : MethodName} {s : State} {args : Array Value} {bytes : ByteArray} {maxL : Nat} {ret : Option FieldType} (w : (Cond.instanceMethod y).before args s = true) (wc : (Cond.code y bytes maxL ret).before args s = true) : (Cond.declares y).before args s = true := by
  obtain ⟨mk, methM, hnamed, hmethM, hstM, habM⟩ := Cond.instanceMethod_spec w
  obtain ⟨m2, cM, q1, -, -, -, -, -, -, hsig⟩ := Cond.code_spec hnamed wc
  cases hmethM.symm.trans q1
  simp [Cond.before, Cond.holds, Cond.value, hnamed, hmethM, hstM, hsig]
theorem same_of {y : MethodName} {s : State} {args : Array Value} (nf : NotFace s y) (w : (Cond.instanceMethod y).before args s = true) (hy : y.cls ≠ "java/lang/invoke/MethodHandle" ∧ y.cls ≠ "java/lang/invoke/VarHandle") : (Cond.sameMethod y.cls y.cls y.name y.desc).before args s = true := by
  obtain ⟨mk, methM, hnamed, hmethM, hstM, habM⟩ := Cond.instanceMethod_spec w
  obtain ⟨kr, h1, h2⟩ := nf _ hnamed
  have h3 := State.methodFound?_of_named hnamed hy
  have h4 := findClass_of_methodNamed hnamed
  have h5 : s.methodNamed? ⟨y.cls, y.name, y.desc⟩ = some mk := hnamed
  simp [Cond.before, Cond.holds, Cond.value, h3, h4, h5, h1, h2]
theorem superC (X : Stand p l e R s m args below meth c T locs cells slots) (hx : p.tables.exec = Jvm.exec) (hZ : Z.Warmed39 s.vm) {own C : String} {index : Nat} {y : MethodName} {bytes : ByteArray} {maxL : Nat} {ret : Option FieldType}
    (hown : s.vm.findClass own = some m.cls) (w1 : (Cond.methodLink own index y).before a0 Z = true) (w2 : (Cond.sameMethod y.cls y.cls y.name y.desc).before a0 Z = true) (w3 : (Cond.instanceMethod y).before a0 Z = true) (w4 : (Cond.superclass own y.cls).before a0 Z = true) (w5 : (Cond.code y bytes maxL ret).before a0 Z = true) (hn : y.name ≠ "<init>")
    {a : Addr} {argsL rest : List Value} {W kc ks : Nat} (hK : SB l R p e below s args y 3 W (.ref a :: argsL).toArray h Q kc ks) (eT : T.heap = h) (E : Exa Z h a C)
    {g : JFrame} (hg : g.method = m) (hsize : g.locals.size = c.maxLocals) (hlen : ∀ sig, parseMethodDescriptor y.desc = some sig → argsL.length = sig.parameters.length)
    (hstack : g.stack = argsL.reverse ++ .ref a :: rest) (hW : 2 * g.monitorRoom + (rest.map fun v => v.category).sum ≤ W) (hdg : decode c.code g.pc = .ok (.invokespecial index, 3)) (hc : cells + kc ≤ R.cells) (hs : slots + ks ≤ R.slots) :
    ∃ (v : Option Value) (T' : State) (h' : Heap) (L : List Loc), Stand p l e R s m args below meth c T' (locs ++ L) (cells + kc) (slots + ks) ∧ T'.heap = h' ∧ Q v h' L ∧
      ∀ target, Steps p.tables e below (T'.setTop { g with pc := g.pc + 3, stack := v.toList ++ rest }) target → Steps p.tables e below (T.setTop g) target := by
  obtain ⟨v, vm, ⟨T', L', k', n'⟩, -, X', ⟨L, hQ, l1, y1, z1⟩, st⟩ := superBack X hx hZ hown w1 w2 w3 w4 hn hK eT (Ins.self E) hg hsize w5 hlen hstack hW hdg (fun _ _ => ⟨rfl, eT, hc, hs⟩)
  dsimp only [Pt.U, Pt.locs, Pt.cells, Pt.slots] at X' l1 y1 z1 st hQ
  subst l1 y1 z1
  exact ⟨v, T', _, L, X', rfl, hQ, fun _ k => st.trans k⟩
theorem shl0 (x : Int32) : x <<< ((0 : Int32) &&& 31) = x := by
  apply Int32.toBitVec_inj.mp
  rw [Int32.toBitVec_shiftLeft]
  simp
theorem shr0 (x : Int32) : x >>> ((0 : Int32) &&& 31) = x := by
  apply Int32.toBitVec_inj.mp
  rw [Int32.toBitVec_shiftRight]
  simp
theorem ofn_add (n k : Nat) : Int32.ofNat n + Int32.ofNat k = Int32.ofNat (n + k) := (Int32.ofNat_add n k).symm
theorem ofn_toInt {n : Nat} (h : n < 2 ^ 31) : (Int32.ofNat n).toInt = n := Int32.toInt_ofNat_small h
theorem ofn_clamp {n : Nat} (h : n < 2 ^ 31) : (Int32.ofNat n).toNatClampNeg = n := by simp only [Int32.toNatClampNeg, ofn_toInt h]; rfl
theorem ofn_nneg {n : Nat} (h : n < 2 ^ 31) : ¬ Int32.ofNat n < 0 := by
  rw [Int32.lt_iff_toInt_lt, ofn_toInt h]; show ¬ (n : Int) < 0; omega
theorem ofn_lt {n k : Nat} (hn : n < 2 ^ 31) (hk : k < 2 ^ 31) : Int32.ofNat n < Int32.ofNat k ↔ n < k := by
  rw [Int32.lt_iff_toInt_lt, ofn_toInt hn, ofn_toInt hk]; omega
theorem ofn_sub_le {n k : Nat} (h : n ≤ k) (hk : k < 2 ^ 31) : ¬ (0 : Int32) < Int32.ofNat n - Int32.ofNat k := by
  have h1 := c_isub (Int32.ofNat n) (Int32.ofNat k)
  rw [ofn_toInt (by omega), ofn_toInt hk] at h1
  have h2 := rng32 (Int32.ofNat n - Int32.ofNat k)
  rw [Int32.lt_iff_toInt_lt]
  have : (0 : Int32).toInt = 0 := rfl
  omega
theorem ofn_succ (n : Nat) : Int32.ofNat n + (1 : Int32) = Int32.ofNat (n + 1) := ofn_add n 1
theorem ofn_ne {n k : Nat} (h : n ≠ k) (hn : n < 2 ^ 31) (hk : k < 2 ^ 31) : ¬ Int32.ofNat n = Int32.ofNat k := fun q => h (by have := congrArg Int32.toInt q; rw [ofn_toInt hn, ofn_toInt hk] at this; omega)
theorem sub0 {x : Int32} : x - (0 : Int32) = x := by simp
theorem nar_b8 {x : Int32} : nar .byte (x.toInt8.toInt32) = x.toInt8.toInt32 := by simp [nar]
theorem nar_char {x : Int32} (h : ¬ x < 0 ∧ ¬ (255 : Int32) < x) : nar .char x = x := by
  obtain ⟨h1, h2⟩ := h
  rw [Int32.lt_iff_toInt_lt] at h1 h2
  have e0 : (0 : Int32).toInt = 0 := rfl
  have e1 : (255 : Int32).toInt = 255 := rfl
  have q := c_i2c x
  show x.toUInt32.toUInt16.toUInt32.toInt32 = x
  apply Int32.toInt_inj.mp
  omega
theorem range_getD {us : List Value} {n : Nat} (h : us.length = n) (d : Value) : (List.range n).map (fun i => us.getD i d) = us := by
  subst h
  apply List.ext_getElem
  · simp
  · intro i h1 h2
    simp [List.getD_eq_getElem?_getD, h2]
theorem cp_list {vs us : List Value} {n k : Nat} {d : Value} (hus : us.length = k) (hn : n < 2 ^ 31) (hk : k < 2 ^ 31) :
    vs.take (Int32.ofNat n).toNatClampNeg ++ (List.range (Int32.ofNat k).toNatClampNeg).map (fun i => us.getD ((0 : Int32).toNatClampNeg + i) d) ++ vs.drop ((Int32.ofNat n).toNatClampNeg + (Int32.ofNat k).toNatClampNeg) = vs.take n ++ us ++ vs.drop (n + k) := by
  rw [ofn_clamp hn, ofn_clamp hk]
  have e : (0 : Int32).toNatClampNeg = 0 := rfl
  simp only [e, Nat.zero_add, range_getD hus]
theorem take_range {vs : List Value} {n : Nat} (h : n ≤ vs.length) (d : Value) : (List.range n).map (fun i => vs.getD i d) = vs.take n := by
  apply List.ext_getElem
  · simp [Nat.min_eq_left h]
  · intro i h1 h2
    have h3 : i < n := by simpa using h1
    simp [List.getD_eq_getElem?_getD, show i < vs.length by omega]
theorem cr_list {vs : List Value} {n : Nat} {d d' : Value} (hn : n ≤ vs.length) (h31 : n < 2 ^ 31) :
    (List.replicate n d').take (0 : Int32).toNatClampNeg ++ (List.range (Int32.ofNat n).toNatClampNeg).map (fun i => vs.getD ((0 : Int32).toNatClampNeg + i) d) ++ (List.replicate n d').drop ((0 : Int32).toNatClampNeg + (Int32.ofNat n).toNatClampNeg) = vs.take n := by
  rw [ofn_clamp h31]
  have e : (0 : Int32).toNatClampNeg = 0 := rfl
  simp only [e, Nat.zero_add, take_range hn, List.take_zero, List.nil_append]
  rw [List.drop_eq_nil_of_le (by simp), List.append_nil]
theorem len_cp {vs us : List Value} {n k cN : Nat} (h : vs.length = cN) (hu : us.length = k) (hr : n + k ≤ cN) : (vs.take n ++ us ++ vs.drop (n + k)).length = cN := by
  simp only [List.length_append, List.length_take, List.length_drop, h, hu]; omega
theorem len_set {vs : List Value} {n cN : Nat} {v : Value} (h : vs.length = cN) : (List.set vs n v).length = cN := by simp [h]
theorem i2c255 {x : Int32} : ¬ (x &&& 255).toUInt32.toUInt16.toUInt32.toInt32 < 0 ∧ ¬ (255 : Int32) < (x &&& 255).toUInt32.toUInt16.toUInt32.toInt32 := by
  rw [i2c_mask]
  have q := c_and x 255 (by decide)
  have e0 : (0 : Int32).toInt = 0 := rfl
  have e1 : (255 : Int32).toInt = 255 := rfl
  rw [Int32.lt_iff_toInt_lt, Int32.lt_iff_toInt_lt]
  omega
end Own
end Jvm.RoadKit
namespace Jvm.RoadKit
open Sem ClassFile Op Lib Jvm.Stand Jvm.Free Jvm.LawKit
section Own2
variable {p : Program} {l : Launch} {e : Env} {R : Room} {s : State} {m : MethodId} {args : Array Value} {below : List Frame} {meth : Method} {c : Code} {T : State} {locs : List Loc} {cells slots : Nat} {Z : State} {a0 : Array Value} {h : Heap}
theorem gclsM (X : Stand p l e R s m args below meth c T locs cells slots) (hx : p.tables.exec = Jvm.exec) (hZ : Z.Warmed39 s.vm) {own C : String} {index : Nat} (hown : s.vm.findClass own = some m.cls)
    (w1 : (Cond.methodLink own index ⟨"java/lang/Object", "getClass", "()Ljava/lang/Class;"⟩).before a0 Z = true) (w2 : (Cond.declares ⟨"java/lang/Object", "getClass", "()Ljava/lang/Class;"⟩).before a0 Z = true) (w4 : (Cond.selects C ⟨"java/lang/Object", "getClass", "()Ljava/lang/Class;"⟩ ⟨"java/lang/Object", "getClass", "()Ljava/lang/Class;"⟩).before a0 Z = true)
    (w5 : (Cond.instanceMethod ⟨"java/lang/Object", "getClass", "()Ljava/lang/Class;"⟩).before a0 Z = true) (w6 : (Cond.native ⟨"java/lang/Object", "getClass", "()Ljava/lang/Class;"⟩).before a0 Z = true) (eT : T.heap = h) {a : Addr} (E : Exa Z h a C) {cc : ClassId} {kc : Class} {mr : Addr} (m1 : Z.vm.findClass C = some cc) (m2 : Z.vm.classes[cc]? = some kc) (m3 : kc.mirror = some mr)
    {g : JFrame} (hg : g.method = m) (hsize : g.locals.size = c.maxLocals) {rest : List Value} (hs : g.stack = .ref a :: rest) (hd : decode c.code g.pc = .ok (.invokevirtual index, 3)) (hf : 1 ≤ R.frames) {W : Nat} (hW : 2 * g.monitorRoom + (rest.map fun v => v.category).sum ≤ W) (hl : W + 14 ≤ R.locals) :
    ∃ T', Stand p l e R s m args below meth c T' locs cells slots ∧ T'.heap = h ∧ ∀ target, Steps p.tables e below (T'.setTop { g with pc := g.pc + 3, stack := .ref mr :: rest }) target → Steps p.tables e below (T.setTop g) target := by
  obtain ⟨cB, kB, i1, i2, i3⟩ := isOf hZ eT E
  rw [hZ.alike.findClass] at i1
  cases i1.symm.trans m1
  obtain ⟨k', q, ek⟩ := hZ.alike.2.2 _ _ m2
  have hlw : nativeFrameWords "java/lang/Object" "getClass" 1 = 3 := by decide
  obtain ⟨vm', X', st⟩ := X.getClassOf hx hown (mvT hZ w1) (mvT hZ w2) (notFace_of_selects (args := #[]) (mvT hZ w4)) (mvT hZ w4) (mvT hZ w5) (mvT hZ w6) (by rw [hZ.alike.findClass]; exact m1) i3 q (by rw [ek]; exact m3) hg hsize hs hd hf (by rw [hlw]; omega)
  exact ⟨_, X', eT, st⟩
theorem ldcM (X : Stand p l e R s m args below meth c T locs cells slots) (hx : p.tables.exec = Jvm.exec) (hZ : Z.Warmed39 s.vm) {own C : String} {index : Nat} (hown : s.vm.findClass own = some m.cls)
    (w : (Cond.classLink own index C).before a0 Z = true) (eT : T.heap = h) {cc : ClassId} {kc : Class} {mr : Addr} (m1 : Z.vm.findClass C = some cc) (m2 : Z.vm.classes[cc]? = some kc) (m3 : kc.mirror = some mr)
    {g : JFrame} (hg : g.method = m) (hd : decode c.code g.pc = .ok (.ldc index, 2)) :
    ∃ T', Stand p l e R s m args below meth c T' locs cells slots ∧ T'.heap = h ∧ ∀ target, Steps p.tables e below (T'.setTop { g with pc := g.pc + 2, stack := .ref mr :: g.stack }) target → Steps p.tables e below (T.setTop g) target := by
  obtain ⟨k', q, ek⟩ := hZ.alike.2.2 _ _ m2
  have m1' : s.vm.findClass C = some cc := by rw [hZ.alike.findClass]; exact m1
  have m3' : k'.mirror = some mr := by rw [ek]; exact m3
  obtain ⟨vm', X', st⟩ := X.ldcMirror hx hown (mvT hZ w) (C := C) (a := mr) (by simp [Term.eval, m1', q, m3']) hg hd
  exact ⟨_, X', eT, st⟩
theorem ns_root {O K : String} {n : Nat} (w : (Cond.noSuperclass O).before a0 Z = true) (wk : (Cond.instantiable K n).before a0 Z = true) (hn : O ≠ K) : NS Z O K := by
  obtain ⟨c, k, h1, h2, h3, -, -⟩ := Cond.noSuperclass_spec w
  obtain ⟨t, k2, g1, g2, g3, -⟩ := Cond.instantiable_spec wk
  have ne := ids_ne h1 g1 hn
  refine ⟨c, t, h1, g1, fun fuel => ?_⟩
  cases fuel with
  | zero => rfl
  | succ f => simp [Vm.isSubclassAux, ne, h2, h3]
theorem ns_no {C S K : String} {n : Nat} (w : (Cond.superclass C S).before a0 Z = true) (wk : (Cond.instantiable K n).before a0 Z = true) (nn : NS Z C K) (hn : C ≠ K) : ∃ c t, Z.vm.findClass C = some c ∧ Z.vm.findClass K = some t ∧ Z.vm.assignable c t = false := by
  obtain ⟨c, t, h0, g0, n3⟩ := nn
  obtain ⟨p, k, kp, h1, h2, h3, h4, h5, -, h7⟩ := Cond.superclass_spec h0 w
  obtain ⟨t', k2, g1, g2, g3, g4, -⟩ := Cond.instantiable_spec wk
  cases g0.symm.trans g1
  have g7 : k2.isInterface = false := (Bool.or_eq_false_iff.mp g4).1
  have ne := ids_ne h0 g0 hn
  refine ⟨c, t, h0, g0, ?_⟩
  show Z.vm.assignableAux (255 + 1) c t = false
  simp [Vm.assignableAux, ne, h2, g2, h5, g3, g7, Vm.isSubclass, n3]
theorem arv_empty {a : Addr} {cl : Cell} {ty : FieldType} {t : Term} (hf : Fit s) (A : Arr s s.heap a cl ty) (ev : t.eval args s none [] s = some (.ref a)) (hl : (Term.length t).eval args s none [] s = some (.int 0)) {dv : Value} : Arv s s.heap a cl.cls ty (0 : Int32) [] dv := by
  obtain ⟨sd, SA, hev, harrAt, -⟩ := Term.length_spec hl
  have h31 := SBG.length_lt hev harrAt hl
  cases ev.symm.trans hev
  cases (A.fin (Vm.Alike.refl _)).symm.trans harrAt
  have e : (Term.length t).eval args s none [] s = some (.int cl.slots.size.toInt32) := len_f ev harrAt h31
  have e2 : cl.slots.size.toInt32 = 0 := by have := Option.some.inj (e.symm.trans hl); simpa using this
  exact Arv.start hf A h31 e2 (by decide) rfl trivial
variable {Q : Option Value → Heap → List Loc → Prop}
theorem specNC (X : Stand p l e R s m args below meth c T locs cells slots) (hx : p.tables.exec = Jvm.exec) (hZ : Z.Warmed39 s.vm) {own host : String} {index : Nat} {y : MethodName} {bytes : ByteArray} {maxL : Nat} (hy1 : y.name = "<init>")
    (hown : s.vm.findClass own = some m.cls) (w1 : (Cond.methodLinkNest own index y host).before a0 Z = true) (w2 : (Cond.instanceMethod y).before a0 Z = true)
    (w4 : (Cond.code y bytes maxL none).before a0 Z = true) (hy : y.cls ≠ "java/lang/invoke/MethodHandle" ∧ y.cls ≠ "java/lang/invoke/VarHandle") {a : Addr} {argsL rest : List Value} {W kc ks : Nat} (hK : SB l R p e below s args y 3 W (.ref a :: argsL).toArray h Q kc ks) (eT : T.heap = h)
    {g : JFrame} (hg : g.method = m) (hsize : g.locals.size = c.maxLocals) (hlen : ∀ sig, parseMethodDescriptor y.desc = some sig → argsL.length = sig.parameters.length)
    (hstack : g.stack = argsL.reverse ++ .ref a :: rest) (hW : 2 * g.monitorRoom + (rest.map fun v => v.category).sum ≤ W) (hdg : decode c.code g.pc = .ok (.invokespecial index, 3)) (hc : cells + kc ≤ R.cells) (hs : slots + ks ≤ R.slots) :
    ∃ (v : Option Value) (T' : State) (h' : Heap) (L : List Loc), Stand p l e R s m args below meth c T' (locs ++ L) (cells + kc) (slots + ks) ∧ T'.heap = h' ∧ Q v h' L ∧
      ∀ target, Steps p.tables e below (T'.setTop { g with pc := g.pc + 3, stack := v.toList ++ rest }) target → Steps p.tables e below (T.setTop g) target := by
  obtain ⟨v, vm, ⟨T', L', k', n'⟩, -, X', ⟨L, hQ, l1, y1, z1⟩, st⟩ := X.specialBackNest hx hy1 hown ((Cond.methodLinkNest_wide hZ w1 :) : (Cond.methodLinkNest own index y host).before args s = true) (mvT hZ w2) (mvT hZ w4) hy hK hg hsize (Steps.refl _) hlen hstack hW hdg (fun _ _ => ⟨rfl, eT, hc, hs⟩)
  dsimp only [Pt.U, Pt.locs, Pt.cells, Pt.slots] at X' l1 y1 z1 st hQ
  subst l1 y1 z1
  exact ⟨v, T', _, L, X', rfl, hQ, fun _ k => st.trans k⟩
end Own2
end Jvm.RoadKit
/- laws to paste: Road.backV (cut by pick.py; bodies as the Statement names them) -/
namespace Jvm.Pilot.@@N@@
namespace StrChars
open Jvm Sem ClassFile Op Lib Jvm.Stand Jvm.Free.XT Jvm.Free.ALB Jvm.Free.JM Jvm.Free
open Jvm.Lib.Cold (StaticIs)
/-- a char array whose places are chars -/
def Ch (a : Addr) (A : Cell) (U : State) : Prop := Arr .char a A U ∧ Typed .char A
theorem Ch.mv {a : Addr} {A : Cell} {U U' : State} (h : Ch a A U) (hal : U.vm.Alike U'.vm) (hh : U'.heap = U.heap) : Ch a A U' := ⟨h.1.mv hal hh, h.2⟩
theorem Ch.keep {a : Addr} {A : Cell} {U U' : State} (h : Ch a A U) (hal : U.vm.Alike U'.vm) (hk : U'.heap[a]? = some A) : Ch a A U' := ⟨h.1.keep hal hk, h.2⟩
/-- what place i of a char[]'s cell holds -/
def cv (A : Cell) (i : Nat) : Int32 := match A.slots[i]? with | some (.int x) => x | _ => 0
theorem Ch.get {a : Addr} {A : Cell} {U : State} (h : Ch a A U) {i : Nat} (hi : i < A.slots.size) : A.slots[i]? = some (.int (cv A i)) := by
  have e := Array.getElem?_eq_getElem hi
  have f := h.2 i _ e
  unfold cv; rw [e]
  generalize A.slots[i] = v at f
  cases v <;> simp [fits] at f ⊢
/-- the byte that i2b leaves of a char -/
def lo8 (x : Int32) : Int32 := x.toInt8.toInt32
theorem fits_lo8 (y : Int32) : fits .byte (.int (lo8 y)) = true := by
  have h1 := y.toInt8.le_toInt
  have h2 := y.toInt8.toInt_lt
  simp only [lo8, fits, Bool.and_eq_true, decide_eq_true_eq, Int32.le_iff_toInt_le, Int8.toInt_toInt32, show (-128 : Int32).toInt = -128 from by decide, show (127 : Int32).toInt = 127 from by decide]
  omega
/-- A' is A but that each place j of lo .. hi - 1 holds f j -/
def Laid (A A' : Cell) (lo hi : Nat) (f : Nat → Value) : Prop := A'.cls = A.cls ∧ A'.vm = A.vm ∧ A'.slots.size = A.slots.size ∧ ∀ i, A'.slots[i]? = if lo ≤ i ∧ i < hi then some (f i) else A.slots[i]?
theorem Laid.zero (A : Cell) (lo : Nat) (f : Nat → Value) : Laid A A lo (lo + 0) f := ⟨rfl, rfl, rfl, fun i => by rw [if_neg (by omega)]⟩
theorem Laid.step {A Ak : Cell} {lo k : Nat} {f : Nat → Value} {v : Value} (h : Laid A Ak lo k f) (hlo : lo ≤ k) (hk : k < Ak.slots.size) (hv : v = f k) : Laid A (Ak.setSlot k v) lo (k + 1) f := by
  refine ⟨h.1, h.2.1, by simpa [Cell.setSlot] using h.2.2.1, fun i => ?_⟩
  by_cases e : k = i
  · subst e; rw [Cell.slots_setSlot_self v hk, if_pos (by omega), hv]
  · rw [Cell.slots_setSlot_ne v e, h.2.2.2 i]
    by_cases q : lo ≤ i ∧ i < k
    · rw [if_pos q, if_pos (by omega)]
    · rw [if_neg q, if_neg (by omega)]
def U16 : String := "java/lang/StringUTF16"
namespace Cmp5
def yN : MethodName := ⟨"java/lang/StringUTF16", "compress", "([CI[BII)I"⟩
abbrev yB : ByteArray := jdk_52_method_21_code
theorem d0 : decode yB 0 = .ok (.iconst 0, 1) := by decide +kernel
theorem d1 : decode yB 1 = .ok (.istore 5, 2) := by decide +kernel
theorem d3 : decode yB 3 = .ok (.iload 5, 2) := by decide +kernel
theorem d5 : decode yB 5 = .ok (.iload 4, 2) := by decide +kernel
theorem d7 : decode yB 7 = .ok (.if_icmp (.ge) 37, 3) := by decide +kernel
theorem d10 : decode yB 10 = .ok (.aload_n 0, 1) := by decide +kernel
theorem d11 : decode yB 11 = .ok (.iload_n 1, 1) := by decide +kernel
theorem d12 : decode yB 12 = .ok (.caload, 1) := by decide +kernel
theorem d13 : decode yB 13 = .ok (.istore 6, 2) := by decide +kernel
theorem d15 : decode yB 15 = .ok (.iload 6, 2) := by decide +kernel
theorem d17 : decode yB 17 = .ok (.sipush 255, 3) := by decide +kernel
theorem d20 : decode yB 20 = .ok (.if_icmp (.le) 6, 3) := by decide +kernel
theorem d26 : decode yB 26 = .ok (.aload_n 2, 1) := by decide +kernel
theorem d27 : decode yB 27 = .ok (.iload_n 3, 1) := by decide +kernel
theorem d28 : decode yB 28 = .ok (.iload 6, 2) := by decide +kernel
theorem d30 : decode yB 30 = .ok (.i2b, 1) := by decide +kernel
theorem d31 : decode yB 31 = .ok (.bastore, 1) := by decide +kernel
theorem d32 : decode yB 32 = .ok (.iinc 1 1, 3) := by decide +kernel
theorem d35 : decode yB 35 = .ok (.iinc 3 1, 3) := by decide +kernel
theorem d38 : decode yB 38 = .ok (.iinc 5 1, 3) := by decide +kernel
theorem d41 : decode yB 41 = .ok (.goto (-38), 3) := by decide +kernel
theorem d44 : decode yB 44 = .ok (.iload 4, 2) := by decide +kernel
theorem d46 : decode yB 46 = .ok (.ireturn, 1) := by decide +kernel
def site : List Cond := []
def tab : Cond := tabOf yN yB 7 (some .int) site
def P (b : Addr) (A : Cell) (d : Addr) (B : Cell) (o q len : Nat) (args : Array Value) (s : State) : Prop := args = #[.ref b, .int (Int32.ofNat o), .ref d, .int (Int32.ofNat q), .int (Int32.ofNat len)] ∧ Ch b A s ∧ Arr .byte d B s ∧ b ≠ d ∧ o + len ≤ A.slots.size ∧ q + len ≤ B.slots.size ∧ ∀ i, i < len → ¬ 255 < cv A (o + i)
def E (b : Addr) (A : Cell) (d : Addr) (B : Cell) (o q len : Nat) (r : Option Value) (s u : State) : Prop := r = some (.int (Int32.ofNat len)) ∧ ∃ B', Put d B' s u ∧ Laid B B' q (q + len) (fun j => Value.int (lo8 (cv A (o + (j - q)))))
/-- no char of the range above 255: len; the places written hold each char's low byte -/
theorem law (l : Launch) (b : Addr) (A : Cell) (d : Addr) (B : Cell) (o q len : Nat) : Law l yN 5 5 0 0 yB 7 (some .int) site (P b A d B o q len) (E b A d B o q len) (copyLocs d q len) 0 0 := by
  refine Law.of_walk (plainFor_of_name (by decide +kernel)) (by decide +kernel) (by decide +kernel) (by decide) (fun _ _ h => by rw [h.1]; rfl) (fun _ U U' hal hh h => ⟨h.1, h.2.1.mv hal hh, h.2.2.1.mv hal hh, h.2.2.2⟩) (fun r U U' V V' h1 hal h2 h => ⟨h.1, h.2.elim fun B' q => ⟨B', q.1.mv h1 h2, q.2⟩⟩) ?_
  intro p e s m args below meth c s₁ X0 hexec hbytes hml hret hlk hnm hown hh0 W hP
  obtain ⟨rfl, hA, hB, hne, l1, l2, hp⟩ := hP
  have c1 : Steps p.tables e below (s₁.setTop (entryFrame m #[.ref b, .int (Int32.ofNat o), .ref d, .int (Int32.ofNat q), .int (Int32.ofNat len)] 7)) (s₁.setTop (mkF m 0 #[.val (.ref b), .val (.int (Int32.ofNat o)), .val (.ref d), .val (.int (Int32.ofNat q)), .val (.int (Int32.ofNat len)), .unset, .unset] [])) := entry rfl
  have hA0 := hA.1.mv X0.warmed.alike hh0
  have hB0 := hB.mv X0.warmed.alike hh0
  have a31 := hA.1.2.2.2
  have c2 : Steps p.tables e below (s₁.setTop (entryFrame m #[.ref b, .int (Int32.ofNat o), .ref d, .int (Int32.ofNat q), .int (Int32.ofNat len)] 7)) (s₁.setTop (mkF m 3 #[.val (.ref b), .val (.int (Int32.ofNat o)), .val (.ref d), .val (.int (Int32.ofNat q)), .val (.int (Int32.ofNat len)), .val (.int 0), .unset] [])) := c1.trans (by
    refine iconstV X0.here hexec rfl 0 (hb hbytes d0) (by decide) ?_
    refine XS.istore X0.here hexec rfl (hb hbytes d1) rfl rfl ?_
    exact Steps.refl _)
  have loop : ∀ (r i : Nat), i + r = len → ∀ (z : Slot), (z = .unset ∨ ∃ w, z = .val w ∧ w.category = 1) → ∀ (Tl : State) (Bk : Cell), Stand p l e { frames := 0, locals := 0, cells := 0, slots := 0 } s m #[.ref b, .int (Int32.ofNat o), .ref d, .int (Int32.ofNat q), .int (Int32.ofNat len)] below meth c Tl ([] ++ copyLocs d q i) 0 0 → Put d Bk s₁ Tl → Laid B Bk q (q + i) (fun j => Value.int (lo8 (cv A (o + (j - q))))) →
      Steps p.tables e below (s₁.setTop (entryFrame m #[.ref b, .int (Int32.ofNat o), .ref d, .int (Int32.ofNat q), .int (Int32.ofNat len)] 7)) (Tl.setTop (mkF m 3 #[.val (.ref b), .val (.int (Int32.ofNat (o + i))), .val (.ref d), .val (.int (Int32.ofNat (q + i))), .val (.int (Int32.ofNat len)), .val (.int (Int32.ofNat i)), z] [])) → ∃ (T' : State) (B' : Cell) (z' : Slot), Stand p l e { frames := 0, locals := 0, cells := 0, slots := 0 } s m #[.ref b, .int (Int32.ofNat o), .ref d, .int (Int32.ofNat q), .int (Int32.ofNat len)] below meth c T' ([] ++ copyLocs d q len) 0 0 ∧ Put d B' s₁ T' ∧ Laid B B' q (q + len) (fun j => Value.int (lo8 (cv A (o + (j - q))))) ∧
      Steps p.tables e below (s₁.setTop (entryFrame m #[.ref b, .int (Int32.ofNat o), .ref d, .int (Int32.ofNat q), .int (Int32.ofNat len)] 7)) (T'.setTop (mkF m 3 #[.val (.ref b), .val (.int (Int32.ofNat (o + len))), .val (.ref d), .val (.int (Int32.ofNat (q + len))), .val (.int (Int32.ofNat len)), .val (.int (Int32.ofNat len)), z'] [])) := by
    intro r
    induction r with
    | zero =>
      intro i hi z hz Tl Bk Xl pl fl cl
      have hil : i = len := by omega
      rw [hil] at Xl fl cl
      exact ⟨Tl, Bk, z, Xl, pl, fl, cl⟩
    | succ r ih =>
      intro i hi z hz Tl Bk Xl pl fl cl
      have all := X0.warmed.alike.symm.trans Xl.warmed.alike
      have hAl := hA0.keep all (pl.other hne hA0.1)
      have hBk := hB0.like all pl.1 fl.1 fl.2.1 fl.2.2.1
      have hlt : q + i < Bk.slots.size := by rw [fl.2.2.1]; omega
      have c3 : Steps p.tables e below (s₁.setTop (entryFrame m #[.ref b, .int (Int32.ofNat o), .ref d, .int (Int32.ofNat q), .int (Int32.ofNat len)] 7)) (Tl.setTop (mkF m 12 #[.val (.ref b), .val (.int (Int32.ofNat (o + i))), .val (.ref d), .val (.int (Int32.ofNat (q + i))), .val (.int (Int32.ofNat len)), .val (.int (Int32.ofNat i)), z] [.int (Int32.ofNat (o + i)), .ref b])) := cl.trans (by
        refine XS.iload Xl.here hexec rfl (hb hbytes d3) rfl ?_
        refine XS.iload Xl.here hexec rfl (hb hbytes d5) rfl ?_
        refine XS.icmpNo Xl.here hexec rfl (hb hbytes d7) rfl (ii_ge_f (lt32 (by omega) (by omega))) ?_
        refine XS.aloadN Xl.here hexec rfl (hb hbytes d10) rfl rfl ?_
        refine XS.iloadN Xl.here hexec rfl (hb hbytes d11) rfl ?_
        exact Steps.refl _)
      have c4 : Steps p.tables e below (s₁.setTop (entryFrame m #[.ref b, .int (Int32.ofNat o), .ref d, .int (Int32.ofNat q), .int (Int32.ofNat len)] 7)) (Tl.setTop (mkF m 13 #[.val (.ref b), .val (.int (Int32.ofNat (o + i))), .val (.ref d), .val (.int (Int32.ofNat (q + i))), .val (.int (Int32.ofNat len)), .val (.int (Int32.ofNat i)), z] [.int (cv A (o + i))])) := c3.trans (by
        refine Xl.aget hexec hAl rfl (hA.get (i := o + i) (by omega)) rfl rfl (hb hbytes d12) ?_
        exact Steps.refl _)
      have c5 : Steps p.tables e below (s₁.setTop (entryFrame m #[.ref b, .int (Int32.ofNat o), .ref d, .int (Int32.ofNat q), .int (Int32.ofNat len)] 7)) (Tl.setTop (mkF m 15 #[.val (.ref b), .val (.int (Int32.ofNat (o + i))), .val (.ref d), .val (.int (Int32.ofNat (q + i))), .val (.int (Int32.ofNat len)), .val (.int (Int32.ofNat i)), .val (.int (cv A (o + i)))] [])) := c4.trans (by
        refine XS.istoreS Xl.here hexec rfl (hb hbytes d13) rfl rfl hz ?_
        exact Steps.refl _)
      have c6 : Steps p.tables e below (s₁.setTop (entryFrame m #[.ref b, .int (Int32.ofNat o), .ref d, .int (Int32.ofNat q), .int (Int32.ofNat len)] 7)) (Tl.setTop (mkF m 31 #[.val (.ref b), .val (.int (Int32.ofNat (o + i))), .val (.ref d), .val (.int (Int32.ofNat (q + i))), .val (.int (Int32.ofNat len)), .val (.int (Int32.ofNat i)), .val (.int (cv A (o + i)))] [.int (lo8 (cv A (o + i))), .int (Int32.ofNat (q + i)), .ref d])) := c5.trans (by
        refine XS.iload Xl.here hexec rfl (hb hbytes d15) rfl ?_
        refine sipushV Xl.here hexec rfl 255 (hb hbytes d17) (by decide) ?_
        refine XS.icmpYes Xl.here hexec rfl (pc0 := 20) rfl (hb hbytes d20) rfl (ii_le_t (hp i (by omega))) (by decide) rfl ?_
        refine XS.aloadN Xl.here hexec rfl (hb hbytes d26) rfl rfl ?_
        refine XS.iloadN Xl.here hexec rfl (hb hbytes d27) rfl ?_
        refine XS.iload Xl.here hexec rfl (hb hbytes d28) rfl ?_
        refine i2b Xl.here hexec rfl (hb hbytes d30) rfl ?_
        exact Steps.refl _)
      obtain ⟨T7, X7, p7, st7⟩ := Xl.aput hexec hBk rfl hlt rfl (fits_lo8 (cv A (o + i))) (g := (mkF m 31 #[.val (.ref b), .val (.int (Int32.ofNat (o + i))), .val (.ref d), .val (.int (Int32.ofNat (q + i))), .val (.int (Int32.ofNat len)), .val (.int (Int32.ofNat i)), .val (.int (cv A (o + i)))] [.int (lo8 (cv A (o + i))), .int (Int32.ofNat (q + i)), .ref d])) rfl (rest := []) rfl (hb hbytes d31)
      have c8 : Steps p.tables e below (s₁.setTop (entryFrame m #[.ref b, .int (Int32.ofNat o), .ref d, .int (Int32.ofNat q), .int (Int32.ofNat len)] 7)) (T7.setTop (mkF m 32 #[.val (.ref b), .val (.int (Int32.ofNat (o + i))), .val (.ref d), .val (.int (Int32.ofNat (q + i))), .val (.int (Int32.ofNat len)), .val (.int (Int32.ofNat i)), .val (.int (cv A (o + i)))] [])) := c6.trans (st7 _ (Steps.refl _))
      have c9 : Steps p.tables e below (s₁.setTop (entryFrame m #[.ref b, .int (Int32.ofNat o), .ref d, .int (Int32.ofNat q), .int (Int32.ofNat len)] 7)) (T7.setTop (mkF m 3 #[.val (.ref b), .val (.int (Int32.ofNat (o + i) + 1)), .val (.ref d), .val (.int (Int32.ofNat (q + i) + 1)), .val (.int (Int32.ofNat len)), .val (.int (Int32.ofNat i + 1)), .val (.int (cv A (o + i)))] [])) := c8.trans (by
        refine iincV X7.here hexec rfl 1 (hb hbytes d32) (by decide) rfl rfl ?_
        refine iincV X7.here hexec rfl 1 (hb hbytes d35) (by decide) rfl rfl ?_
        refine iincV X7.here hexec rfl 1 (hb hbytes d38) (by decide) rfl rfl ?_
        refine XS.goto X7.here hexec rfl (pc0 := 41) rfl (hb hbytes d41) (by decide) rfl ?_
        exact Steps.refl _)
      have c10 : Steps p.tables e below (s₁.setTop (entryFrame m #[.ref b, .int (Int32.ofNat o), .ref d, .int (Int32.ofNat q), .int (Int32.ofNat len)] 7)) (T7.setTop (mkF m 3 #[.val (.ref b), .val (.int (Int32.ofNat (o + (i + 1)))), .val (.ref d), .val (.int (Int32.ofNat (q + (i + 1)))), .val (.int (Int32.ofNat len)), .val (.int (Int32.ofNat (i + 1))), .val (.int (cv A (o + i)))] [])) := by
        have := c9
        rw [succ32, succ32, succ32] at this
        exact this
      exact ih (i + 1) (by omega) _ (Or.inr ⟨_, rfl, rfl⟩) T7 _ (by rw [copyLocs_step, ← List.append_assoc]; exact X7) (pl.trans p7) (fl.step (by omega) hlt (by simp)) c10
  obtain ⟨T9, B9, z9, X9, p9, f9, g9⟩ := loop len 0 (by omega) .unset (Or.inl rfl) s₁ B (by simpa [copyLocs] using X0) ⟨hB0.1, fun _ _ => rfl, rfl⟩ (Laid.zero _ _ _) c2
  have c11 : Steps p.tables e below (s₁.setTop (entryFrame m #[.ref b, .int (Int32.ofNat o), .ref d, .int (Int32.ofNat q), .int (Int32.ofNat len)] 7)) (T9.setTop (mkF m 46 #[.val (.ref b), .val (.int (Int32.ofNat (o + len))), .val (.ref d), .val (.int (Int32.ofNat (q + len))), .val (.int (Int32.ofNat len)), .val (.int (Int32.ofNat len)), z9] [.int (Int32.ofNat len)])) := g9.trans (by
    refine XS.iload X9.here hexec rfl (hb hbytes d3) rfl ?_
    refine XS.iload X9.here hexec rfl (hb hbytes d5) rfl ?_
    refine XS.icmpYes X9.here hexec rfl (pc0 := 7) rfl (hb hbytes d7) rfl (ii_ge_t (nlt32 (by omega) (Nat.le_refl _))) (by decide) rfl ?_
    refine XS.iload X9.here hexec rfl (hb hbytes d44) rfl ?_
    exact Steps.refl _)
  exact ⟨T9, some (.int (Int32.ofNat len)), _, _, _, X9, by simp, rfl, rfl, (fun h => by cases h), ⟨rfl, B9, p9.from hh0, f9⟩, fun fs hl => c11.trans (X9.ireturnOut hexec hret rfl (Or.inl rfl) (hb hbytes d46) hl)⟩
end Cmp5
namespace Cmp3
def yN : MethodName := ⟨"java/lang/StringUTF16", "compress", "([CII)[B"⟩
abbrev yB : ByteArray := jdk_52_method_16_code
theorem d0 : decode yB 0 = .ok (.iload_n 2, 1) := by decide +kernel
theorem d1 : decode yB 1 = .ok (.newarray .byte, 2) := by decide +kernel
theorem d3 : decode yB 3 = .ok (.astore_n 3, 1) := by decide +kernel
theorem d4 : decode yB 4 = .ok (.aload_n 0, 1) := by decide +kernel
theorem d5 : decode yB 5 = .ok (.iload_n 1, 1) := by decide +kernel
theorem d6 : decode yB 6 = .ok (.aload_n 3, 1) := by decide +kernel
theorem d7 : decode yB 7 = .ok (.iconst 0, 1) := by decide +kernel
theorem d8 : decode yB 8 = .ok (.iload_n 2, 1) := by decide +kernel
theorem d9 : decode yB 9 = .ok (.invokestatic 115, 3) := by decide +kernel
theorem d12 : decode yB 12 = .ok (.istore 4, 2) := by decide +kernel
theorem d14 : decode yB 14 = .ok (.iload 4, 2) := by decide +kernel
theorem d16 : decode yB 16 = .ok (.iload_n 2, 1) := by decide +kernel
theorem d17 : decode yB 17 = .ok (.if_icmp (.eq) 40, 3) := by decide +kernel
theorem d57 : decode yB 57 = .ok (.aload_n 3, 1) := by decide +kernel
theorem d58 : decode yB 58 = .ok (.areturn, 1) := by decide +kernel
def site : List Cond := [.arrayClass .byte, Cmp5.tab] ++ staticW U16 115 Cmp5.yN
def tab : Cond := tabOf yN yB 6 (some (.array .byte)) site
def P (b : Addr) (A : Cell) (o len : Nat) (args : Array Value) (s : State) : Prop := args = #[.ref b, .int (Int32.ofNat o), .int (Int32.ofNat len)] ∧ Ch b A s ∧ o + len ≤ A.slots.size ∧ len ≤ 536870912 ∧ ∀ i, i < len → ¬ 255 < cv A (o + i)
def E (b : Addr) (A : Cell) (o len : Nat) (r : Option Value) (s u : State) : Prop := NewArr .byte "[B" len (fun j => .int (lo8 (cv A (o + j)))) r s u ∧ u.heap.size = s.heap.size + 1
/-- no char of the range above 255: a new byte[] of their low bytes -/
theorem law (l : Launch) (b : Addr) (A : Cell) (o len : Nat) : Law l yN 3 3 1 18 yB 6 (some (.array .byte)) site (P b A o len) (E b A o len) [] 1 len := by
  refine Law.of_walk (plainFor_of_name (by decide +kernel)) (by decide +kernel) (by decide +kernel) (by decide) (fun _ _ h => by rw [h.1]; rfl) (fun _ U U' hal hh h => ⟨h.1, h.2.1.mv hal hh, h.2.2⟩) (fun r U U' V V' h1 hal h2 h => ⟨NewArr.mv r U U' V V' h1 hal h2 h.1, by rw [h1, h2]; exact h.2⟩) ?_
  intro p e s m args below meth c s₁ X0 hexec hbytes hml hret hlk hnm hown hh0 W hP
  obtain ⟨rfl, hA, l1, l2, hp⟩ := hP
  have a31 := hA.1.2.2.2
  have c1 : Steps p.tables e below (s₁.setTop (entryFrame m #[.ref b, .int (Int32.ofNat o), .int (Int32.ofNat len)] 6)) (s₁.setTop (mkF m 0 #[.val (.ref b), .val (.int (Int32.ofNat o)), .val (.int (Int32.ofNat len)), .unset, .unset, .unset] [])) := entry rfl
  have c2 : Steps p.tables e below (s₁.setTop (entryFrame m #[.ref b, .int (Int32.ofNat o), .int (Int32.ofNat len)] 6)) (s₁.setTop (mkF m 1 #[.val (.ref b), .val (.int (Int32.ofNat o)), .val (.int (Int32.ofNat len)), .unset, .unset, .unset] [.int (Int32.ofNat len)])) := c1.trans (by
    refine XS.iloadN X0.here hexec rfl (hb hbytes d0) rfl ?_
    exact Steps.refl _)
  obtain ⟨T3, B3, X3, ba3, bs3, bv3, bh3, bf3, st3⟩ := X0.anew hexec (atype := .byte) (wk W (.arrayClass .byte)) rfl (by show len * 1 ≤ _; omega) (by omega) (g := (mkF m 1 #[.val (.ref b), .val (.int (Int32.ofNat o)), .val (.int (Int32.ofNat len)), .unset, .unset, .unset] [.int (Int32.ofNat len)])) rfl (hb hbytes d1) (rest := []) rfl (Nat.le_refl _) (by show 0 + len ≤ len; omega)
  rw [hh0] at ba3 st3
  have kp3 : XT.Kept s T3 := (XT.Kept.of_eq hh0).push bh3
  have hA3 := hA.keep X3.warmed.alike (kp3 _ _ hA.1.1)
  have hne : b ≠ s.heap.size := hA.1.ne
  have c4 : Steps p.tables e below (s₁.setTop (entryFrame m #[.ref b, .int (Int32.ofNat o), .int (Int32.ofNat len)] 6)) (T3.setTop (mkF m 3 #[.val (.ref b), .val (.int (Int32.ofNat o)), .val (.int (Int32.ofNat len)), .unset, .unset, .unset] [.ref s.heap.size])) := c2.trans (st3 _ (Steps.refl _))
  have c5 : Steps p.tables e below (s₁.setTop (entryFrame m #[.ref b, .int (Int32.ofNat o), .int (Int32.ofNat len)] 6)) (T3.setTop (mkF m 9 #[.val (.ref b), .val (.int (Int32.ofNat o)), .val (.int (Int32.ofNat len)), .val (.ref s.heap.size), .unset, .unset] [.int (Int32.ofNat len), .int 0, .ref s.heap.size, .int (Int32.ofNat o), .ref b])) := c4.trans (by
    refine XS.astoreN X3.here hexec rfl (hb hbytes d3) rfl rfl rfl ?_
    refine XS.aloadN X3.here hexec rfl (hb hbytes d4) rfl rfl ?_
    refine XS.iloadN X3.here hexec rfl (hb hbytes d5) rfl ?_
    refine XS.aloadN X3.here hexec rfl (hb hbytes d6) rfl rfl ?_
    refine iconstV X3.here hexec rfl 0 (hb hbytes d7) (by decide) ?_
    refine XS.iloadN X3.here hexec rfl (hb hbytes d8) rfl ?_
    exact Steps.refl _)
  obtain ⟨v6, T6, X6, E6, g6⟩ := X3.callS hexec (Cmp5.law l b A s.heap.size B3 o 0 len) hown (wks W (staticW U16 115 Cmp5.yN)) (wk W Cmp5.tab) (W := 0) (Nat.le_of_ble_eq_true rfl) (Nat.le_of_ble_eq_true rfl) (Nat.le_refl _) (by show 0 + len + 0 ≤ len; omega) (g := (mkF m 9 #[.val (.ref b), .val (.int (Int32.ofNat o)), .val (.int (Int32.ofNat len)), .val (.ref s.heap.size), .unset, .unset] [.int (Int32.ofNat len), .int (Int32.ofNat 0), .ref s.heap.size, .int (Int32.ofNat o), .ref b])) rfl (by rw [hml]; rfl) c5 (argsL := [.ref b, .int (Int32.ofNat o), .ref s.heap.size, .int (Int32.ofNat 0), .int (Int32.ofNat len)]) (rest := []) rfl rfl (by show 2 * 0 + 0 ≤ _; decide) (hb hbytes d9) (⟨rfl, hA3, ba3, hne, l1, by rw [bs3]; simp, hp⟩)
  obtain ⟨rfl, B6, p6, f6⟩ := E6
  have c7 : Steps p.tables e below (s₁.setTop (entryFrame m #[.ref b, .int (Int32.ofNat o), .int (Int32.ofNat len)] 6)) (T6.setTop (mkF m 12 #[.val (.ref b), .val (.int (Int32.ofNat o)), .val (.int (Int32.ofNat len)), .val (.ref s.heap.size), .unset, .unset] [.int (Int32.ofNat len)])) := g6
  have c8 : Steps p.tables e below (s₁.setTop (entryFrame m #[.ref b, .int (Int32.ofNat o), .int (Int32.ofNat len)] 6)) (T6.setTop (mkF m 58 #[.val (.ref b), .val (.int (Int32.ofNat o)), .val (.int (Int32.ofNat len)), .val (.ref s.heap.size), .val (.int (Int32.ofNat len)), .unset] [.ref s.heap.size])) := c7.trans (by
    refine XS.istore X6.here hexec rfl (hb hbytes d12) rfl rfl ?_
    refine XS.iload X6.here hexec rfl (hb hbytes d14) rfl ?_
    refine XS.iloadN X6.here hexec rfl (hb hbytes d16) rfl ?_
    refine XS.icmpYes X6.here hexec rfl (pc0 := 17) rfl (hb hbytes d17) rfl (ii_eq_t rfl) (by decide) rfl ?_
    refine XS.aloadN X6.here hexec rfl (hb hbytes d57) rfl rfl ?_
    exact Steps.refl _)
  have X8 := X6.wide (L' := []) (cells' := 1) (slots' := len) (fun x hx hlt => by
    simp only [List.nil_append, copyLocs, List.mem_map, List.mem_range] at hx
    obtain ⟨i, -, rfl⟩ := hx
    exact absurd hlt (Nat.lt_irrefl _)) (Nat.le_refl _) (by omega)
  exact ⟨T6, some (.ref s.heap.size), _, _, _, X8, rfl, rfl, rfl, (fun h => by cases h), ⟨⟨rfl, B6, ba3.like (X3.warmed.alike.symm.trans X6.warmed.alike) p6.1 f6.1 f6.2.1 f6.2.2.1, f6.2.1.trans bv3, by rw [X6.warmed.alike.findClass, f6.1]; exact bf3, by rw [f6.2.2.1, bs3]; simp, fun j hj => by rw [f6.2.2.2 j, if_pos (by omega)]; rfl, kp3.put p6 (Nat.le_refl _)⟩, by rw [p6.2.2, bh3, hh0]; simp⟩, fun fs hl => c8.trans (X8.areturnOut hexec rfl hret rfl (hb hbytes d58) hl)⟩
end Cmp3
namespace CodL
def yN : MethodName := ⟨"java/lang/StringUTF16", "coderFromArrayLen", "([BI)B"⟩
abbrev yB : ByteArray := jdk_52_method_15_code
theorem d0 : decode yB 0 = .ok (.iload_n 1, 1) := by decide +kernel
theorem d1 : decode yB 1 = .ok (.aload_n 0, 1) := by decide +kernel
theorem d2 : decode yB 2 = .ok (.arraylength, 1) := by decide +kernel
theorem d3 : decode yB 3 = .ok (.isub, 1) := by decide +kernel
theorem d4 : decode yB 4 = .ok (.bipush 31, 2) := by decide +kernel
theorem d6 : decode yB 6 = .ok (.iushr, 1) := by decide +kernel
theorem d7 : decode yB 7 = .ok (.i2b, 1) := by decide +kernel
theorem d8 : decode yB 8 = .ok (.ireturn, 1) := by decide +kernel
def site : List Cond := []
def tab : Cond := tabOf yN yB 2 (some .byte) site
def P (d : Addr) (B : Cell) (args : Array Value) (s : State) : Prop := args = #[.ref d, .int (Int32.ofNat B.slots.size)] ∧ Arr .byte d B s
def E (r : Option Value) (s u : State) : Prop := XT.PureE (some (.int 0)) r s u
/-- an array as long as the number of chars: LATIN1 -/
theorem law (l : Launch) (d : Addr) (B : Cell) : Law l yN 2 2 0 0 yB 2 (some .byte) site (P d B) E [] 0 0 := by
  refine Law.of_walk (plainFor_of_name (by decide +kernel)) (by decide +kernel) (by decide +kernel) (by decide) (fun _ _ h => by rw [h.1]; rfl) (fun _ U U' hal hh h => ⟨h.1, h.2.mv hal hh⟩) (fun r U U' V V' h1 hal h2 h => XT.PureE.mv r U U' V V' h1 hal h2 h) ?_
  intro p e s m args below meth c s₁ X0 hexec hbytes hml hret hlk hnm hown hh0 W hP
  obtain ⟨rfl, hB⟩ := hP
  have hB0 := hB.mv X0.warmed.alike hh0
  have c1 : Steps p.tables e below (s₁.setTop (entryFrame m #[.ref d, .int (Int32.ofNat B.slots.size)] 2)) (s₁.setTop (mkF m 0 #[.val (.ref d), .val (.int (Int32.ofNat B.slots.size))] [])) := entry rfl
  have c2 : Steps p.tables e below (s₁.setTop (entryFrame m #[.ref d, .int (Int32.ofNat B.slots.size)] 2)) (s₁.setTop (mkF m 2 #[.val (.ref d), .val (.int (Int32.ofNat B.slots.size))] [.ref d, .int (Int32.ofNat B.slots.size)])) := c1.trans (by
    refine XS.iloadN X0.here hexec rfl (hb hbytes d0) rfl ?_
    refine XS.aloadN X0.here hexec rfl (hb hbytes d1) rfl rfl ?_
    exact Steps.refl _)
  have c3 : Steps p.tables e below (s₁.setTop (entryFrame m #[.ref d, .int (Int32.ofNat B.slots.size)] 2)) (s₁.setTop (mkF m 8 #[.val (.ref d), .val (.int (Int32.ofNat B.slots.size))] [.int (lo8 (ushr (Int32.ofNat B.slots.size - Int32.ofNat B.slots.size) 31))])) := c2.trans (by
    refine X0.alen hexec hB0 rfl rfl (hb hbytes d2) ?_
    refine XS.isub X0.here hexec rfl (hb hbytes d3) rfl ?_
    refine bipushV X0.here hexec rfl 31 (hb hbytes d4) (by decide) ?_
    refine iushr X0.here hexec rfl (hb hbytes d6) rfl ?_
    refine i2b X0.here hexec rfl (hb hbytes d7) rfl ?_
    exact Steps.refl _)
  have e0 : lo8 (ushr (Int32.ofNat B.slots.size - Int32.ofNat B.slots.size) 31) = 0 := by rw [Int32.sub_self]; decide
  rw [e0] at c3
  exact ⟨s₁, some (.int 0), _, _, _, X0, rfl, rfl, rfl, (fun h => by cases h), ⟨rfl, hh0⟩, fun fs hl => c3.trans (X0.ireturnOut hexec hret rfl (Or.inr (Or.inr (Or.inl rfl))) (hb hbytes d8) hl)⟩
end CodL
/-- the String at a is Latin-1 over a new byte[] (the heap's one new cell): the low bytes of the len chars of A from o on; every cell but a is kept -/
def Got (a : Addr) (D : Cell) (fV fC : Field) (A : Cell) (o len : Nat) (r : Option Value) (s u : State) : Prop := r = none ∧ ∃ D' V : Cell, Blank "java/lang/String" a D' u ∧ Same D D' [fV.slot, fC.slot] ∧ D'.slots[fV.slot]? = some (.ref s.heap.size) ∧ D'.slots[fC.slot]? = some (.int 0) ∧ Arr .byte s.heap.size V u ∧ V.vm = .none ∧ u.vm.findClass "[B" = some V.cls ∧ V.slots.size = len ∧ (∀ j, j < len → V.slots[j]? = some (.int (lo8 (cv A (o + j))))) ∧ (∀ (y : Addr) (c : Cell), y ≠ a → s.heap[y]? = some c → u.heap[y]? = some c) ∧ u.heap.size = s.heap.size + 1
theorem Got.mv {a : Addr} {D A : Cell} {fV fC : Field} {o len : Nat} : ∀ r (U U' V V' : State), U'.heap = U.heap → V.vm.Alike V'.vm → V'.heap = V.heap → Got a D fV fC A o len r U V → Got a D fV fC A o len r U' V' :=
  fun r U U' V V' h1 hal h2 ⟨e0, D', X, a1, a2, a3, a4, a5, a6, a7, a8, a9, a10, a11⟩ => ⟨e0, D', X, a1.mv hal h2, a2, by rw [h1]; exact a3, a4, by rw [h1]; exact a5.mv hal h2, a6, by rw [hal.findClass]; exact a7, a8, a9, by rw [h1, h2]; exact a10, by rw [h1, h2]; exact a11⟩
namespace New4
def yN : MethodName := ⟨"java/lang/String", "<init>", "([CIILjava/lang/Void;)V"⟩
abbrev yB : ByteArray := jdk_42_method_149_code
theorem d0 : decode yB 0 = .ok (.aload_n 0, 1) := by decide +kernel
theorem d1 : decode yB 1 = .ok (.invokespecial 1, 3) := by decide +kernel
theorem d4 : decode yB 4 = .ok (.iload_n 3, 1) := by decide +kernel
theorem d5 : decode yB 5 = .ok (.ifCond (.ne) 22, 3) := by decide +kernel
theorem d27 : decode yB 27 = .ok (.getstatic 38, 3) := by decide +kernel
theorem d30 : decode yB 30 = .ok (.ifCond (.eq) 28, 3) := by decide +kernel
theorem d33 : decode yB 33 = .ok (.aload_n 1, 1) := by decide +kernel
theorem d34 : decode yB 34 = .ok (.iload_n 2, 1) := by decide +kernel
theorem d35 : decode yB 35 = .ok (.iload_n 3, 1) := by decide +kernel
theorem d36 : decode yB 36 = .ok (.invokestatic 177, 3) := by decide +kernel
theorem d39 : decode yB 39 = .ok (.astore 5, 2) := by decide +kernel
theorem d41 : decode yB 41 = .ok (.aload_n 0, 1) := by decide +kernel
theorem d42 : decode yB 42 = .ok (.aload 5, 2) := by decide +kernel
theorem d44 : decode yB 44 = .ok (.iload_n 3, 1) := by decide +kernel
theorem d45 : decode yB 45 = .ok (.invokestatic 47, 3) := by decide +kernel
theorem d48 : decode yB 48 = .ok (.putfield 15, 3) := by decide +kernel
theorem d51 : decode yB 51 = .ok (.aload_n 0, 1) := by decide +kernel
theorem d52 : decode yB 52 = .ok (.aload 5, 2) := by decide +kernel
theorem d54 : decode yB 54 = .ok (.putfield 9, 3) := by decide +kernel
theorem d57 : decode yB 57 = .ok (.return_, 1) := by decide +kernel
def site : List Cond := [.fieldLink "java/lang/String" 38 "java/lang/String" "COMPACT_STRINGS" "Z", Cmp3.tab, CodL.tab, .laysFinal "java/lang/String" "java/lang/String" "value" "[B", .fieldLink "java/lang/String" 9 "java/lang/String" "value" "[B", .laysFinal "java/lang/String" "java/lang/String" "coder" "B", .fieldLink "java/lang/String" 15 "java/lang/String" "coder" "B"] ++ objW "java/lang/String" 1 ++ staticW "java/lang/String" 177 Cmp3.yN ++ staticW "java/lang/String" 47 CodL.yN
def tab : Cond := tabOf yN yB 6 none site
def P (a : Addr) (D : Cell) (fV fC : Field) (b : Addr) (A : Cell) (z : Int32) (o len : Nat) (args : Array Value) (s : State) : Prop := args = #[.ref a, .ref b, .int (Int32.ofNat o), .int (Int32.ofNat len), .null] ∧ Blank "java/lang/String" a D s ∧ Found "java/lang/String" "value" "[B" fV s ∧ Found "java/lang/String" "coder" "B" fC s ∧ Ch b A s ∧ StaticIs s "java/lang/String" "COMPACT_STRINGS" "Z" (.int z) ∧ ¬ z = 0 ∧ 0 < len ∧ o + len ≤ A.slots.size ∧ len ≤ 536870912 ∧ ∀ i, i < len → ¬ 255 < cv A (o + i)
def E (a : Addr) (D : Cell) (fV fC : Field) (A : Cell) (o len : Nat) (r : Option Value) (s u : State) : Prop := Got a D fV fC A o len r s u
/-- len > 0, no char of the range above 255: a Latin-1 String of their low bytes -/
theorem law (l : Launch) (a : Addr) (D : Cell) (fV fC : Field) (b : Addr) (A : Cell) (z : Int32) (o len : Nat) : Law l yN 5 4 2 35 yB 6 none site (P a D fV fC b A z o len) (E a D fV fC A o len) [⟨a, fC.slot⟩, ⟨a, fV.slot⟩] 1 len := by
  refine Law.of_walk (plainFor_of_name (by decide +kernel)) (by decide +kernel) (by decide +kernel) (by decide) (fun _ _ h => by rw [h.1]; rfl) (fun _ U U' hal hh h => ⟨h.1, h.2.1.mv hal hh, h.2.2.1.al hal, h.2.2.2.1.al hal, h.2.2.2.2.1.mv hal hh, h.2.2.2.2.2.1.there hal hh, h.2.2.2.2.2.2⟩) (fun r U U' V V' h1 hal h2 h => Got.mv r U U' V V' h1 hal h2 h) ?_
  intro p e s m args below meth c s₁ X0 hexec hbytes hml hret hlk hnm hown hh0 W hP
  obtain ⟨rfl, hB, f1, f2, hA, s1, hz, l0, l1, l2, hp⟩ := hP
  have a31 := hA.1.2.2.2
  have c1 : Steps p.tables e below (s₁.setTop (entryFrame m #[.ref a, .ref b, .int (Int32.ofNat o), .int (Int32.ofNat len), .null] 6)) (s₁.setTop (mkF m 0 #[.val (.ref a), .val (.ref b), .val (.int (Int32.ofNat o)), .val (.int (Int32.ofNat len)), .val .null, .unset] [])) := entry rfl
  have c2 : Steps p.tables e below (s₁.setTop (entryFrame m #[.ref a, .ref b, .int (Int32.ofNat o), .int (Int32.ofNat len), .null] 6)) (s₁.setTop (mkF m 1 #[.val (.ref a), .val (.ref b), .val (.int (Int32.ofNat o)), .val (.int (Int32.ofNat len)), .val .null, .unset] [.ref a])) := c1.trans (by
    refine XS.aloadN X0.here hexec rfl (hb hbytes d0) rfl rfl ?_
    exact Steps.refl _)
  obtain ⟨T3, X3, q3, st3⟩ := X0.oinit hexec hown (wks W (objW "java/lang/String" 1)) (g := (mkF m 1 #[.val (.ref a), .val (.ref b), .val (.int (Int32.ofNat o)), .val (.int (Int32.ofNat len)), .val .null, .unset] [.ref a])) rfl (by rw [hml]; rfl) (rest := []) rfl (hb hbytes d1) (W := 0) (by show 2 * 0 + 0 ≤ _; decide) (Nat.le_of_ble_eq_true rfl) (Nat.le_of_ble_eq_true rfl)
  have hh3 := q3.trans hh0
  have c4 : Steps p.tables e below (s₁.setTop (entryFrame m #[.ref a, .ref b, .int (Int32.ofNat o), .int (Int32.ofNat len), .null] 6)) (T3.setTop (mkF m 27 #[.val (.ref a), .val (.ref b), .val (.int (Int32.ofNat o)), .val (.int (Int32.ofNat len)), .val .null, .unset] [])) := (c2.trans (st3 _ (Steps.refl _))).trans (by
    refine XS.iloadN X3.here hexec rfl (hb hbytes d4) rfl ?_
    refine XS.ifYes X3.here hexec rfl (pc0 := 5) rfl (hb hbytes d5) rfl (i0_ne_t (nz32 (by omega) l0)) (by decide) rfl ?_
    exact Steps.refl _)
  obtain ⟨T5, X5, q5, st5⟩ := X3.sget hexec hown (wk W (.fieldLink "java/lang/String" 38 "java/lang/String" "COMPACT_STRINGS" "Z")) s1 (fun _ _ h => by rw [hh3]; exact h) (g := (mkF m 27 #[.val (.ref a), .val (.ref b), .val (.int (Int32.ofNat o)), .val (.int (Int32.ofNat len)), .val .null, .unset] [])) rfl (hb hbytes d27)
  have hh5 := q5.trans hh3
  have c6 : Steps p.tables e below (s₁.setTop (entryFrame m #[.ref a, .ref b, .int (Int32.ofNat o), .int (Int32.ofNat len), .null] 6)) (T5.setTop (mkF m 30 #[.val (.ref a), .val (.ref b), .val (.int (Int32.ofNat o)), .val (.int (Int32.ofNat len)), .val .null, .unset] [.int z])) := c4.trans (st5 _ (Steps.refl _))
  have c7 : Steps p.tables e below (s₁.setTop (entryFrame m #[.ref a, .ref b, .int (Int32.ofNat o), .int (Int32.ofNat len), .null] 6)) (T5.setTop (mkF m 36 #[.val (.ref a), .val (.ref b), .val (.int (Int32.ofNat o)), .val (.int (Int32.ofNat len)), .val .null, .unset] [.int (Int32.ofNat len), .int (Int32.ofNat o), .ref b])) := c6.trans (by
    refine XS.ifNo X5.here hexec rfl (hb hbytes d30) rfl (i0_eq_f hz) ?_
    refine XS.aloadN X5.here hexec rfl (hb hbytes d33) rfl rfl ?_
    refine XS.iloadN X5.here hexec rfl (hb hbytes d34) rfl ?_
    refine XS.iloadN X5.here hexec rfl (hb hbytes d35) rfl ?_
    exact Steps.refl _)
  obtain ⟨v8, T8, X8, E8, g8⟩ := X5.callS hexec (Cmp3.law l b A o len) hown (wks W (staticW "java/lang/String" 177 Cmp3.yN)) (wk W Cmp3.tab) (W := 0) (Nat.le_of_ble_eq_true rfl) (Nat.le_of_ble_eq_true rfl) (Nat.le_refl _) (by show 0 + len ≤ len; omega) (g := (mkF m 36 #[.val (.ref a), .val (.ref b), .val (.int (Int32.ofNat o)), .val (.int (Int32.ofNat len)), .val .null, .unset] [.int (Int32.ofNat len), .int (Int32.ofNat o), .ref b])) rfl (by rw [hml]; rfl) c7 (argsL := [.ref b, .int (Int32.ofNat o), .int (Int32.ofNat len)]) (rest := []) rfl rfl (by show 2 * 0 + 0 ≤ _; decide) (hb hbytes d36) (⟨rfl, hA.mv X5.warmed.alike hh5, l1, l2, hp⟩)
  obtain ⟨e8, z8⟩ := E8
  obtain ⟨rfl, N, n1, n2, n3, n4, n5, n6⟩ := NewArr.mv _ T5 s _ _ hh5.symm (Vm.Alike.refl _) rfl e8
  rw [hh5] at z8
  have hB1 := hB.keep X8.warmed.alike (n6 _ _ hB.1)
  have hne : s.heap.size ≠ a := (Nat.ne_of_lt (Array.getElem?_eq_some_iff.mp hB.1).1).symm
  have c9 : Steps p.tables e below (s₁.setTop (entryFrame m #[.ref a, .ref b, .int (Int32.ofNat o), .int (Int32.ofNat len), .null] 6)) (T8.setTop (mkF m 39 #[.val (.ref a), .val (.ref b), .val (.int (Int32.ofNat o)), .val (.int (Int32.ofNat len)), .val .null, .unset] [.ref s.heap.size])) := g8
  have c10 : Steps p.tables e below (s₁.setTop (entryFrame m #[.ref a, .ref b, .int (Int32.ofNat o), .int (Int32.ofNat len), .null] 6)) (T8.setTop (mkF m 45 #[.val (.ref a), .val (.ref b), .val (.int (Int32.ofNat o)), .val (.int (Int32.ofNat len)), .val .null, .val (.ref s.heap.size)] [.int (Int32.ofNat N.slots.size), .ref s.heap.size, .ref a])) := by
    have hc : Steps p.tables e below (s₁.setTop (entryFrame m #[.ref a, .ref b, .int (Int32.ofNat o), .int (Int32.ofNat len), .null] 6)) (T8.setTop (mkF m 45 #[.val (.ref a), .val (.ref b), .val (.int (Int32.ofNat o)), .val (.int (Int32.ofNat len)), .val .null, .val (.ref s.heap.size)] [.int (Int32.ofNat len), .ref s.heap.size, .ref a])) := c9.trans (by
      refine XS.astore X8.here hexec rfl (hb hbytes d39) rfl rfl rfl ?_
      refine XS.aloadN X8.here hexec rfl (hb hbytes d41) rfl rfl ?_
      refine XS.aload X8.here hexec rfl (hb hbytes d42) rfl rfl ?_
      refine XS.iloadN X8.here hexec rfl (hb hbytes d44) rfl ?_
      exact Steps.refl _)
    rw [n4]; exact hc
  obtain ⟨v11, T11, X11, E11, g11⟩ := X8.callS hexec (CodL.law l s.heap.size N) hown (wks W (staticW "java/lang/String" 47 CodL.yN)) (wk W CodL.tab) (W := 1) (Nat.le_of_ble_eq_true rfl) (Nat.le_of_ble_eq_true rfl) (Nat.le_refl _) (by show 0 + len + 0 ≤ len; omega) (g := (mkF m 45 #[.val (.ref a), .val (.ref b), .val (.int (Int32.ofNat o)), .val (.int (Int32.ofNat len)), .val .null, .val (.ref s.heap.size)] [.int (Int32.ofNat N.slots.size), .ref s.heap.size, .ref a])) rfl (by rw [hml]; rfl) c10 (argsL := [.ref s.heap.size, .int (Int32.ofNat N.slots.size)]) (rest := [.ref a]) rfl rfl (by show 2 * 0 + (1 + 0) ≤ _; decide) (hb hbytes d45) (⟨rfl, n1⟩)
  obtain ⟨rfl, q11⟩ := E11
  have hB11 := hB1.mv (X8.warmed.alike.symm.trans X11.warmed.alike) q11
  have c12 : Steps p.tables e below (s₁.setTop (entryFrame m #[.ref a, .ref b, .int (Int32.ofNat o), .int (Int32.ofNat len), .null] 6)) (T11.setTop (mkF m 48 #[.val (.ref a), .val (.ref b), .val (.int (Int32.ofNat o)), .val (.int (Int32.ofNat len)), .val .null, .val (.ref s.heap.size)] [.int 0, .ref a])) := g11
  obtain ⟨T13, X13, p13, bl13, sl13, st13⟩ := X11.finit hexec hown (wk W (.fieldLink "java/lang/String" 15 "java/lang/String" "coder" "B")) (Or.inr ⟨_, (wk W (.laysFinal "java/lang/String" "java/lang/String" "coder" "B"))⟩) (Or.inl ⟨rfl, hnm⟩) f2 (Or.inl rfl) hB11 (t := .byte) (by decide +kernel) rfl (g := (mkF m 48 #[.val (.ref a), .val (.ref b), .val (.int (Int32.ofNat o)), .val (.int (Int32.ofNat len)), .val .null, .val (.ref s.heap.size)] [.int 0, .ref a])) rfl (rest := []) rfl (hb hbytes d48)
  have c14 : Steps p.tables e below (s₁.setTop (entryFrame m #[.ref a, .ref b, .int (Int32.ofNat o), .int (Int32.ofNat len), .null] 6)) (T13.setTop (mkF m 54 #[.val (.ref a), .val (.ref b), .val (.int (Int32.ofNat o)), .val (.int (Int32.ofNat len)), .val .null, .val (.ref s.heap.size)] [.ref s.heap.size, .ref a])) := (c12.trans (st13 _ (Steps.refl _))).trans (by
    refine XS.aloadN X13.here hexec rfl (hb hbytes d51) rfl rfl ?_
    refine XS.aload X13.here hexec rfl (hb hbytes d52) rfl rfl ?_
    exact Steps.refl _)
  obtain ⟨T15, X15, p15, bl15, sl15, st15⟩ := X13.finit hexec hown (wk W (.fieldLink "java/lang/String" 9 "java/lang/String" "value" "[B")) (Or.inr ⟨_, (wk W (.laysFinal "java/lang/String" "java/lang/String" "value" "[B"))⟩) (Or.inl ⟨rfl, hnm⟩) f1 (Or.inl rfl) bl13 (t := (.array .byte)) (by decide +kernel) rfl (g := (mkF m 54 #[.val (.ref a), .val (.ref b), .val (.int (Int32.ofNat o)), .val (.int (Int32.ofNat len)), .val .null, .val (.ref s.heap.size)] [.ref s.heap.size, .ref a])) rfl (rest := []) rfl (hb hbytes d54)
  have c16 : Steps p.tables e below (s₁.setTop (entryFrame m #[.ref a, .ref b, .int (Int32.ofNat o), .int (Int32.ofNat len), .null] 6)) (T15.setTop (mkF m 57 #[.val (.ref a), .val (.ref b), .val (.int (Int32.ofNat o)), .val (.int (Int32.ofNat len)), .val .null, .val (.ref s.heap.size)] [])) := c14.trans (st15 _ (Steps.refl _))
  have ap := apart (Or.inr ⟨_, (wk W (.laysFinal "java/lang/String" "java/lang/String" "value" "[B"))⟩) (Or.inr ⟨_, (wk W (.laysFinal "java/lang/String" "java/lang/String" "coder" "B"))⟩) f1 f2 (t₁ := .array .byte) (t₂ := .byte) (by decide +kernel) (by decide +kernel) (by decide)
  have al := X8.warmed.alike.symm.trans X15.warmed.alike
  have n7 : T11.heap[s.heap.size]? = some N := by rw [q11]; exact n1.1
  exact ⟨T15, none, _, _, _, X15, by simp, rfl, by omega, (fun _ => rfl), ⟨rfl, _, N, bl15, ((Same.refl D _).set _ (by simp)).set _ (by simp), sl15, (Cell.slots_setSlot_ne _ ap).trans sl13, n1.keep al (p15.other hne (p13.other hne n7)), n2, by rw [al.findClass]; exact n3, n4, n5, fun y c h1 h2 => p15.other h1 (p13.other h1 (by rw [q11]; exact n6 y c h2)), by rw [p15.2.2, p13.2.2, q11]; exact z8⟩, fun fs hl => c16.trans (X15.returnOut hexec hret (hb hbytes d57) hl)⟩
end New4
namespace New1
def yN : MethodName := ⟨"java/lang/String", "<init>", "([C)V"⟩
abbrev yB : ByteArray := jdk_42_method_3_code
theorem d0 : decode yB 0 = .ok (.aload_n 0, 1) := by decide +kernel
theorem d1 : decode yB 1 = .ok (.aload_n 1, 1) := by decide +kernel
theorem d2 : decode yB 2 = .ok (.iconst 0, 1) := by decide +kernel
theorem d3 : decode yB 3 = .ok (.aload_n 1, 1) := by decide +kernel
theorem d4 : decode yB 4 = .ok (.arraylength, 1) := by decide +kernel
theorem d5 : decode yB 5 = .ok (.aconst_null, 1) := by decide +kernel
theorem d6 : decode yB 6 = .ok (.invokespecial 27, 3) := by decide +kernel
theorem d9 : decode yB 9 = .ok (.return_, 1) := by decide +kernel
def site : List Cond := [New4.tab] ++ initW "java/lang/String" 27 New4.yN
def tab : Cond := tabOf yN yB 2 none site
def P (a : Addr) (D : Cell) (fV fC : Field) (b : Addr) (A : Cell) (z : Int32) (args : Array Value) (s : State) : Prop := args = #[.ref a, .ref b] ∧ Blank "java/lang/String" a D s ∧ Found "java/lang/String" "value" "[B" fV s ∧ Found "java/lang/String" "coder" "B" fC s ∧ Ch b A s ∧ StaticIs s "java/lang/String" "COMPACT_STRINGS" "Z" (.int z) ∧ ¬ z = 0 ∧ 0 < A.slots.size ∧ A.slots.size ≤ 536870912 ∧ ∀ i, i < A.slots.size → ¬ 255 < cv A i
def E (a : Addr) (D : Cell) (fV fC : Field) (A : Cell) (r : Option Value) (s u : State) : Prop := Got a D fV fC A 0 A.slots.size r s u
/-- new String(chars), not empty, no char above 255: a Latin-1 String of their low bytes -/
theorem law (l : Launch) (a : Addr) (D : Cell) (fV fC : Field) (b : Addr) (A : Cell) (z : Int32) : Law l yN 2 1 3 52 yB 2 none site (P a D fV fC b A z) (E a D fV fC A) [⟨a, fC.slot⟩, ⟨a, fV.slot⟩] 1 A.slots.size := by
  refine Law.of_walk (plainFor_of_name (by decide +kernel)) (by decide +kernel) (by decide +kernel) (by decide) (fun _ _ h => by rw [h.1]; rfl) (fun _ U U' hal hh h => ⟨h.1, h.2.1.mv hal hh, h.2.2.1.al hal, h.2.2.2.1.al hal, h.2.2.2.2.1.mv hal hh, h.2.2.2.2.2.1.there hal hh, h.2.2.2.2.2.2⟩) (fun r U U' V V' h1 hal h2 h => Got.mv r U U' V V' h1 hal h2 h) ?_
  intro p e s m args below meth c s₁ X0 hexec hbytes hml hret hlk hnm hown hh0 W hP
  obtain ⟨rfl, hB, f1, f2, hA, s1, hz, l0, l2, hp⟩ := hP
  have c1 : Steps p.tables e below (s₁.setTop (entryFrame m #[.ref a, .ref b] 2)) (s₁.setTop (mkF m 0 #[.val (.ref a), .val (.ref b)] [])) := entry rfl
  have c2 : Steps p.tables e below (s₁.setTop (entryFrame m #[.ref a, .ref b] 2)) (s₁.setTop (mkF m 6 #[.val (.ref a), .val (.ref b)] [.null, .int (Int32.ofNat A.slots.size), .int 0, .ref b, .ref a])) := c1.trans (by
    refine XS.aloadN X0.here hexec rfl (hb hbytes d0) rfl rfl ?_
    refine XS.aloadN X0.here hexec rfl (hb hbytes d1) rfl rfl ?_
    refine iconstV X0.here hexec rfl 0 (hb hbytes d2) (by decide) ?_
    refine XS.aloadN X0.here hexec rfl (hb hbytes d3) rfl rfl ?_
    refine X0.alen hexec (hA.1.mv X0.warmed.alike hh0) rfl rfl (hb hbytes d4) ?_
    refine XS.aconstNull X0.here hexec rfl (hb hbytes d5) ?_
    exact Steps.refl _)
  obtain ⟨v3, T3, X3, E3, g3⟩ := X0.callN hexec (New4.law l a D fV fC b A z 0 A.slots.size) rfl hown (wks W (initW "java/lang/String" 27 New4.yN)) (W New4.tab (by simp only [site, List.mem_cons, List.mem_append, true_or, or_true])) (W := 0) (Nat.le_of_ble_eq_true rfl) (Nat.le_of_ble_eq_true rfl) (Nat.le_refl _) (by show 0 + A.slots.size ≤ A.slots.size; omega) (g := (mkF m 6 #[.val (.ref a), .val (.ref b)] [.null, .int (Int32.ofNat A.slots.size), .int (Int32.ofNat 0), .ref b, .ref a])) rfl (by rw [hml]; rfl) c2 (argsL := [.ref b, .int (Int32.ofNat 0), .int (Int32.ofNat A.slots.size), .null]) (rest := []) rfl rfl (by show 2 * 0 + 0 ≤ _; decide) (hb hbytes d6) (⟨rfl, hB.mv X0.warmed.alike hh0, f1.al X0.warmed.alike, f2.al X0.warmed.alike, hA.mv X0.warmed.alike hh0, s1.there X0.warmed.alike hh0, hz, l0, by omega, l2, fun i hi => by rw [Nat.zero_add]; exact hp i hi⟩)
  have e0 := Got.mv _ s₁ s _ _ hh0.symm (Vm.Alike.refl _) rfl E3
  obtain rfl := e0.1
  have c4 : Steps p.tables e below (s₁.setTop (entryFrame m #[.ref a, .ref b] 2)) (T3.setTop (mkF m 9 #[.val (.ref a), .val (.ref b)] [])) := g3
  exact ⟨T3, none, _, _, _, X3, by simp, rfl, by omega, (fun _ => rfl), e0, fun fs hl => c4.trans (X3.returnOut hexec hret (hb hbytes d9) hl)⟩
theorem pays {l : Launch} {R : Room} {p : Program} {e : Env} {below : List Frame} {s : State} {sargs : Array Value} {len W : Nat} (a : Addr) (D : Cell) (fV fC : Field) (b : Addr) (A : Cell) (z : Int32) (htab : tab.before sargs s = true) (hfr : 4 ≤ R.frames) (hlo : W + 65 ≤ R.locals) :
    Back l R p e below s sargs yN len W (fun A₁ a₁ => A₁.cells + 1 ≤ R.cells ∧ A₁.slots + A.slots.size ≤ R.slots ∧ P a D fV fC b A z a₁ A₁.U) (fun A₁ _ v₁ B₁ => E a D fV fC A v₁ A₁.U B₁.U ∧ B₁.locs = A₁.locs ++ [⟨a, fC.slot⟩, ⟨a, fV.slot⟩] ∧ B₁.cells = A₁.cells + 1 ∧ B₁.slots = A₁.slots + A.slots.size) :=
  (law l a D fV fC b A z).pays htab hfr (by omega)
end New1
end StrChars
namespace StrChars.Road
open Jvm Sem ClassFile Op Lib Jvm.Stand Jvm.Free Jvm.Free.XT
open Jvm.Lib.Cold (StaticIs)
abbrev ST : String := "java/lang/String"
/-- every table word that New1's law asks, flat -/
abbrev words : List Jvm.Cond := [.code New1.yN New1.yB 2 none, .initialized ST, .methodLink ST 27 New4.yN, .instanceMethod New4.yN,
  .code New4.yN New4.yB 6 none, .fieldLink ST 38 ST "COMPACT_STRINGS" "Z", .laysFinal ST ST "value" "[B", .fieldLink ST 9 ST "value" "[B", .laysFinal ST ST "coder" "B", .fieldLink ST 15 ST "coder" "B",
  .methodLink ST 1 Lib.objectInit, .instanceMethod Lib.objectInit, .code Lib.objectInit ⟨#[0xb1]⟩ 1 none, .methodLink ST 177 Cmp3.yN, .static Cmp3.yN, .methodLink ST 47 CodL.yN, .static CodL.yN,
  .code Cmp3.yN Cmp3.yB 6 (some (.array .byte)), .initialized U16, .arrayClass .byte, .methodLink U16 115 Cmp5.yN, .static Cmp5.yN, .code Cmp5.yN Cmp5.yB 7 (some .int), .code CodL.yN CodL.yB 2 (some .byte)]
theorem tab_of {a : Array Value} {s : State} (h : ∀ w ∈ words, w.before a s = true) : New1.tab.before a s = true := by
  have h5 : Cmp5.tab.before a s = true := unparts (wk h (.code Cmp5.yN Cmp5.yB 7 (some .int))) (wks h (.initialized Cmp5.yN.cls :: Cmp5.site))
  have hc : CodL.tab.before a s = true := unparts (wk h (.code CodL.yN CodL.yB 2 (some .byte))) (wks h (.initialized CodL.yN.cls :: CodL.site))
  have q5 : ∀ w ∈ Cmp5.tab :: words, w.before a s = true := fun w hw => (List.mem_cons.mp hw).elim (fun e => e ▸ h5) (h w)
  have h3 : Cmp3.tab.before a s = true := unparts (wk q5 (.code Cmp3.yN Cmp3.yB 6 (some (.array .byte)))) (wks q5 (.initialized Cmp3.yN.cls :: Cmp3.site))
  have q3 : ∀ w ∈ Cmp3.tab :: CodL.tab :: words, w.before a s = true := fun w hw => (List.mem_cons.mp hw).elim (fun e => e ▸ h3) fun hw => (List.mem_cons.mp hw).elim (fun e => e ▸ hc) (h w)
  have h4 : New4.tab.before a s = true := unparts (wk q3 (.code New4.yN New4.yB 6 none)) (wks q3 (.initialized New4.yN.cls :: New4.site))
  have q4 : ∀ w ∈ New4.tab :: words, w.before a s = true := fun w hw => (List.mem_cons.mp hw).elim (fun e => e ▸ h4) (h w)
  exact unparts (wk q4 (.code New1.yN New1.yB 2 none)) (wks q4 (.initialized New1.yN.cls :: New1.site))
/-- the words ride from the start Z to the walk's own state -/
theorem moved {Z s : State} {a0 args : Array Value} (hZ : Z.Warmed39 s.vm) (hw : ∀ d ∈ words, d.before a0 Z = true) : ∀ d ∈ words, d.before args s = true := fun d hd => by
  have q := hw d hd
  have t : ∀ d ∈ words, d = .arrayClass .byte ∨ (d.onTables && d.keepsFace) = true := by decide +kernel
  rcases t d hd with rfl | t
  · exact RoadKit.mvA hZ q
  · exact RoadKit.mv hZ q t
/-- WHAT COMES BACK, over the tables of the start Z: h the heap at the call, h' behind it -/
def Q (Z : State) (x : Addr) (A : Cell) (h : Heap) (v : Option Value) (h' : Heap) (L : List Loc) : Prop := v = none ∧ (∀ y ∈ L, y.base = x) ∧ RoadKit.Keep h h' [x] ∧ h'.size = h.size + 1 ∧ RoadKit.Exa Z h' x ST ∧ RoadKit.Fld Z h' x ST "value" "[B" (.ref h.size) ∧ RoadKit.Fld Z h' x ST "coder" "B" (.int 0) ∧
  (∃ V : Cell, RoadKit.Arr Z h' h.size V .byte ∧ V.vm = .none ∧ Z.vm.findClass "[B" = some V.cls ∧ V.slots.size = A.slots.size ∧ ∀ j, j < A.slots.size → V.slots[j]? = some (.int (lo8 (cv A j)))) ∧
  ∀ (O n d : String) (w : Value), RoadKit.Fld Z h x O n d w → RoadKit.slotOf Z O n d ≠ RoadKit.slotOf Z ST "value" "[B" → RoadKit.slotOf Z O n d ≠ RoadKit.slotOf Z ST "coder" "B" → RoadKit.Fld Z h' x O n d w
/-- **new String(chars) AT A CALL, IN THE ROAD'S FORM**: for specialBack behind newO: x the fresh String, b the char[] with the cell A -/
theorem back {p : Program} {l : Launch} {e : Env} {R : Room} {s : State} {args : Array Value} {below : List Frame} {len W : Nat} {Z : State} {a0 : Array Value} {h : Heap} (hZ : Z.Warmed39 s.vm) (hw : ∀ d ∈ words, d.before a0 Z = true) {kI : Nat} (wi : (Jvm.Cond.instantiable ST kI).before a0 Z = true)
    {x b : Addr} {A : Cell} {z : Int32} {v0 c0 : Value} (E : RoadKit.Exa Z h x ST) (V : RoadKit.Fld Z h x ST "value" "[B" v0) (C : RoadKit.Fld Z h x ST "coder" "B" c0) (K : RoadKit.Arr Z h b A .char) (hty : Typed .char A) (S : RoadKit.Sta Z h ST "COMPACT_STRINGS" "Z" (.int z)) (hz : ¬ z = 0)
    (l0 : 0 < A.slots.size) (l2 : A.slots.size ≤ 536870912) (hp : ∀ i, i < A.slots.size → ¬ 255 < cv A i) (hfr : 4 ≤ R.frames) (hlo : W + 65 ≤ R.locals) :
    Back l R p e below s args New1.yN len W (fun P a => a = #[.ref x, .ref b] ∧ P.U.heap = h ∧ P.cells + 1 ≤ R.cells ∧ P.slots + A.slots.size ≤ R.slots)
      (fun P _ v B => ∃ L, Q Z x A h v B.U.heap L ∧ B.locs = P.locs ++ L ∧ B.cells = P.cells + 1 ∧ B.slots = P.slots + A.slots.size) := by
  intro m meth c P g ig mk a X hg hsize hdg hW hn hp'
  obtain ⟨rfl, rfl, r1, r2⟩ := hp'
  have al : Z.vm.Alike P.U.vm := hZ.alike.trans X.warmed.alike
  obtain ⟨D, cfV, kV, iV, fV, hD, gV, stV, knV, obV, asV, slV⟩ := id V
  obtain ⟨D', cfC, kC, iC, fC, hD', gC, stC, -, -, asC, slC⟩ := id C
  cases hD.symm.trans hD'
  obtain ⟨D2, kD, e1, e2, e3, e4, e5⟩ := id E
  cases hD.symm.trans e1
  obtain ⟨c2, k2, i1, i2, i3, -⟩ := Cond.instantiable_spec wi
  cases e2.symm.trans i1
  cases e3.symm.trans i2
  obtain ⟨kU, u1, u2⟩ := al.2.2 _ _ e3
  have hB : Blank ST x D P.U := ⟨hD, ⟨knV, fun q hq => by rw [hq] at obV; cases obV⟩, by rw [al.findClass]; exact e2, kU, u1, by rw [u2]; exact i3, by rw [u2]; exact e5 i3⟩
  have F1 : Found ST "value" "[B" fV P.U := ⟨SBG.found_only al ⟨cfV, kV, iV, gV⟩, stV⟩
  have F2 : Found ST "coder" "B" fC P.U := ⟨SBG.found_only al ⟨cfC, kC, iC, gC⟩, stC⟩
  have hA : Ch b A P.U := ⟨⟨K.1, State.isArrayOf_alike al K.2.1, K.2.2, by omega⟩, hty⟩
  have hS : StaticIs P.U ST "COMPACT_STRINGS" "Z" (.int z) := by
    obtain ⟨cfS, iS, kS, fS, st, cS, t1, t2, t3, t4, t5, t6, t7⟩ := S
    exact StaticIs.there (s := { Z with heap := P.U.heap }) ⟨cfS, iS, kS, fS, st, cS, t1, t2, t3, t4, t5, (fun q => by rw [q] at t6; cases t6), t7⟩ al rfl
  obtain ⟨v, B, X', ⟨⟨hv, E', V', q1, q2, q3, q4, q5, q6, q7, q8, q9, q10, q11⟩, hl, hc, hs⟩, st⟩ := New1.pays x D fV fC b A z (tab_of (moved hZ hw)) hfr hlo m meth c P g ig mk _ X hg hsize hdg hW hn ⟨r1, r2, rfl, hB, F1, F2, hA, hS, hz, l0, l2, hp⟩
  have al' : Z.vm.Alike B.U.vm := hZ.alike.trans X'.warmed.alike
  have hsz : E'.slots.size = D.slots.size := by
    obtain ⟨-, -, -, kB, w1, w2, w3⟩ := q1
    obtain ⟨kB', y1, y2⟩ := al'.2.2 _ _ e3
    rw [q2.2.1] at w1
    cases w1.symm.trans y1
    rw [w3, e5 i3, y2]
  refine ⟨v, B, X', ⟨_, ⟨hv, ?_, ⟨by omega, fun y cy hy hn' => q10 y cy (by simpa using hn') hy, fun y cy hy => ?_⟩, q11, ⟨E', _, q1.1, by rw [q2.2.1]; exact e2, by rw [q2.2.1]; exact e3, by rw [q2.1]; exact obV, fun _ => by rw [hsz]; exact e5 i3⟩,
    ⟨E', cfV, kV, iV, fV, q1.1, gV, stV, by rw [q2.1]; exact knV, by rw [q2.1]; exact obV, by rw [q2.2.1]; exact asV, q3⟩, ⟨E', cfC, kC, iC, fC, q1.1, gC, stC, by rw [q2.1]; exact knV, by rw [q2.1]; exact obV, by rw [q2.2.1]; exact asC, q4⟩,
    ⟨V', ⟨q5.1, State.isArrayOf_alike al'.symm q5.2.1, q5.2.2.1⟩, q6, by rw [← al'.findClass]; exact q7, q8, fun j hj => by have := q9 j hj; rwa [Nat.zero_add] at this⟩, fun O n d w F n1 n2 => ?_⟩, hl, hc, hs⟩, st⟩
  · intro y hy
    simp only [List.mem_cons, List.not_mem_nil, or_false] at hy
    rcases hy with rfl | rfl <;> rfl
  · by_cases q : y = x
    · subst q
      cases hD.symm.trans hy
      exact ⟨E', q1.1, q2.2.1, q2.1, hsz⟩
    · exact ⟨cy, q10 y cy q hy, rfl, rfl, rfl⟩
  · obtain ⟨D3, cf, k, i, f, g1, g2, g3, g4, g5, g6, g7⟩ := F
    cases hD.symm.trans g1
    simp only [RoadKit.slotOf, g2, gV, gC, Option.map_some, Option.getD_some] at n1 n2
    exact ⟨E', cf, k, i, f, q1.1, g2, g3, by rw [q2.1]; exact g4, by rw [q2.1]; exact g5, by rw [q2.2.1]; exact g6, by rw [q2.2.2 f.slot (by simp [n1, n2])]; exact g7⟩
end StrChars.Road
namespace StrChars.Road
open Jvm Sem ClassFile Op Lib Jvm.Stand Jvm.Free Jvm.Free.XT
/-- WHAT COMES BACK, the byte[] as a list of values -/
def QA (Z : State) (x : Addr) (zn : Int32) (cs : List Int32) (h : Heap) (v : Option Value) (h' : Heap) (L : List Loc) : Prop := v = none ∧ (∀ y ∈ L, y.base = x) ∧ RoadKit.Keep h h' [x] ∧ h'.size = h.size + 1 ∧ RoadKit.Exa Z h' x ST ∧ RoadKit.Fld Z h' x ST "value" "[B" (.ref h.size) ∧ RoadKit.Fld Z h' x ST "coder" "B" (.int 0) ∧
  (∃ kb, Z.vm.findClass "[B" = some kb ∧ RoadKit.Arv Z h' h.size kb .byte zn (cs.map fun c => .int (lo8 c)) (.int 0)) ∧
  ∀ (O n d : String) (w : Value), RoadKit.Fld Z h x O n d w → RoadKit.slotOf Z O n d ≠ RoadKit.slotOf Z ST "value" "[B" → RoadKit.slotOf Z O n d ≠ RoadKit.slotOf Z ST "coder" "B" → RoadKit.Fld Z h' x O n d w
/-- **new String(chars) AT A CALL, THE ARRAYS AS LISTS**: the char[] at b holds cs, not empty, no char above 255 -/
theorem backArv {p : Program} {l : Launch} {e : Env} {R : Room} {s : State} {args : Array Value} {below : List Frame} {len W : Nat} {Z : State} {a0 : Array Value} {h : Heap} (hZ : Z.Warmed39 s.vm) (hw : ∀ d ∈ words, d.before a0 Z = true) {kI : Nat} (wi : (Jvm.Cond.instantiable ST kI).before a0 Z = true)
    {x b : Addr} {k : ClassId} {zn z : Int32} {cs : List Int32} {dv v0 c0 : Value} (E : RoadKit.Exa Z h x ST) (V : RoadKit.Fld Z h x ST "value" "[B" v0) (C : RoadKit.Fld Z h x ST "coder" "B" c0) (K : RoadKit.Arv Z h b k .char zn (cs.map Value.int) dv) (S : RoadKit.Sta Z h ST "COMPACT_STRINGS" "Z" (.int z)) (hz : ¬ z = 0)
    (hlen : zn.toNatClampNeg = cs.length) (h0 : 0 < cs.length) (hbig : cs.length ≤ 536870912) (hall : ∀ c ∈ cs, ¬ 255 < c) (hfr : 4 ≤ R.frames) (hlo : W + 65 ≤ R.locals) :
    Back l R p e below s args New1.yN len W (fun P a => a = #[.ref x, .ref b] ∧ P.U.heap = h ∧ P.cells + 1 ≤ R.cells ∧ P.slots + cs.length ≤ R.slots)
      (fun P _ v B => ∃ L, QA Z x zn cs h v B.U.heap L ∧ B.locs = P.locs ++ L ∧ B.cells = P.cells + 1 ∧ B.slots = P.slots + cs.length) := by
  obtain ⟨A, K1, K2, K3, K4, K5, K6⟩ := K
  have e : A.slots.size = cs.length := K3.trans hlen
  have hat : ∀ (i : Nat) (hi : i < cs.length), A.slots[i]? = some (.int cs[i]) := fun i hi => by rw [K5 i (by omega)]; simp [List.getD_eq_getElem?_getD, hi]
  have hcv : ∀ (i : Nat) (hi : i < cs.length), cv A i = cs[i] := fun i hi => by unfold cv; rw [hat i hi]
  have hty : Typed .char A := fun i v hv => by
    have hi : i < A.slots.size := (Array.getElem?_eq_some_iff.mp hv).1
    have q := K5 i hi
    rw [hv] at q
    rw [Option.some.inj q]
    exact K6 i hi
  refine Back.mono (back hZ hw wi E V C K1 hty S hz (by omega) (by omega) (fun i hi => by rw [hcv i (by omega)]; exact hall _ (List.getElem_mem _)) hfr hlo) (fun P a hp => ⟨hp.1, hp.2.1, hp.2.2.1, by rw [e]; exact hp.2.2.2⟩) (fun P a v B hp hq => ?_)
  obtain ⟨L, ⟨q1, q2, q3, q4, q5, q6, q7, ⟨V', v1, v2, v3, v4, v5⟩, q9⟩, hl, hc, hs⟩ := hq
  refine ⟨L, ⟨q1, q2, q3, q4, q5, q6, q7, ⟨V'.cls, v3, V', v1, rfl, by rw [v4, e, hlen], K4, fun i hi => ?_, fun i hi => ?_⟩, q9⟩, hl, hc, by rw [hs, e]⟩
  · have hi' : i < cs.length := by omega
    rw [v5 i (by omega), hcv i hi']; simp [List.getD_eq_getElem?_getD, hi']
  · have hi' : i < cs.length := by omega
    simp only [List.getD_eq_getElem?_getD, List.getElem?_map, List.getElem?_eq_getElem hi', Option.map_some, Option.getD_some]
    exact fits_lo8 _
end StrChars.Road
namespace StrChars.Road
open Jvm Sem ClassFile Op Lib Jvm.Stand Jvm.Free Jvm.Free.XT
/-- WHAT COMES BACK, in the writer's own shape -/
def QV (Z : State) (x : Addr) (N : Int32) (bs : List Int32) (h : Heap) (n0 : Nat) (v : Option Value) (h' : Heap) (L : List Loc) : Prop := v = none ∧ RoadKit.Fr n0 L ∧ RoadKit.Keep h h' [x] ∧ RoadKit.Exa Z h' x ST ∧ RoadKit.Fld Z h' x ST "coder" "B" (.int 0) ∧
  ∃ (t : Addr) (kb : ClassId), n0 ≤ t ∧ h.size ≤ t ∧ ¬ t = x ∧ RoadKit.Fld Z h' x ST "value" "[B" (.ref t) ∧ RoadKit.Arv Z h' t kb .byte N (bs.map Value.int) (.int 0)
/-- **new String(chars) AT A CALL, FOR THE WRITER**: a char[] of n known ints, each 0 to 255 -/
theorem backV {p : Program} {l : Launch} {e : Env} {R : Room} {s : State} {args : Array Value} {below : List Frame} {len W : Nat} {Z : State} {a0 : Array Value} {h : Heap} (hZ : Z.Warmed39 s.vm) (hw : ∀ d ∈ words, d.before a0 Z = true) {kI : Nat} (wi : (Jvm.Cond.instantiable ST kI).before a0 Z = true)
    {x b : Addr} {kC : ClassId} {cs bs : List Int32} {d v0 c0 : Value} {z N : Int32} {n n0 : Nat} (hx0 : n0 ≤ x) (hh0 : n0 ≤ h.size) (E : RoadKit.Exa Z h x ST) (V : RoadKit.Fld Z h x ST "value" "[B" v0) (C : RoadKit.Fld Z h x ST "coder" "B" c0) (K : RoadKit.Arv Z h b kC .char N (cs.map Value.int) d) (S : RoadKit.Sta Z h ST "COMPACT_STRINGS" "Z" (.int z)) (hz : ¬ z = 0)
    (hn : cs.length = n) (hN : N = Int32.ofNat n) (l0 : 0 < n) (l2 : n ≤ 4000) (hp : ∀ c ∈ cs, ¬ c < 0 ∧ ¬ (255 : Int32) < c) (hb : bs = cs.map (fun c => c.toInt8.toInt32)) (hfr : 4 ≤ R.frames) (hlo : W + 65 ≤ R.locals) :
    Back l R p e below s args (⟨"java/lang/String", "<init>", "([C)V"⟩ : MethodName) len W (fun P a => a = #[.ref x, .ref b] ∧ P.U.heap = h ∧ P.cells + 1 ≤ R.cells ∧ P.slots + n ≤ R.slots)
      (fun P _ v B => ∃ L, QV Z x N bs h n0 v B.U.heap L ∧ B.locs = P.locs ++ L ∧ B.cells = P.cells + 1 ∧ B.slots = P.slots + n) := by
  subst hn hN hb
  refine Back.mono (backArv hZ hw wi E V C K S hz (n32 (by omega)) l0 (by omega) (fun c hc => (hp c hc).2) hfr hlo) (fun P a hp => hp) (fun P a v B hp hq => ?_)
  obtain ⟨L, ⟨q1, q2, q3, q4, q5, q6, q7, ⟨kb, v1, v2⟩, q9⟩, hl, hc, hs⟩ := hq
  exact ⟨L, ⟨q1, fun y hy => by rw [q2 y hy]; exact hx0, q3, q5, q7, h.size, kb, hh0, Nat.le_refl _, Nat.ne_of_gt E.lt, q6, by rw [List.map_map]; exact v2⟩, hl, hc, hs⟩
end StrChars.Road
end Jvm.Pilot.@@N@@

namespace Jvm.Pilot.@@N@@
open Jvm Jvm.ClassFile Sem Op Lib Jvm.Free Jvm.Stand Jvm.LawKit Jvm.RoadKit Bundle Jvm.Pilot.@@N@@.Jvm.D
/-- what is said of the start -/
def Wd (Z : State) (a0 : Array Value) : Prop := (∀ d ∈ tables_1, d.before a0 Z = true) ∧ (∃ z : Int32, Sta Z Z.heap "java/lang/String" "COMPACT_STRINGS" "Z" (.int z) ∧ ¬ z = 0) ∧ (∃ (de : Addr) (kde : ClassId), Sta Z Z.heap "java/util/ArrayList" "DEFAULTCAPACITY_EMPTY_ELEMENTDATA" "[Ljava/lang/Object;" (.ref de) ∧ Arv Z Z.heap de kde (.object "java/lang/Object") (0 : Int32) [] .null) ∧ (∃ a : Addr, Sta Z Z.heap "java/util/ImmutableCollections" "EMPTY" "Ljava/lang/Object;" (.ref a)) ∧ (∃ a : Addr, Sta Z Z.heap "java/util/ImmutableCollections" "EMPTY_LIST" "Ljava/util/ImmutableCollections$ListN;" (.ref a)) ∧ (∃ (cO : ClassId) (kO : Class) (mrO : Addr), Z.vm.findClass "[Ljava/lang/Object;" = some cO ∧ Z.vm.classes[cO]? = some kO ∧ kO.mirror = some mrO) ∧ (∃ k0 k1 k2 k3 k4 : Addr, Sta Z Z.heap "com/example/gridtally/gridtally/determinant/Column$Kind" "DECIMAL" "Lcom/example/gridtally/gridtally/determinant/Column$Kind;" (.ref k0) ∧ Sta Z Z.heap "com/example/gridtally/gridtally/determinant/Column$Kind" "OPTIONAL_DECIMAL" "Lcom/example/gridtally/gridtally/determinant/Column$Kind;" (.ref k1) ∧ Sta Z Z.heap "com/example/gridtally/gridtally/determinant/Column$Kind" "YES_NO" "Lcom/example/gridtally/gridtally/determinant/Column$Kind;" (.ref k2) ∧ Sta Z Z.heap "com/example/gridtally/gridtally/determinant/Column$Kind" "TEXT" "Lcom/example/gridtally/gridtally/determinant/Column$Kind;" (.ref k3) ∧ Sta Z Z.heap "com/example/gridtally/gridtally/determinant/Column$Kind" "KEY" "Lcom/example/gridtally/gridtally/determinant/Column$Kind;" (.ref k4) ∧ k0 ≠ k1 ∧ k2 ≠ k1 ∧ k3 ≠ k1 ∧ k4 ≠ k1)
-- java/lang/StringLatin1.canEncode:(C)Z
def Q_canEncode (Z : State) (ch : Int32) (h0 : Heap) (v : Option Value) (h : Heap) (L : List Loc) : Prop := v = some (.int 1) ∧ Fr Z.heap.size L ∧ h = h0
theorem ef_canEncode (m : MethodId) (ch : Int32) : entryFrame m #[(.int ch)] 1 = mkF m 0 #[.val (.int ch)] [] := by first | (simp [entryFrame, mkF, argsToLocals, Value.category]; done) | rfl
theorem pn_0 : plainName "java/lang/StringLatin1" = true := by first | (simp [plainName, overriddenIn]; done) | decide +kernel
theorem d_jdk_43_3_0 : decode jdk_43_method_3_code 0 = .ok (.iload_n 0, 1) := by decide +kernel
theorem d_jdk_43_3_1 : decode jdk_43_method_3_code 1 = .ok (.sipush 255, 3) := by decide +kernel
theorem d_jdk_43_3_4 : decode jdk_43_method_3_code 4 = .ok (.if_icmp .gt 7, 3) := by decide +kernel
theorem d_jdk_43_3_7 : decode jdk_43_method_3_code 7 = .ok (.iconst 1, 1) := by decide +kernel
theorem d_jdk_43_3_8 : decode jdk_43_method_3_code 8 = .ok (.goto 4, 3) := by decide +kernel
theorem d_jdk_43_3_12 : decode jdk_43_method_3_code 12 = .ok (.ireturn, 1) := by decide +kernel
set_option maxRecDepth 65536 in
set_option maxHeartbeats 40000000 in
theorem rm_canEncode (l : Launch) {Z : State} {a0 : Array Value} (hD : Wd Z a0) (ch : Int32) {h0 : Heap} (O0 : Ext Z.heap h0) (hc : ¬ (255 : Int32) < ch) :
    Con l Z (⟨"java/lang/StringLatin1", "canEncode", "(C)Z"⟩ : MethodName) jdk_43_method_3_code 1 (some .boolean) [] ({ frames := 0, cells := 0, slots := 0, locals := 0 } : Room) #[(.int ch)] h0 (Q_canEncode Z ch h0) := by
  refine Con.walk (plainFor_of_name pn_0) ?_
  intro p e s m below meth c T0 X0 hx hZ hby hml hown hnm hret hlk e0
  obtain ⟨hw, ⟨cz, S_CS, hcz⟩, ⟨xde, xkde, S_DE, V_DE⟩, ⟨aEM, S_EM⟩, ⟨aEL, S_EL⟩, ⟨cO, kO, mrO, mir1, mir2, mir3⟩, ⟨k0, k1, k2, k3, k4, S_K0, S_K1, S_K2, S_K3, S_K4, kn0, kn2, kn3, kn4⟩⟩ := id hD
  have N0 := Fr.nil Z.heap.size
  refine OEnds.cast (ef_canEncode m ch) ?_
  refine OEnds.st (S' := T0.setTop (mkF m 12 #[.val (.int ch)] [(.int (1 : Int32))])) (fun _ k => ?_) ?_
  · show Steps p.tables e below (T0.setTop (mkF m 0 #[.val (.int ch)] [])) _
    refine XS.iloadN X0.here hx rfl (hb hby d_jdk_43_3_0) rfl ?_
    show Steps p.tables e below (T0.setTop (mkF m 1 #[.val (.int ch)] [(.int ch)])) _
    refine XS.sipush X0.here hx rfl (hb hby d_jdk_43_3_1) ?_
    show Steps p.tables e below (T0.setTop (mkF m 4 #[.val (.int ch)] [(.int (255 : Int32)), (.int ch)])) _
    refine XS.icmpNo X0.here hx rfl (hb hby d_jdk_43_3_4) rfl (flt hc).2.2.1 ?_
    show Steps p.tables e below (T0.setTop (mkF m 7 #[.val (.int ch)] [])) _
    refine XS.iconst X0.here hx rfl (hb hby d_jdk_43_3_7) ?_
    show Steps p.tables e below (T0.setTop (mkF m 8 #[.val (.int ch)] [(.int (1 : Int32))])) _
    refine XS.goto X0.here hx rfl (pc0 := 8) (pc' := 12) rfl (hb hby d_jdk_43_3_8) (by decide) (by decide) ?_
    exact k
  exact OEnds.ret X0 hx hret hlk (by decide) (Or.inl ⟨rfl, by simp, _, rfl⟩) (hb hby d_jdk_43_3_12) (by decide) (by decide) (by rw [e0]; exact ⟨rfl, N0, rfl⟩)
-- java/lang/StringLatin1.toBytes:(C)[B
def Q_toBytesC (Z : State) (ch : Int32) (h0 : Heap) (v : Option Value) (h : Heap) (L : List Loc) : Prop := ∃ (t : Addr) (k : ClassId), v = some (.ref t) ∧ Fr Z.heap.size L ∧ Keep h0 h [] ∧ h0.size ≤ t ∧ Arv Z h t k .byte (1 : Int32) [.int ch.toInt8.toInt32] (.int 0)
theorem ef_toBytesC (m : MethodId) (ch : Int32) : entryFrame m #[(.int ch)] 1 = mkF m 0 #[.val (.int ch)] [] := by first | (simp [entryFrame, mkF, argsToLocals, Value.category]; done) | rfl
theorem d_jdk_43_46_0 : decode jdk_43_method_46_code 0 = .ok (.iconst 1, 1) := by decide +kernel
theorem d_jdk_43_46_1 : decode jdk_43_method_46_code 1 = .ok (.newarray .byte, 2) := by decide +kernel
theorem d_jdk_43_46_3 : decode jdk_43_method_46_code 3 = .ok (.dup, 1) := by decide +kernel
theorem d_jdk_43_46_4 : decode jdk_43_method_46_code 4 = .ok (.iconst 0, 1) := by decide +kernel
theorem d_jdk_43_46_5 : decode jdk_43_method_46_code 5 = .ok (.iload_n 0, 1) := by decide +kernel
theorem d_jdk_43_46_6 : decode jdk_43_method_46_code 6 = .ok (.i2b, 1) := by decide +kernel
theorem d_jdk_43_46_7 : decode jdk_43_method_46_code 7 = .ok (.bastore, 1) := by decide +kernel
theorem d_jdk_43_46_8 : decode jdk_43_method_46_code 8 = .ok (.areturn, 1) := by decide +kernel
set_option maxRecDepth 65536 in
set_option maxHeartbeats 40000000 in
theorem rm_toBytesC (l : Launch) {Z : State} {a0 : Array Value} (hD : Wd Z a0) (ch : Int32) {h0 : Heap} (O0 : Ext Z.heap h0) :
    Con l Z (⟨"java/lang/StringLatin1", "toBytes", "(C)[B"⟩ : MethodName) jdk_43_method_46_code 1 (some (.array .byte)) [] ({ frames := 0, cells := 1, slots := 1, locals := 0 } : Room) #[(.int ch)] h0 (Q_toBytesC Z ch h0) := by
  refine Con.walk (plainFor_of_name pn_0) ?_
  intro p e s m below meth c T0 X0 hx hZ hby hml hown hnm hret hlk e0
  obtain ⟨hw, ⟨cz, S_CS, hcz⟩, ⟨xde, xkde, S_DE, V_DE⟩, ⟨aEM, S_EM⟩, ⟨aEL, S_EL⟩, ⟨cO, kO, mrO, mir1, mir2, mir3⟩, ⟨k0, k1, k2, k3, k4, S_K0, S_K1, S_K2, S_K3, S_K4, kn0, kn2, kn3, kn4⟩⟩ := id hD
  have N0 := Fr.nil Z.heap.size
  have K0 : Keep h0 h0 [] := Keep.refl _ _
  refine OEnds.cast (ef_toBytesC m ch) ?_
  refine OEnds.st (S' := T0.setTop (mkF m 1 #[.val (.int ch)] [(.int (1 : Int32))])) (fun _ k => ?_) ?_
  · show Steps p.tables e below (T0.setTop (mkF m 0 #[.val (.int ch)] [])) _
    refine XS.iconst X0.here hx rfl (hb hby d_jdk_43_46_0) ?_
    exact k
  obtain ⟨T1, h1, k1, X1, e1, E1, A1, st1⟩ := newP X0 hx hZ (hw _ (List.mem_of_getElem? (i := 23) rfl)) e0 (g := (mkF m 1 #[.val (.int ch)] [(.int (1 : Int32))])) rfl (hb hby d_jdk_43_46_1) rfl (by decide) (cap := 1) (by decide) (by decide) (by decide) (by decide)
  obtain ⟨b1, g1⟩ : ∃ z, z = h0.size := ⟨_, rfl⟩
  rw [← g1] at A1 st1
  refine OEnds.st (S' := T1.setTop (mkF m 3 #[.val (.int ch)] [(.ref b1)])) st1 ?_
  have ge_b1 : Z.heap.size ≤ b1 := Nat.le_trans O0.1 (Nat.le_of_eq g1.symm)
  have sz_b1 : h0.size ≤ b1 := Nat.le_trans K0.1 (Nat.le_of_eq g1.symm)
  replace O0 : Ext Z.heap h1 := ext_trans O0 E1
  replace K0 : Keep h0 h1 [] := K0.ext E1
  have V_b1 : Arv Z h1 b1 k1 .byte (1 : Int32) [(.int (0 : Int32))] (.int (0 : Int32)) := (Arv.new A1 (by decide)).pad (pad_rep [] (.int (0 : Int32)) 1)
  refine OEnds.st (S' := T1.setTop (mkF m 7 #[.val (.int ch)] [(.int (ch.toInt8.toInt32)), (.int (0 : Int32)), (.ref b1), (.ref b1)])) (fun _ k => ?_) ?_
  · show Steps p.tables e below (T1.setTop (mkF m 3 #[.val (.int ch)] [(.ref b1)])) _
    refine XS.dup X1.here hx rfl (hb hby d_jdk_43_46_3) rfl rfl ?_
    show Steps p.tables e below (T1.setTop (mkF m 4 #[.val (.int ch)] [(.ref b1), (.ref b1)])) _
    refine XS.iconst X1.here hx rfl (hb hby d_jdk_43_46_4) ?_
    show Steps p.tables e below (T1.setTop (mkF m 5 #[.val (.int ch)] [(.int (0 : Int32)), (.ref b1), (.ref b1)])) _
    refine XS.iloadN X1.here hx rfl (hb hby d_jdk_43_46_5) rfl ?_
    show Steps p.tables e below (T1.setTop (mkF m 6 #[.val (.int ch)] [(.int ch), (.int (0 : Int32)), (.ref b1), (.ref b1)])) _
    refine XS.i2b X1.here hx rfl (hb hby d_jdk_43_46_6) rfl ?_
    exact k
  obtain ⟨cl_b1_2, Ar_b1_2, q_b1_2, S_b1_2, N_b1_2, H_b1_2, G_b1_2⟩ := V_b1
  obtain ⟨T2, h2, X2, e2, W2, st2⟩ := stB X1 hx hZ e1 Ar_b1_2 (j := (0 : Int32)) (inb_of S_b1_2 ⟨by decide, by decide⟩) (g := (mkF m 7 #[.val (.int ch)] [(.int (ch.toInt8.toInt32)), (.int (0 : Int32)), (.ref b1), (.ref b1)])) rfl rfl (hb hby d_jdk_43_46_7)
  have V_b1_2 : Arv Z h2 b1 k1 .byte (1 : Int32) [(.int (nar .byte (ch.toInt8.toInt32)))] (.int (0 : Int32)) := Arv.set Ar_b1_2 q_b1_2 S_b1_2 N_b1_2 H_b1_2 G_b1_2 (fits_nar_byte _) W2 0 rfl (Nat.le_of_ble_eq_true rfl)
  refine OEnds.st (S' := T2.setTop (mkF m 8 #[.val (.int ch)] [(.ref b1)])) st2 ?_
  replace O0 : Ext Z.heap h2 := ext_wr O0 W2 ge_b1
  replace N0 := Fr.snoc X2 N0 ge_b1
  replace K0 : Keep h0 h2 [] := K0.wr W2 (Or.inr sz_b1)
  rw [nar_b8] at V_b1_2
  exact OEnds.ret X2 hx hret hlk rfl (Or.inr (Or.inr (Or.inr (Or.inr ⟨rfl, rfl, rfl⟩)))) (hb hby d_jdk_43_46_8) (by decide) (by decide) (by rw [e2]; exact ⟨b1, _, rfl, N0, K0, sz_b1, V_b1_2⟩)
-- java/lang/String.<init>:([BB)V
def Q_strInitBB (Z : State) (a : Addr) (t : Addr) (h0 : Heap) (v : Option Value) (h : Heap) (L : List Loc) : Prop := v = none ∧ Fr Z.heap.size L ∧ Keep h0 h [a] ∧ Exa Z h a "java/lang/String" ∧ Fld Z h a "java/lang/String" "value" "[B" (.ref t) ∧ Fld Z h a "java/lang/String" "coder" "B" (.int 0)
theorem ef_strInitBB (m : MethodId) (a : Addr) (t : Addr) : entryFrame m #[(.ref a), (.ref t), (.int (0 : Int32))] 3 = mkF m 0 #[.val (.ref a), .val (.ref t), .val (.int (0 : Int32))] [] := by first | (simp [entryFrame, mkF, argsToLocals, Value.category]; done) | rfl
theorem pn_1 : plainName "java/lang/String" = true := by first | (simp [plainName, overriddenIn]; done) | decide +kernel
theorem d_jdk_42_151_0 : decode jdk_42_method_151_code 0 = .ok (.aload_n 0, 1) := by decide +kernel
theorem d_jdk_42_151_1 : decode jdk_42_method_151_code 1 = .ok (.invokespecial 1, 3) := by decide +kernel
theorem d_jdk_42_151_4 : decode jdk_42_method_151_code 4 = .ok (.aload_n 0, 1) := by decide +kernel
theorem d_jdk_42_151_5 : decode jdk_42_method_151_code 5 = .ok (.aload_n 1, 1) := by decide +kernel
theorem d_jdk_42_151_6 : decode jdk_42_method_151_code 6 = .ok (.putfield 9, 3) := by decide +kernel
theorem d_jdk_42_151_9 : decode jdk_42_method_151_code 9 = .ok (.aload_n 0, 1) := by decide +kernel
theorem d_jdk_42_151_10 : decode jdk_42_method_151_code 10 = .ok (.iload_n 2, 1) := by decide +kernel
theorem d_jdk_42_151_11 : decode jdk_42_method_151_code 11 = .ok (.putfield 15, 3) := by decide +kernel
theorem d_jdk_42_151_14 : decode jdk_42_method_151_code 14 = .ok (.return_, 1) := by decide +kernel
set_option maxRecDepth 65536 in
set_option maxHeartbeats 40000000 in
theorem rm_strInitBB (l : Launch) {Z : State} {a0 : Array Value} (hD : Wd Z a0) (a : Addr) (t : Addr) {h0 : Heap} (O0 : Ext Z.heap h0) (E_a : Exa Z h0 a "java/lang/String") (F_value_a : Fld Z h0 a "java/lang/String" "value" "[B" .null) (F_coder_a : Fld Z h0 a "java/lang/String" "coder" "B" (.int 0)) (ge_a : Z.heap.size ≤ a) :
    Con l Z (⟨"java/lang/String", "<init>", "([BB)V"⟩ : MethodName) jdk_42_method_151_code 3 none [] ({ frames := 1, cells := 0, slots := 0, locals := 12 } : Room) #[(.ref a), (.ref t), (.int (0 : Int32))] h0 (Q_strInitBB Z a t h0) := by
  refine Con.walk (plainFor_of_name pn_1) ?_
  intro p e s m below meth c T0 X0 hx hZ hby hml hown hnm hret hlk e0
  obtain ⟨hw, ⟨cz, S_CS, hcz⟩, ⟨xde, xkde, S_DE, V_DE⟩, ⟨aEM, S_EM⟩, ⟨aEL, S_EL⟩, ⟨cO, kO, mrO, mir1, mir2, mir3⟩, ⟨k0, k1, k2, k3, k4, S_K0, S_K1, S_K2, S_K3, S_K4, kn0, kn2, kn3, kn4⟩⟩ := id hD
  have N0 := Fr.nil Z.heap.size
  have K0 : Keep h0 h0 [a] := Keep.refl _ _
  refine OEnds.cast (ef_strInitBB m a t) ?_
  refine OEnds.st (S' := T0.setTop (mkF m 1 #[.val (.ref a), .val (.ref t), .val (.int (0 : Int32))] [(.ref a)])) (fun _ k => ?_) ?_
  · show Steps p.tables e below (T0.setTop (mkF m 0 #[.val (.ref a), .val (.ref t), .val (.int (0 : Int32))] [])) _
    refine XS.aloadN X0.here hx rfl (hb hby d_jdk_42_151_0) rfl rfl ?_
    exact k
  obtain ⟨T1, X1, e1, st1⟩ := initO X0 hx hZ hown (hw _ (List.mem_of_getElem? (i := 15) rfl)) (hw _ (List.mem_of_getElem? (i := 16) rfl)) (hw _ (List.mem_of_getElem? (i := 17) rfl)) e0 (g := (mkF m 1 #[.val (.ref a), .val (.ref t), .val (.int (0 : Int32))] [(.ref a)])) rfl (by rw [hml]; rfl) rfl (hb hby d_jdk_42_151_1) (by decide) (W := 0) (by show 2 * 0 + _ ≤ _; exact Nat.le_of_eq rfl) (by decide)
  refine OEnds.st (S' := T1.setTop (mkF m 4 #[.val (.ref a), .val (.ref t), .val (.int (0 : Int32))] [])) st1 ?_
  refine OEnds.st (S' := T1.setTop (mkF m 6 #[.val (.ref a), .val (.ref t), .val (.int (0 : Int32))] [(.ref t), (.ref a)])) (fun _ k => ?_) ?_
  · show Steps p.tables e below (T1.setTop (mkF m 4 #[.val (.ref a), .val (.ref t), .val (.int (0 : Int32))] [])) _
    refine XS.aloadN X1.here hx rfl (hb hby d_jdk_42_151_4) rfl rfl ?_
    show Steps p.tables e below (T1.setTop (mkF m 5 #[.val (.ref a), .val (.ref t), .val (.int (0 : Int32))] [(.ref a)])) _
    refine XS.aloadN X1.here hx rfl (hb hby d_jdk_42_151_5) rfl rfl ?_
    exact k
  obtain ⟨T2, h2, X2, e2, W2, st2⟩ := putF X1 hx hZ hown (host := "") (Or.inl (hw _ (List.mem_of_getElem? (i := 32) rfl))) Via.refl e1 F_value_a E_a (Or.inr ⟨(hw _ (List.mem_of_getElem? (i := 33) rfl)), rfl, hnm⟩) (hw _ (List.mem_of_getElem? (i := 6) rfl)) (ty := (.array .byte)) (by decide) rfl rfl (g := (mkF m 6 #[.val (.ref a), .val (.ref t), .val (.int (0 : Int32))] [(.ref t), (.ref a)])) rfl rfl (hb hby d_jdk_42_151_6)
  refine OEnds.st (S' := T2.setTop (mkF m 9 #[.val (.ref a), .val (.ref t), .val (.int (0 : Int32))] [])) st2 ?_
  replace E_a := E_a.wr W2
  replace F_value_a := F_value_a.same W2
  replace F_coder_a := F_coder_a.other W2 (Or.inr (slot_ne (Or.inr (hw _ (List.mem_of_getElem? (i := 31) rfl))) (Or.inr (hw _ (List.mem_of_getElem? (i := 33) rfl))) (by decide) (t := .byte) (t' := (.array .byte)) (by decide) (by decide)))
  replace O0 : Ext Z.heap h2 := ext_wr O0 W2 ge_a
  replace N0 := Fr.snoc X2 N0 ge_a
  replace K0 : Keep h0 h2 [a] := K0.wr W2 (Or.inl (List.mem_of_getElem? (i := 0) rfl))
  refine OEnds.st (S' := T2.setTop (mkF m 11 #[.val (.ref a), .val (.ref t), .val (.int (0 : Int32))] [(.int (0 : Int32)), (.ref a)])) (fun _ k => ?_) ?_
  · show Steps p.tables e below (T2.setTop (mkF m 9 #[.val (.ref a), .val (.ref t), .val (.int (0 : Int32))] [])) _
    refine XS.aloadN X2.here hx rfl (hb hby d_jdk_42_151_9) rfl rfl ?_
    show Steps p.tables e below (T2.setTop (mkF m 10 #[.val (.ref a), .val (.ref t), .val (.int (0 : Int32))] [(.ref a)])) _
    refine XS.iloadN X2.here hx rfl (hb hby d_jdk_42_151_10) rfl ?_
    exact k
  obtain ⟨T3, h3, X3, e3, W3, st3⟩ := putF X2 hx hZ hown (host := "") (Or.inl (hw _ (List.mem_of_getElem? (i := 30) rfl))) Via.refl e2 F_coder_a E_a (Or.inr ⟨(hw _ (List.mem_of_getElem? (i := 31) rfl)), rfl, hnm⟩) (hw _ (List.mem_of_getElem? (i := 6) rfl)) (ty := .byte) (by decide) rfl rfl (g := (mkF m 11 #[.val (.ref a), .val (.ref t), .val (.int (0 : Int32))] [(.int (0 : Int32)), (.ref a)])) rfl rfl (hb hby d_jdk_42_151_11)
  refine OEnds.st (S' := T3.setTop (mkF m 14 #[.val (.ref a), .val (.ref t), .val (.int (0 : Int32))] [])) st3 ?_
  replace E_a := E_a.wr W3
  replace F_value_a := F_value_a.other W3 (Or.inr (slot_ne (Or.inr (hw _ (List.mem_of_getElem? (i := 33) rfl))) (Or.inr (hw _ (List.mem_of_getElem? (i := 31) rfl))) (by decide) (t := (.array .byte)) (t' := .byte) (by decide) (by decide)))
  replace F_coder_a := F_coder_a.same W3
  replace O0 : Ext Z.heap h3 := ext_wr O0 W3 ge_a
  replace N0 := Fr.snoc X3 N0 ge_a
  replace K0 : Keep h0 h3 [a] := K0.wr W3 (Or.inl (List.mem_of_getElem? (i := 0) rfl))
  exact OEnds.retV X3 hx hret hlk (hb hby d_jdk_42_151_14) (by decide) (by decide) (by rw [e3]; exact ⟨rfl, N0, K0, E_a, F_value_a, F_coder_a⟩)
-- java/lang/String.valueOf:(C)Ljava/lang/String;
def Q_valueOfC (Z : State) (ch : Int32) (h0 : Heap) (v : Option Value) (h : Heap) (L : List Loc) : Prop := ∃ (r t : Addr) (k : ClassId), v = some (.ref r) ∧ Fr Z.heap.size L ∧ Keep h0 h [] ∧ h0.size ≤ r ∧ h0.size ≤ t ∧ r ≠ t ∧ Exa Z h r "java/lang/String" ∧ Fld Z h r "java/lang/String" "coder" "B" (.int 0) ∧ Fld Z h r "java/lang/String" "value" "[B" (.ref t) ∧ Arv Z h t k .byte (1 : Int32) [.int ch.toInt8.toInt32] (.int 0)
theorem ef_valueOfC (m : MethodId) (ch : Int32) : entryFrame m #[(.int ch)] 1 = mkF m 0 #[.val (.int ch)] [] := by first | (simp [entryFrame, mkF, argsToLocals, Value.category]; done) | rfl
theorem d_jdk_42_139_0 : decode jdk_42_method_139_code 0 = .ok (.getstatic 38, 3) := by decide +kernel
theorem d_jdk_42_139_3 : decode jdk_42_method_139_code 3 = .ok (.ifCond .eq 23, 3) := by decide +kernel
theorem d_jdk_42_139_6 : decode jdk_42_method_139_code 6 = .ok (.iload_n 0, 1) := by decide +kernel
theorem d_jdk_42_139_7 : decode jdk_42_method_139_code 7 = .ok (.invokestatic 1015, 3) := by decide +kernel
theorem pd_0 : parseMethodDescriptor "(C)Z" = some ⟨[.char], some .boolean⟩ := by decide +kernel
theorem d_jdk_42_139_10 : decode jdk_42_method_139_code 10 = .ok (.ifCond .eq 16, 3) := by decide +kernel
theorem d_jdk_42_139_13 : decode jdk_42_method_139_code 13 = .ok (.new 10, 3) := by decide +kernel
theorem d_jdk_42_139_16 : decode jdk_42_method_139_code 16 = .ok (.dup, 1) := by decide +kernel
theorem d_jdk_42_139_17 : decode jdk_42_method_139_code 17 = .ok (.iload_n 0, 1) := by decide +kernel
theorem d_jdk_42_139_18 : decode jdk_42_method_139_code 18 = .ok (.invokestatic 1018, 3) := by decide +kernel
theorem pd_1 : parseMethodDescriptor "(C)[B" = some ⟨[.char], some (.array .byte)⟩ := by decide +kernel
theorem d_jdk_42_139_21 : decode jdk_42_method_139_code 21 = .ok (.iconst 0, 1) := by decide +kernel
theorem d_jdk_42_139_22 : decode jdk_42_method_139_code 22 = .ok (.invokespecial 209, 3) := by decide +kernel
theorem pd_2 : parseMethodDescriptor "([BB)V" = some ⟨[(.array .byte), .byte], none⟩ := by decide +kernel
theorem d_jdk_42_139_25 : decode jdk_42_method_139_code 25 = .ok (.areturn, 1) := by decide +kernel
set_option maxRecDepth 65536 in
set_option maxHeartbeats 40000000 in
theorem rm_valueOfC (l : Launch) {Z : State} {a0 : Array Value} (hD : Wd Z a0) (ch : Int32) {h0 : Heap} (O0 : Ext Z.heap h0) (hc : ¬ (255 : Int32) < ch) :
    Con l Z (⟨"java/lang/String", "valueOf", "(C)Ljava/lang/String;"⟩ : MethodName) jdk_42_method_139_code 1 (some (.object "java/lang/String")) [] ({ frames := 2, cells := 2, slots := 5, locals := 27 } : Room) #[(.int ch)] h0 (Q_valueOfC Z ch h0) := by
  refine Con.walk (plainFor_of_name pn_1) ?_
  intro p e s m below meth c T0 X0 hx hZ hby hml hown hnm hret hlk e0
  obtain ⟨hw, ⟨cz, S_CS, hcz⟩, ⟨xde, xkde, S_DE, V_DE⟩, ⟨aEM, S_EM⟩, ⟨aEL, S_EL⟩, ⟨cO, kO, mrO, mir1, mir2, mir3⟩, ⟨k0, k1, k2, k3, k4, S_K0, S_K1, S_K2, S_K3, S_K4, kn0, kn2, kn3, kn4⟩⟩ := id hD
  have N0 := Fr.nil Z.heap.size
  have K0 : Keep h0 h0 [] := Keep.refl _ _
  refine OEnds.cast (ef_valueOfC m ch) ?_
  obtain ⟨T1, X1, e1, st1⟩ := getS2 X0 hx hZ hown (host := "") (Or.inl (hw _ (List.mem_of_getElem? (i := 18) rfl))) Via.refl e0 (S_CS.ext O0) (g := (mkF m 0 #[.val (.int ch)] [])) rfl (hb hby d_jdk_42_139_0)
  refine OEnds.st (S' := T1.setTop (mkF m 3 #[.val (.int ch)] [(.int cz)])) st1 ?_
  refine OEnds.st (S' := T1.setTop (mkF m 7 #[.val (.int ch)] [(.int ch)])) (fun _ k => ?_) ?_
  · show Steps p.tables e below (T1.setTop (mkF m 3 #[.val (.int ch)] [(.int cz)])) _
    refine XS.ifNo X1.here hx rfl (hb hby d_jdk_42_139_3) rfl ((if0 _ _).trans (feq hcz).1) ?_
    show Steps p.tables e below (T1.setTop (mkF m 6 #[.val (.int ch)] [])) _
    refine XS.iloadN X1.here hx rfl (hb hby d_jdk_42_139_6) rfl ?_
    exact k
  obtain ⟨_, T2, h2, L2, X2, e2, hQ2, st2⟩ := callC X1 hx hZ hown (hw _ (List.mem_of_getElem? (i := 61) rfl)) (hw _ (List.mem_of_getElem? (i := 62) rfl)) (hw _ (List.mem_of_getElem? (i := 63) rfl)) (hw _ (List.mem_of_getElem? (i := 64) rfl)) (by decide) (kc := 0) (ks := 0) (Con.sb (W := 0) (rm_canEncode l hD ch O0 hc) hZ (hw _ (List.mem_of_getElem? (i := 64) rfl)) (hw _ (List.mem_of_getElem? (i := 63) rfl)) (by decide) (by decide)) e1 (g := (mkF m 7 #[.val (.int ch)] [(.int ch)])) rfl (by rw [hml]; rfl) (argsL := [(.int ch)]) (rest := []) (lenOf pd_0 rfl) rfl (by show 2 * 0 + _ ≤ _; exact Nat.le_of_eq rfl) (hb hby d_jdk_42_139_7) (by decide) (by decide)
  obtain ⟨rfl, Nq2, Hq2⟩ := hQ2
  refine OEnds.st (S' := T2.setTop (mkF m 10 #[.val (.int ch)] [(.int (1 : Int32))])) st2 ?_
  replace N0 := Fr.app N0 Nq2
  replace e2 := e2.trans Hq2
  refine OEnds.st (S' := T2.setTop (mkF m 13 #[.val (.int ch)] [])) (fun _ k => ?_) ?_
  · show Steps p.tables e below (T2.setTop (mkF m 10 #[.val (.int ch)] [(.int (1 : Int32))])) _
    refine XS.ifNo X2.here hx rfl (hb hby d_jdk_42_139_10) rfl ((if0 _ _).trans (feq (by decide)).1) ?_
    exact k
  obtain ⟨T3, h3, X3, e3, E3, A3, D3, U3, st3⟩ := newO X2 hx hZ hown (hw _ (List.mem_of_getElem? (i := 65) rfl)) (hw _ (List.mem_of_getElem? (i := 6) rfl)) (hw _ (List.mem_of_getElem? (i := 7) rfl)) e2 (g := (mkF m 13 #[.val (.int ch)] [])) rfl (hb hby d_jdk_42_139_13) (by decide) (by decide)
  obtain ⟨b3, g3⟩ : ∃ z, z = h0.size := ⟨_, rfl⟩
  rw [← g3] at A3 D3 U3 st3
  refine OEnds.st (S' := T3.setTop (mkF m 16 #[.val (.int ch)] [(.ref b3)])) st3 ?_
  have ge_b3 : Z.heap.size ≤ b3 := Nat.le_trans O0.1 (Nat.le_of_eq g3.symm)
  have sz_b3 : h0.size ≤ b3 := Nat.le_trans K0.1 (Nat.le_of_eq g3.symm)
  replace O0 : Ext Z.heap h3 := ext_trans O0 E3
  replace K0 : Keep h0 h3 [] := K0.ext E3
  have F_coder_b3 : Fld Z h3 b3 "java/lang/String" "coder" "B" (.int (0 : Int32)) := D3 (Or.inr (hw _ (List.mem_of_getElem? (i := 31) rfl))) (ty := .byte) (by decide)
  have F_value_b3 : Fld Z h3 b3 "java/lang/String" "value" "[B" .null := D3 (Or.inr (hw _ (List.mem_of_getElem? (i := 33) rfl))) (ty := (.array .byte)) (by decide)
  refine OEnds.st (S' := T3.setTop (mkF m 18 #[.val (.int ch)] [(.int ch), (.ref b3), (.ref b3)])) (fun _ k => ?_) ?_
  · show Steps p.tables e below (T3.setTop (mkF m 16 #[.val (.int ch)] [(.ref b3)])) _
    refine XS.dup X3.here hx rfl (hb hby d_jdk_42_139_16) rfl rfl ?_
    show Steps p.tables e below (T3.setTop (mkF m 17 #[.val (.int ch)] [(.ref b3), (.ref b3)])) _
    refine XS.iloadN X3.here hx rfl (hb hby d_jdk_42_139_17) rfl ?_
    exact k
  obtain ⟨_, T4, h4, L4, X4, e4, hQ4, st4⟩ := callC X3 hx hZ hown (hw _ (List.mem_of_getElem? (i := 66) rfl)) (hw _ (List.mem_of_getElem? (i := 67) rfl)) (hw _ (List.mem_of_getElem? (i := 63) rfl)) (hw _ (List.mem_of_getElem? (i := 68) rfl)) (by decide) (kc := 1) (ks := 1) (Con.sb (W := 2) (rm_toBytesC l hD ch O0) hZ (hw _ (List.mem_of_getElem? (i := 68) rfl)) (hw _ (List.mem_of_getElem? (i := 63) rfl)) (by decide) (by decide)) e3 (g := (mkF m 18 #[.val (.int ch)] [(.int ch), (.ref b3), (.ref b3)])) rfl (by rw [hml]; rfl) (argsL := [(.int ch)]) (rest := [(.ref b3), (.ref b3)]) (lenOf pd_1 rfl) rfl (by show 2 * 0 + _ ≤ _; exact Nat.le_of_eq rfl) (hb hby d_jdk_42_139_18) (by decide) (by decide)
  obtain ⟨t4, k4, rfl, Nq4, Kq4, szq4, V4⟩ := hQ4
  refine OEnds.st (S' := T4.setTop (mkF m 21 #[.val (.int ch)] [(.ref t4), (.ref b3), (.ref b3)])) st4 ?_
  replace N0 := Fr.app N0 Nq4
  have ne_b3_t4 : b3 ≠ t4 := Nat.ne_of_lt (Nat.lt_of_lt_of_le A3.lt szq4)
  have ge_t4 : Z.heap.size ≤ t4 := Nat.le_trans O0.1 szq4
  have sz_t4 : h0.size ≤ t4 := Nat.le_trans K0.1 szq4
  replace A3 := A3.keep Kq4
  replace F_coder_b3 := F_coder_b3.keep Kq4 nin0
  replace F_value_b3 := F_value_b3.keep Kq4 nin0
  replace O0 : Ext Z.heap h4 := ext_keep O0 Kq4 all0
  replace K0 : Keep h0 h4 [] := K0.trans Kq4 all0
  refine OEnds.st (S' := T4.setTop (mkF m 22 #[.val (.int ch)] [(.int (0 : Int32)), (.ref t4), (.ref b3), (.ref b3)])) (fun _ k => ?_) ?_
  · show Steps p.tables e below (T4.setTop (mkF m 21 #[.val (.int ch)] [(.ref t4), (.ref b3), (.ref b3)])) _
    refine XS.iconst X4.here hx rfl (hb hby d_jdk_42_139_21) ?_
    exact k
  obtain ⟨_, T5, h5, L5, X5, e5, hQ5, st5⟩ := specC X4 hx hZ rfl hown (hw _ (List.mem_of_getElem? (i := 69) rfl)) (hw _ (List.mem_of_getElem? (i := 70) rfl)) (hw _ (List.mem_of_getElem? (i := 71) rfl)) (by decide) (kc := 0) (ks := 0) (Con.sb (W := 1) (rm_strInitBB l hD b3 t4 O0 A3 F_value_b3 F_coder_b3 ge_b3) hZ (hw _ (List.mem_of_getElem? (i := 71) rfl)) (hw _ (List.mem_of_getElem? (i := 7) rfl)) (by decide) (by decide)) e4 (a := b3) (g := (mkF m 22 #[.val (.int ch)] [(.int (0 : Int32)), (.ref t4), (.ref b3), (.ref b3)])) rfl (by rw [hml]; rfl) (argsL := [(.ref t4), (.int (0 : Int32))]) (rest := [(.ref b3)]) (lenOf pd_2 rfl) rfl (by show 2 * 0 + _ ≤ _; exact Nat.le_of_eq rfl) (hb hby d_jdk_42_139_22) (by decide) (by decide)
  obtain ⟨rfl, Nq5, Kq5, Eq5, Fv5, Fc5⟩ := hQ5
  refine OEnds.st (S' := T5.setTop (mkF m 25 #[.val (.int ch)] [(.ref b3)])) st5 ?_
  replace N0 := Fr.app N0 Nq5
  replace A3 := A3.keep Kq5
  replace V4 := V4.keep Kq5 (ninS (Ne.symm ne_b3_t4) nin0)
  replace O0 : Ext Z.heap h5 := ext_keep O0 Kq5 (allS ge_b3 all0)
  replace K0 : Keep h0 h5 [] := K0.trans Kq5 (allS (Or.inr sz_b3) all0)
  exact OEnds.ret X5 hx hret hlk rfl (Or.inr (Or.inr (Or.inr (Or.inr ⟨rfl, rfl, rfl⟩)))) (hb hby d_jdk_42_139_25) (by decide) (by decide) (by rw [e5]; exact ⟨b3, t4, k4, rfl, N0, K0, sz_b3, sz_t4, ne_b3_t4, Eq5, Fc5, Fv5, V4⟩)
-- java/lang/Record.<init>:()V
def Q_recInit (Z : State) (a : Addr) (h0 : Heap) (v : Option Value) (h : Heap) (L : List Loc) : Prop := v = none ∧ Fr Z.heap.size L ∧ h = h0
theorem ef_recInit (m : MethodId) (a : Addr) : entryFrame m #[(.ref a)] 1 = mkF m 0 #[.val (.ref a)] [] := by first | (simp [entryFrame, mkF, argsToLocals, Value.category]; done) | rfl
theorem pn_2 : plainName "java/lang/Record" = true := by first | (simp [plainName, overriddenIn]; done) | decide +kernel
theorem d_jdk_30_1_0 : decode jdk_30_method_1_code 0 = .ok (.aload_n 0, 1) := by decide +kernel
theorem d_jdk_30_1_1 : decode jdk_30_method_1_code 1 = .ok (.invokespecial 1, 3) := by decide +kernel
theorem d_jdk_30_1_4 : decode jdk_30_method_1_code 4 = .ok (.return_, 1) := by decide +kernel
set_option maxRecDepth 65536 in
set_option maxHeartbeats 40000000 in
theorem rm_recInit (l : Launch) {Z : State} {a0 : Array Value} (hD : Wd Z a0) (a : Addr) {h0 : Heap} (O0 : Ext Z.heap h0) :
    Con l Z (⟨"java/lang/Record", "<init>", "()V"⟩ : MethodName) jdk_30_method_1_code 1 none [] ({ frames := 1, cells := 0, slots := 0, locals := 12 } : Room) #[(.ref a)] h0 (Q_recInit Z a h0) := by
  refine Con.walk (plainFor_of_name pn_2) ?_
  intro p e s m below meth c T0 X0 hx hZ hby hml hown hnm hret hlk e0
  obtain ⟨hw, ⟨cz, S_CS, hcz⟩, ⟨xde, xkde, S_DE, V_DE⟩, ⟨aEM, S_EM⟩, ⟨aEL, S_EL⟩, ⟨cO, kO, mrO, mir1, mir2, mir3⟩, ⟨k0, k1, k2, k3, k4, S_K0, S_K1, S_K2, S_K3, S_K4, kn0, kn2, kn3, kn4⟩⟩ := id hD
  have N0 := Fr.nil Z.heap.size
  refine OEnds.cast (ef_recInit m a) ?_
  refine OEnds.st (S' := T0.setTop (mkF m 1 #[.val (.ref a)] [(.ref a)])) (fun _ k => ?_) ?_
  · show Steps p.tables e below (T0.setTop (mkF m 0 #[.val (.ref a)] [])) _
    refine XS.aloadN X0.here hx rfl (hb hby d_jdk_30_1_0) rfl rfl ?_
    exact k
  obtain ⟨T1, X1, e1, st1⟩ := initO X0 hx hZ hown (hw _ (List.mem_of_getElem? (i := 114) rfl)) (hw _ (List.mem_of_getElem? (i := 16) rfl)) (hw _ (List.mem_of_getElem? (i := 17) rfl)) e0 (g := (mkF m 1 #[.val (.ref a)] [(.ref a)])) rfl (by rw [hml]; rfl) rfl (hb hby d_jdk_30_1_1) (by decide) (W := 0) (by show 2 * 0 + _ ≤ _; exact Nat.le_of_eq rfl) (by decide)
  refine OEnds.st (S' := T1.setTop (mkF m 4 #[.val (.ref a)] [])) st1 ?_
  exact OEnds.retV X1 hx hret hlk (hb hby d_jdk_30_1_4) (by decide) (by decide) (by rw [e1]; exact ⟨rfl, N0, rfl⟩)
-- java/util/AbstractCollection.<init>:()V
def Q_acInit (Z : State) (a : Addr) (h0 : Heap) (v : Option Value) (h : Heap) (L : List Loc) : Prop := v = none ∧ Fr Z.heap.size L ∧ h = h0
theorem ef_acInit (m : MethodId) (a : Addr) : entryFrame m #[(.ref a)] 1 = mkF m 0 #[.val (.ref a)] [] := by first | (simp [entryFrame, mkF, argsToLocals, Value.category]; done) | rfl
theorem pn_3 : plainName "java/util/AbstractCollection" = true := by first | (simp [plainName, overriddenIn]; done) | decide +kernel
theorem d_jdk_22_1_0 : decode jdk_22_method_1_code 0 = .ok (.aload_n 0, 1) := by decide +kernel
theorem d_jdk_22_1_1 : decode jdk_22_method_1_code 1 = .ok (.invokespecial 1, 3) := by decide +kernel
theorem d_jdk_22_1_4 : decode jdk_22_method_1_code 4 = .ok (.return_, 1) := by decide +kernel
set_option maxRecDepth 65536 in
set_option maxHeartbeats 40000000 in
theorem rm_acInit (l : Launch) {Z : State} {a0 : Array Value} (hD : Wd Z a0) (a : Addr) {h0 : Heap} (O0 : Ext Z.heap h0) :
    Con l Z (⟨"java/util/AbstractCollection", "<init>", "()V"⟩ : MethodName) jdk_22_method_1_code 1 none [] ({ frames := 1, cells := 0, slots := 0, locals := 12 } : Room) #[(.ref a)] h0 (Q_acInit Z a h0) := by
  refine Con.walk (plainFor_of_name pn_3) ?_
  intro p e s m below meth c T0 X0 hx hZ hby hml hown hnm hret hlk e0
  obtain ⟨hw, ⟨cz, S_CS, hcz⟩, ⟨xde, xkde, S_DE, V_DE⟩, ⟨aEM, S_EM⟩, ⟨aEL, S_EL⟩, ⟨cO, kO, mrO, mir1, mir2, mir3⟩, ⟨k0, k1, k2, k3, k4, S_K0, S_K1, S_K2, S_K3, S_K4, kn0, kn2, kn3, kn4⟩⟩ := id hD
  have N0 := Fr.nil Z.heap.size
  refine OEnds.cast (ef_acInit m a) ?_
  refine OEnds.st (S' := T0.setTop (mkF m 1 #[.val (.ref a)] [(.ref a)])) (fun _ k => ?_) ?_
  · show Steps p.tables e below (T0.setTop (mkF m 0 #[.val (.ref a)] [])) _
    refine XS.aloadN X0.here hx rfl (hb hby d_jdk_22_1_0) rfl rfl ?_
    exact k
  obtain ⟨T1, X1, e1, st1⟩ := initO X0 hx hZ hown (hw _ (List.mem_of_getElem? (i := 52) rfl)) (hw _ (List.mem_of_getElem? (i := 16) rfl)) (hw _ (List.mem_of_getElem? (i := 17) rfl)) e0 (g := (mkF m 1 #[.val (.ref a)] [(.ref a)])) rfl (by rw [hml]; rfl) rfl (hb hby d_jdk_22_1_1) (by decide) (W := 0) (by show 2 * 0 + _ ≤ _; exact Nat.le_of_eq rfl) (by decide)
  refine OEnds.st (S' := T1.setTop (mkF m 4 #[.val (.ref a)] [])) st1 ?_
  exact OEnds.retV X1 hx hret hlk (hb hby d_jdk_22_1_4) (by decide) (by decide) (by rw [e1]; exact ⟨rfl, N0, rfl⟩)
-- java/util/ImmutableCollections$AbstractImmutableCollection.<init>:()V
def Q_aicInit (Z : State) (a : Addr) (h0 : Heap) (v : Option Value) (h : Heap) (L : List Loc) : Prop := v = none ∧ Fr Z.heap.size L ∧ h = h0
theorem ef_aicInit (m : MethodId) (a : Addr) : entryFrame m #[(.ref a)] 1 = mkF m 0 #[.val (.ref a)] [] := by first | (simp [entryFrame, mkF, argsToLocals, Value.category]; done) | rfl
theorem pn_4 : plainName "java/util/ImmutableCollections$AbstractImmutableCollection" = true := by first | (simp [plainName, overriddenIn]; done) | decide +kernel
theorem d_jdk_47_1_0 : decode jdk_47_method_1_code 0 = .ok (.aload_n 0, 1) := by decide +kernel
theorem d_jdk_47_1_1 : decode jdk_47_method_1_code 1 = .ok (.invokespecial 1, 3) := by decide +kernel
theorem pd_3 : parseMethodDescriptor "()V" = some ⟨[], none⟩ := by decide +kernel
theorem d_jdk_47_1_4 : decode jdk_47_method_1_code 4 = .ok (.return_, 1) := by decide +kernel
set_option maxRecDepth 65536 in
set_option maxHeartbeats 40000000 in
theorem rm_aicInit (l : Launch) {Z : State} {a0 : Array Value} (hD : Wd Z a0) (a : Addr) {h0 : Heap} (O0 : Ext Z.heap h0) :
    Con l Z (⟨"java/util/ImmutableCollections$AbstractImmutableCollection", "<init>", "()V"⟩ : MethodName) jdk_47_method_1_code 1 none [] ({ frames := 2, cells := 0, slots := 0, locals := 24 } : Room) #[(.ref a)] h0 (Q_aicInit Z a h0) := by
  refine Con.walk (plainFor_of_name pn_4) ?_
  intro p e s m below meth c T0 X0 hx hZ hby hml hown hnm hret hlk e0
  obtain ⟨hw, ⟨cz, S_CS, hcz⟩, ⟨xde, xkde, S_DE, V_DE⟩, ⟨aEM, S_EM⟩, ⟨aEL, S_EL⟩, ⟨cO, kO, mrO, mir1, mir2, mir3⟩, ⟨k0, k1, k2, k3, k4, S_K0, S_K1, S_K2, S_K3, S_K4, kn0, kn2, kn3, kn4⟩⟩ := id hD
  have N0 := Fr.nil Z.heap.size
  refine OEnds.cast (ef_aicInit m a) ?_
  refine OEnds.st (S' := T0.setTop (mkF m 1 #[.val (.ref a)] [(.ref a)])) (fun _ k => ?_) ?_
  · show Steps p.tables e below (T0.setTop (mkF m 0 #[.val (.ref a)] [])) _
    refine XS.aloadN X0.here hx rfl (hb hby d_jdk_47_1_0) rfl rfl ?_
    exact k
  obtain ⟨_, T1, h1, L1, X1, e1, hQ1, st1⟩ := specC X0 hx hZ rfl hown (hw _ (List.mem_of_getElem? (i := 190) rfl)) (hw _ (List.mem_of_getElem? (i := 47) rfl)) (hw _ (List.mem_of_getElem? (i := 51) rfl)) (by decide) (kc := 0) (ks := 0) (Con.sb (W := 0) (rm_acInit l hD a O0) hZ (hw _ (List.mem_of_getElem? (i := 51) rfl)) (hw _ (List.mem_of_getElem? (i := 50) rfl)) (by decide) (by decide)) e0 (a := a) (g := (mkF m 1 #[.val (.ref a)] [(.ref a)])) rfl (by rw [hml]; rfl) (argsL := []) (rest := []) (lenOf pd_3 rfl) rfl (by show 2 * 0 + _ ≤ _; exact Nat.le_of_eq rfl) (hb hby d_jdk_47_1_1) (by decide) (by decide)
  obtain ⟨rfl, Nq1, Hq1⟩ := hQ1
  refine OEnds.st (S' := T1.setTop (mkF m 4 #[.val (.ref a)] [])) st1 ?_
  replace N0 := Fr.app N0 Nq1
  replace e1 := e1.trans Hq1
  exact OEnds.retV X1 hx hret hlk (hb hby d_jdk_47_1_4) (by decide) (by decide) (by rw [e1]; exact ⟨rfl, N0, rfl⟩)
-- java/util/ImmutableCollections$AbstractImmutableList.<init>:()V
def Q_ailInit (Z : State) (a : Addr) (h0 : Heap) (v : Option Value) (h : Heap) (L : List Loc) : Prop := v = none ∧ Fr Z.heap.size L ∧ h = h0
theorem ef_ailInit (m : MethodId) (a : Addr) : entryFrame m #[(.ref a)] 1 = mkF m 0 #[.val (.ref a)] [] := by first | (simp [entryFrame, mkF, argsToLocals, Value.category]; done) | rfl
theorem pn_5 : plainName "java/util/ImmutableCollections$AbstractImmutableList" = true := by first | (simp [plainName, overriddenIn]; done) | decide +kernel
theorem d_jdk_46_1_0 : decode jdk_46_method_1_code 0 = .ok (.aload_n 0, 1) := by decide +kernel
theorem d_jdk_46_1_1 : decode jdk_46_method_1_code 1 = .ok (.invokespecial 1, 3) := by decide +kernel
theorem d_jdk_46_1_4 : decode jdk_46_method_1_code 4 = .ok (.return_, 1) := by decide +kernel
set_option maxRecDepth 65536 in
set_option maxHeartbeats 40000000 in
theorem rm_ailInit (l : Launch) {Z : State} {a0 : Array Value} (hD : Wd Z a0) (a : Addr) {h0 : Heap} (O0 : Ext Z.heap h0) :
    Con l Z (⟨"java/util/ImmutableCollections$AbstractImmutableList", "<init>", "()V"⟩ : MethodName) jdk_46_method_1_code 1 none [] ({ frames := 3, cells := 0, slots := 0, locals := 36 } : Room) #[(.ref a)] h0 (Q_ailInit Z a h0) := by
  refine Con.walk (plainFor_of_name pn_5) ?_
  intro p e s m below meth c T0 X0 hx hZ hby hml hown hnm hret hlk e0
  obtain ⟨hw, ⟨cz, S_CS, hcz⟩, ⟨xde, xkde, S_DE, V_DE⟩, ⟨aEM, S_EM⟩, ⟨aEL, S_EL⟩, ⟨cO, kO, mrO, mir1, mir2, mir3⟩, ⟨k0, k1, k2, k3, k4, S_K0, S_K1, S_K2, S_K3, S_K4, kn0, kn2, kn3, kn4⟩⟩ := id hD
  have N0 := Fr.nil Z.heap.size
  refine OEnds.cast (ef_ailInit m a) ?_
  refine OEnds.st (S' := T0.setTop (mkF m 1 #[.val (.ref a)] [(.ref a)])) (fun _ k => ?_) ?_
  · show Steps p.tables e below (T0.setTop (mkF m 0 #[.val (.ref a)] [])) _
    refine XS.aloadN X0.here hx rfl (hb hby d_jdk_46_1_0) rfl rfl ?_
    exact k
  obtain ⟨_, T1, h1, L1, X1, e1, hQ1, st1⟩ := specC X0 hx hZ rfl hown (hw _ (List.mem_of_getElem? (i := 184) rfl)) (hw _ (List.mem_of_getElem? (i := 185) rfl)) (hw _ (List.mem_of_getElem? (i := 189) rfl)) (by decide) (kc := 0) (ks := 0) (Con.sb (W := 0) (rm_aicInit l hD a O0) hZ (hw _ (List.mem_of_getElem? (i := 189) rfl)) (hw _ (List.mem_of_getElem? (i := 188) rfl)) (by decide) (by decide)) e0 (a := a) (g := (mkF m 1 #[.val (.ref a)] [(.ref a)])) rfl (by rw [hml]; rfl) (argsL := []) (rest := []) (lenOf pd_3 rfl) rfl (by show 2 * 0 + _ ≤ _; exact Nat.le_of_eq rfl) (hb hby d_jdk_46_1_1) (by decide) (by decide)
  obtain ⟨rfl, Nq1, Hq1⟩ := hQ1
  refine OEnds.st (S' := T1.setTop (mkF m 4 #[.val (.ref a)] [])) st1 ?_
  replace N0 := Fr.app N0 Nq1
  replace e1 := e1.trans Hq1
  exact OEnds.retV X1 hx hret hlk (hb hby d_jdk_46_1_4) (by decide) (by decide) (by rw [e1]; exact ⟨rfl, N0, rfl⟩)
-- java/util/Objects.requireNonNull:(Ljava/lang/Object;)Ljava/lang/Object;
def Q_reqNonNull (Z : State) (a : Addr) (h0 : Heap) (v : Option Value) (h : Heap) (L : List Loc) : Prop := v = some (.ref a) ∧ Fr Z.heap.size L ∧ h = h0
theorem ef_reqNonNull (m : MethodId) (a : Addr) : entryFrame m #[(.ref a)] 1 = mkF m 0 #[.val (.ref a)] [] := by first | (simp [entryFrame, mkF, argsToLocals, Value.category]; done) | rfl
theorem pn_6 : plainName "java/util/Objects" = true := by first | (simp [plainName, overriddenIn]; done) | decide +kernel
theorem d_jdk_31_10_0 : decode jdk_31_method_10_code 0 = .ok (.aload_n 0, 1) := by decide +kernel
theorem d_jdk_31_10_1 : decode jdk_31_method_10_code 1 = .ok (.ifnonnull 11, 3) := by decide +kernel
theorem d_jdk_31_10_12 : decode jdk_31_method_10_code 12 = .ok (.aload_n 0, 1) := by decide +kernel
theorem d_jdk_31_10_13 : decode jdk_31_method_10_code 13 = .ok (.areturn, 1) := by decide +kernel
set_option maxRecDepth 65536 in
set_option maxHeartbeats 40000000 in
theorem rm_reqNonNull (l : Launch) {Z : State} {a0 : Array Value} (hD : Wd Z a0) (a : Addr) {h0 : Heap} (O0 : Ext Z.heap h0) :
    Con l Z (⟨"java/util/Objects", "requireNonNull", "(Ljava/lang/Object;)Ljava/lang/Object;"⟩ : MethodName) jdk_31_method_10_code 1 (some (.object "java/lang/Object")) [] ({ frames := 0, cells := 0, slots := 0, locals := 0 } : Room) #[(.ref a)] h0 (Q_reqNonNull Z a h0) := by
  refine Con.walk (plainFor_of_name pn_6) ?_
  intro p e s m below meth c T0 X0 hx hZ hby hml hown hnm hret hlk e0
  obtain ⟨hw, ⟨cz, S_CS, hcz⟩, ⟨xde, xkde, S_DE, V_DE⟩, ⟨aEM, S_EM⟩, ⟨aEL, S_EL⟩, ⟨cO, kO, mrO, mir1, mir2, mir3⟩, ⟨k0, k1, k2, k3, k4, S_K0, S_K1, S_K2, S_K3, S_K4, kn0, kn2, kn3, kn4⟩⟩ := id hD
  have N0 := Fr.nil Z.heap.size
  refine OEnds.cast (ef_reqNonNull m a) ?_
  refine OEnds.st (S' := T0.setTop (mkF m 13 #[.val (.ref a)] [(.ref a)])) (fun _ k => ?_) ?_
  · show Steps p.tables e below (T0.setTop (mkF m 0 #[.val (.ref a)] [])) _
    refine XS.aloadN X0.here hx rfl (hb hby d_jdk_31_10_0) rfl rfl ?_
    show Steps p.tables e below (T0.setTop (mkF m 1 #[.val (.ref a)] [(.ref a)])) _
    refine XS.ifnonnullYes X0.here hx rfl (pc0 := 1) (pc' := 12) rfl (hb hby d_jdk_31_10_1) rfl (by decide) (by decide) ?_
    show Steps p.tables e below (T0.setTop (mkF m 12 #[.val (.ref a)] [])) _
    refine XS.aloadN X0.here hx rfl (hb hby d_jdk_31_10_12) rfl rfl ?_
    exact k
  exact OEnds.ret X0 hx hret hlk rfl (Or.inr (Or.inr (Or.inr (Or.inr ⟨rfl, rfl, rfl⟩)))) (hb hby d_jdk_31_10_13) (by decide) (by decide) (by rw [e0]; exact ⟨rfl, N0, rfl⟩)
-- java/util/AbstractList.<init>:()V
def Q_abslInit (Z : State) (a : Addr) (h0 : Heap) (v : Option Value) (h : Heap) (L : List Loc) : Prop := v = none ∧ Fr Z.heap.size L ∧ Keep h0 h [a] ∧ Exa Z h a "java/util/ArrayList" ∧ Fld Z h a "java/util/ArrayList" "elementData" "[Ljava/lang/Object;" .null ∧ Fld Z h a "java/util/ArrayList" "size" "I" (.int (0 : Int32)) ∧ Fld Z h a "java/util/AbstractList" "modCount" "I" (.int (0 : Int32))
theorem ef_abslInit (m : MethodId) (a : Addr) : entryFrame m #[(.ref a)] 1 = mkF m 0 #[.val (.ref a)] [] := by first | (simp [entryFrame, mkF, argsToLocals, Value.category]; done) | rfl
theorem pn_7 : plainName "java/util/AbstractList" = true := by first | (simp [plainName, overriddenIn]; done) | decide +kernel
theorem d_jdk_39_1_0 : decode jdk_39_method_1_code 0 = .ok (.aload_n 0, 1) := by decide +kernel
theorem d_jdk_39_1_1 : decode jdk_39_method_1_code 1 = .ok (.invokespecial 1, 3) := by decide +kernel
theorem d_jdk_39_1_4 : decode jdk_39_method_1_code 4 = .ok (.aload_n 0, 1) := by decide +kernel
theorem d_jdk_39_1_5 : decode jdk_39_method_1_code 5 = .ok (.iconst 0, 1) := by decide +kernel
theorem d_jdk_39_1_6 : decode jdk_39_method_1_code 6 = .ok (.putfield 7, 3) := by decide +kernel
theorem d_jdk_39_1_9 : decode jdk_39_method_1_code 9 = .ok (.return_, 1) := by decide +kernel
set_option maxRecDepth 65536 in
set_option maxHeartbeats 40000000 in
theorem rm_abslInit (l : Launch) {Z : State} {a0 : Array Value} (hD : Wd Z a0) (a : Addr) {h0 : Heap} (O0 : Ext Z.heap h0) (E_a : Exa Z h0 a "java/util/ArrayList") (F_ed_a : Fld Z h0 a "java/util/ArrayList" "elementData" "[Ljava/lang/Object;" .null) (F_sz_a : Fld Z h0 a "java/util/ArrayList" "size" "I" (.int (0 : Int32))) (F_mc_a : Fld Z h0 a "java/util/AbstractList" "modCount" "I" (.int (0 : Int32))) (ge_a : Z.heap.size ≤ a) :
    Con l Z (⟨"java/util/AbstractList", "<init>", "()V"⟩ : MethodName) jdk_39_method_1_code 1 none [] ({ frames := 2, cells := 0, slots := 0, locals := 24 } : Room) #[(.ref a)] h0 (Q_abslInit Z a h0) := by
  refine Con.walk (plainFor_of_name pn_7) ?_
  intro p e s m below meth c T0 X0 hx hZ hby hml hown hnm hret hlk e0
  obtain ⟨hw, ⟨cz, S_CS, hcz⟩, ⟨xde, xkde, S_DE, V_DE⟩, ⟨aEM, S_EM⟩, ⟨aEL, S_EL⟩, ⟨cO, kO, mrO, mir1, mir2, mir3⟩, ⟨k0, k1, k2, k3, k4, S_K0, S_K1, S_K2, S_K3, S_K4, kn0, kn2, kn3, kn4⟩⟩ := id hD
  have N0 := Fr.nil Z.heap.size
  have K0 : Keep h0 h0 [a] := Keep.refl _ _
  refine OEnds.cast (ef_abslInit m a) ?_
  refine OEnds.st (S' := T0.setTop (mkF m 1 #[.val (.ref a)] [(.ref a)])) (fun _ k => ?_) ?_
  · show Steps p.tables e below (T0.setTop (mkF m 0 #[.val (.ref a)] [])) _
    refine XS.aloadN X0.here hx rfl (hb hby d_jdk_39_1_0) rfl rfl ?_
    exact k
  obtain ⟨_, T1, h1, L1, X1, e1, hQ1, st1⟩ := specC X0 hx hZ rfl hown (hw _ (List.mem_of_getElem? (i := 46) rfl)) (hw _ (List.mem_of_getElem? (i := 47) rfl)) (hw _ (List.mem_of_getElem? (i := 51) rfl)) (by decide) (kc := 0) (ks := 0) (Con.sb (W := 0) (rm_acInit l hD a O0) hZ (hw _ (List.mem_of_getElem? (i := 51) rfl)) (hw _ (List.mem_of_getElem? (i := 50) rfl)) (by decide) (by decide)) e0 (a := a) (g := (mkF m 1 #[.val (.ref a)] [(.ref a)])) rfl (by rw [hml]; rfl) (argsL := []) (rest := []) (lenOf pd_3 rfl) rfl (by show 2 * 0 + _ ≤ _; exact Nat.le_of_eq rfl) (hb hby d_jdk_39_1_1) (by decide) (by decide)
  obtain ⟨rfl, Nq1, Hq1⟩ := hQ1
  refine OEnds.st (S' := T1.setTop (mkF m 4 #[.val (.ref a)] [])) st1 ?_
  replace N0 := Fr.app N0 Nq1
  replace e1 := e1.trans Hq1
  refine OEnds.st (S' := T1.setTop (mkF m 6 #[.val (.ref a)] [(.int (0 : Int32)), (.ref a)])) (fun _ k => ?_) ?_
  · show Steps p.tables e below (T1.setTop (mkF m 4 #[.val (.ref a)] [])) _
    refine XS.aloadN X1.here hx rfl (hb hby d_jdk_39_1_4) rfl rfl ?_
    show Steps p.tables e below (T1.setTop (mkF m 5 #[.val (.ref a)] [(.ref a)])) _
    refine XS.iconst X1.here hx rfl (hb hby d_jdk_39_1_5) ?_
    exact k
  obtain ⟨T2, h2, X2, e2, W2, st2⟩ := putF X1 hx hZ hown (host := "") (Or.inl (hw _ (List.mem_of_getElem? (i := 53) rfl))) Via.refl e1 F_mc_a E_a (Or.inl (hw _ (List.mem_of_getElem? (i := 54) rfl))) (hw _ (List.mem_of_getElem? (i := 35) rfl)) (ty := .int) (by decide) rfl rfl (g := (mkF m 6 #[.val (.ref a)] [(.int (0 : Int32)), (.ref a)])) rfl rfl (hb hby d_jdk_39_1_6)
  refine OEnds.st (S' := T2.setTop (mkF m 9 #[.val (.ref a)] [])) st2 ?_
  replace E_a := E_a.wr W2
  replace F_ed_a := F_ed_a.other W2 (Or.inr (slot_ne (Or.inl (hw _ (List.mem_of_getElem? (i := 57) rfl))) (Or.inl (hw _ (List.mem_of_getElem? (i := 54) rfl))) (by decide) (t := (.array (.object "java/lang/Object"))) (t' := .int) (by decide) (by decide)))
  replace F_sz_a := F_sz_a.other W2 (Or.inr (slot_ne (Or.inl (hw _ (List.mem_of_getElem? (i := 80) rfl))) (Or.inl (hw _ (List.mem_of_getElem? (i := 54) rfl))) (by decide) (t := .int) (t' := .int) (by decide) (by decide)))
  replace F_mc_a := F_mc_a.same W2
  replace O0 : Ext Z.heap h2 := ext_wr O0 W2 ge_a
  replace N0 := Fr.snoc X2 N0 ge_a
  replace K0 : Keep h0 h2 [a] := K0.wr W2 (Or.inl (List.mem_of_getElem? (i := 0) rfl))
  exact OEnds.retV X2 hx hret hlk (hb hby d_jdk_39_1_9) (by decide) (by decide) (by rw [e2]; exact ⟨rfl, N0, K0, E_a, F_ed_a, F_sz_a, F_mc_a⟩)
-- java/util/ArrayList.<init>:()V
def Q_alInit (Z : State) (a : Addr) (de : Addr) (h0 : Heap) (v : Option Value) (h : Heap) (L : List Loc) : Prop := v = none ∧ Fr Z.heap.size L ∧ Keep h0 h [a] ∧ Exa Z h a "java/util/ArrayList" ∧ Fld Z h a "java/util/ArrayList" "elementData" "[Ljava/lang/Object;" (.ref de) ∧ Fld Z h a "java/util/ArrayList" "size" "I" (.int (0 : Int32)) ∧ Fld Z h a "java/util/AbstractList" "modCount" "I" (.int (0 : Int32))
theorem ef_alInit (m : MethodId) (a : Addr) : entryFrame m #[(.ref a)] 1 = mkF m 0 #[.val (.ref a)] [] := by first | (simp [entryFrame, mkF, argsToLocals, Value.category]; done) | rfl
theorem pn_8 : plainName "java/util/ArrayList" = true := by first | (simp [plainName, overriddenIn]; done) | decide +kernel
theorem d_jdk_38_2_0 : decode jdk_38_method_2_code 0 = .ok (.aload_n 0, 1) := by decide +kernel
theorem d_jdk_38_2_1 : decode jdk_38_method_2_code 1 = .ok (.invokespecial 1, 3) := by decide +kernel
theorem d_jdk_38_2_4 : decode jdk_38_method_2_code 4 = .ok (.aload_n 0, 1) := by decide +kernel
theorem d_jdk_38_2_5 : decode jdk_38_method_2_code 5 = .ok (.getstatic 39, 3) := by decide +kernel
theorem d_jdk_38_2_8 : decode jdk_38_method_2_code 8 = .ok (.putfield 9, 3) := by decide +kernel
theorem d_jdk_38_2_11 : decode jdk_38_method_2_code 11 = .ok (.return_, 1) := by decide +kernel
set_option maxRecDepth 65536 in
set_option maxHeartbeats 40000000 in
theorem rm_alInit (l : Launch) {Z : State} {a0 : Array Value} (hD : Wd Z a0) (a : Addr) (de : Addr) {h0 : Heap} (O0 : Ext Z.heap h0) (E_a : Exa Z h0 a "java/util/ArrayList") (F_ed_a : Fld Z h0 a "java/util/ArrayList" "elementData" "[Ljava/lang/Object;" .null) (F_sz_a : Fld Z h0 a "java/util/ArrayList" "size" "I" (.int (0 : Int32))) (F_mc_a : Fld Z h0 a "java/util/AbstractList" "modCount" "I" (.int (0 : Int32))) (ge_a : Z.heap.size ≤ a) (S_de : Sta Z Z.heap "java/util/ArrayList" "DEFAULTCAPACITY_EMPTY_ELEMENTDATA" "[Ljava/lang/Object;" (.ref de)) :
    Con l Z (⟨"java/util/ArrayList", "<init>", "()V"⟩ : MethodName) jdk_38_method_2_code 1 none [] ({ frames := 3, cells := 0, slots := 0, locals := 36 } : Room) #[(.ref a)] h0 (Q_alInit Z a de h0) := by
  refine Con.walk (plainFor_of_name pn_8) ?_
  intro p e s m below meth c T0 X0 hx hZ hby hml hown hnm hret hlk e0
  obtain ⟨hw, ⟨cz, S_CS, hcz⟩, ⟨xde, xkde, S_DE, V_DE⟩, ⟨aEM, S_EM⟩, ⟨aEL, S_EL⟩, ⟨cO, kO, mrO, mir1, mir2, mir3⟩, ⟨k0, k1, k2, k3, k4, S_K0, S_K1, S_K2, S_K3, S_K4, kn0, kn2, kn3, kn4⟩⟩ := id hD
  have N0 := Fr.nil Z.heap.size
  have K0 : Keep h0 h0 [a] := Keep.refl _ _
  refine OEnds.cast (ef_alInit m a) ?_
  refine OEnds.st (S' := T0.setTop (mkF m 1 #[.val (.ref a)] [(.ref a)])) (fun _ k => ?_) ?_
  · show Steps p.tables e below (T0.setTop (mkF m 0 #[.val (.ref a)] [])) _
    refine XS.aloadN X0.here hx rfl (hb hby d_jdk_38_2_0) rfl rfl ?_
    exact k
  obtain ⟨_, T1, h1, L1, X1, e1, hQ1, st1⟩ := specC X0 hx hZ rfl hown (hw _ (List.mem_of_getElem? (i := 40) rfl)) (hw _ (List.mem_of_getElem? (i := 41) rfl)) (hw _ (List.mem_of_getElem? (i := 45) rfl)) (by decide) (kc := 0) (ks := 0) (Con.sb (W := 0) (rm_abslInit l hD a O0 E_a F_ed_a F_sz_a F_mc_a ge_a) hZ (hw _ (List.mem_of_getElem? (i := 45) rfl)) (hw _ (List.mem_of_getElem? (i := 44) rfl)) (by decide) (by decide)) e0 (a := a) (g := (mkF m 1 #[.val (.ref a)] [(.ref a)])) rfl (by rw [hml]; rfl) (argsL := []) (rest := []) (lenOf pd_3 rfl) rfl (by show 2 * 0 + _ ≤ _; exact Nat.le_of_eq rfl) (hb hby d_jdk_38_2_1) (by decide) (by decide)
  obtain ⟨rfl, Nq1, Kq1, Eq1, Fe1, Fs1, Fm1⟩ := hQ1
  refine OEnds.st (S' := T1.setTop (mkF m 4 #[.val (.ref a)] [])) st1 ?_
  replace N0 := Fr.app N0 Nq1
  replace E_a := E_a.keep Kq1
  replace O0 : Ext Z.heap h1 := ext_keep O0 Kq1 (allS ge_a all0)
  replace K0 : Keep h0 h1 [a] := K0.trans Kq1 (allS (Or.inl (List.mem_of_getElem? (i := 0) rfl)) all0)
  refine OEnds.st (S' := T1.setTop (mkF m 5 #[.val (.ref a)] [(.ref a)])) (fun _ k => ?_) ?_
  · show Steps p.tables e below (T1.setTop (mkF m 4 #[.val (.ref a)] [])) _
    refine XS.aloadN X1.here hx rfl (hb hby d_jdk_38_2_4) rfl rfl ?_
    exact k
  obtain ⟨T2, X2, e2, st2⟩ := getS2 X1 hx hZ hown (host := "") (Or.inl (hw _ (List.mem_of_getElem? (i := 55) rfl))) Via.refl e1 (S_de.ext O0) (g := (mkF m 5 #[.val (.ref a)] [(.ref a)])) rfl (hb hby d_jdk_38_2_5)
  refine OEnds.st (S' := T2.setTop (mkF m 8 #[.val (.ref a)] [(.ref de), (.ref a)])) st2 ?_
  obtain ⟨T3, h3, X3, e3, W3, st3⟩ := putF X2 hx hZ hown (host := "") (Or.inl (hw _ (List.mem_of_getElem? (i := 56) rfl))) Via.refl e2 Fe1 E_a (Or.inl (hw _ (List.mem_of_getElem? (i := 57) rfl))) (hw _ (List.mem_of_getElem? (i := 35) rfl)) (ty := (.array (.object "java/lang/Object"))) (by decide) rfl rfl (g := (mkF m 8 #[.val (.ref a)] [(.ref de), (.ref a)])) rfl rfl (hb hby d_jdk_38_2_8)
  refine OEnds.st (S' := T3.setTop (mkF m 11 #[.val (.ref a)] [])) st3 ?_
  replace E_a := E_a.wr W3
  replace Fe1 := Fe1.same W3
  replace Fs1 := Fs1.other W3 (Or.inr (slot_ne (Or.inl (hw _ (List.mem_of_getElem? (i := 80) rfl))) (Or.inl (hw _ (List.mem_of_getElem? (i := 57) rfl))) (by decide) (t := .int) (t' := (.array (.object "java/lang/Object"))) (by decide) (by decide)))
  replace Fm1 := Fm1.other W3 (Or.inr (slot_ne (Or.inl (hw _ (List.mem_of_getElem? (i := 54) rfl))) (Or.inl (hw _ (List.mem_of_getElem? (i := 57) rfl))) (by decide) (t := .int) (t' := (.array (.object "java/lang/Object"))) (by decide) (by decide)))
  replace O0 : Ext Z.heap h3 := ext_wr O0 W3 ge_a
  replace N0 := Fr.snoc X3 N0 ge_a
  replace K0 : Keep h0 h3 [a] := K0.wr W3 (Or.inl (List.mem_of_getElem? (i := 0) rfl))
  exact OEnds.retV X3 hx hret hlk (hb hby d_jdk_38_2_11) (by decide) (by decide) (by rw [e3]; exact ⟨rfl, N0, K0, E_a, Fe1, Fs1, Fm1⟩)
-- java/lang/Math.max:(II)I
def Q_mmax (Z : State)  (h0 : Heap) (v : Option Value) (h : Heap) (L : List Loc) : Prop := v = some (.int 10) ∧ Fr Z.heap.size L ∧ h = h0
theorem ef_mmax (m : MethodId)  : entryFrame m #[(.int (10 : Int32)), (.int (1 : Int32))] 2 = mkF m 0 #[.val (.int (10 : Int32)), .val (.int (1 : Int32))] [] := by first | (simp [entryFrame, mkF, argsToLocals, Value.category]; done) | rfl
theorem d_jdk_29_65_0 : decode jdk_29_method_65_code 0 = .ok (.iload_n 0, 1) := by decide +kernel
theorem d_jdk_29_65_1 : decode jdk_29_method_65_code 1 = .ok (.iload_n 1, 1) := by decide +kernel
theorem d_jdk_29_65_2 : decode jdk_29_method_65_code 2 = .ok (.if_icmp .lt 7, 3) := by decide +kernel
theorem d_jdk_29_65_5 : decode jdk_29_method_65_code 5 = .ok (.iload_n 0, 1) := by decide +kernel
theorem d_jdk_29_65_6 : decode jdk_29_method_65_code 6 = .ok (.goto 4, 3) := by decide +kernel
theorem d_jdk_29_65_10 : decode jdk_29_method_65_code 10 = .ok (.ireturn, 1) := by decide +kernel
set_option maxRecDepth 65536 in
set_option maxHeartbeats 40000000 in
theorem rm_mmax (l : Launch) {Z : State} {a0 : Array Value} (hD : Wd Z a0)  {h0 : Heap} (O0 : Ext Z.heap h0) :
    Con l Z (⟨"java/lang/Math", "max", "(II)I"⟩ : MethodName) jdk_29_method_65_code 2 (some .int) [] ({ frames := 0, cells := 0, slots := 0, locals := 0 } : Room) #[(.int (10 : Int32)), (.int (1 : Int32))] h0 (Q_mmax Z  h0) := by
  refine Con.walk (Jvm.Free.JP.mathPlain rfl (by decide +kernel)) ?_
  intro p e s m below meth c T0 X0 hx hZ hby hml hown hnm hret hlk e0
  obtain ⟨hw, ⟨cz, S_CS, hcz⟩, ⟨xde, xkde, S_DE, V_DE⟩, ⟨aEM, S_EM⟩, ⟨aEL, S_EL⟩, ⟨cO, kO, mrO, mir1, mir2, mir3⟩, ⟨k0, k1, k2, k3, k4, S_K0, S_K1, S_K2, S_K3, S_K4, kn0, kn2, kn3, kn4⟩⟩ := id hD
  have N0 := Fr.nil Z.heap.size
  refine OEnds.cast (ef_mmax m ) ?_
  refine OEnds.st (S' := T0.setTop (mkF m 10 #[.val (.int (10 : Int32)), .val (.int (1 : Int32))] [(.int (10 : Int32))])) (fun _ k => ?_) ?_
  · show Steps p.tables e below (T0.setTop (mkF m 0 #[.val (.int (10 : Int32)), .val (.int (1 : Int32))] [])) _
    refine XS.iloadN X0.here hx rfl (hb hby d_jdk_29_65_0) rfl ?_
    show Steps p.tables e below (T0.setTop (mkF m 1 #[.val (.int (10 : Int32)), .val (.int (1 : Int32))] [(.int (10 : Int32))])) _
    refine XS.iloadN X0.here hx rfl (hb hby d_jdk_29_65_1) rfl ?_
    show Steps p.tables e below (T0.setTop (mkF m 2 #[.val (.int (10 : Int32)), .val (.int (1 : Int32))] [(.int (1 : Int32)), (.int (10 : Int32))])) _
    refine XS.icmpNo X0.here hx rfl (hb hby d_jdk_29_65_2) rfl (flt (by decide)).1 ?_
    show Steps p.tables e below (T0.setTop (mkF m 5 #[.val (.int (10 : Int32)), .val (.int (1 : Int32))] [])) _
    refine XS.iloadN X0.here hx rfl (hb hby d_jdk_29_65_5) rfl ?_
    show Steps p.tables e below (T0.setTop (mkF m 6 #[.val (.int (10 : Int32)), .val (.int (1 : Int32))] [(.int (10 : Int32))])) _
    refine XS.goto X0.here hx rfl (pc0 := 6) (pc' := 10) rfl (hb hby d_jdk_29_65_6) (by decide) (by decide) ?_
    exact k
  exact OEnds.ret X0 hx hret hlk rfl (Or.inl ⟨rfl, by simp, _, rfl⟩) (hb hby d_jdk_29_65_10) (by decide) (by decide) (by rw [e0]; exact ⟨rfl, N0, rfl⟩)
-- java/util/ArrayList.grow:(I)[Ljava/lang/Object;
def Q_growI (Z : State) (a : Addr) (de : Addr) (kde : ClassId) (h0 : Heap) (v : Option Value) (h : Heap) (L : List Loc) : Prop := ∃ (d : Addr) (k : ClassId), v = some (.ref d) ∧ Fr Z.heap.size L ∧ Keep h0 h [a] ∧ h0.size ≤ d ∧ Exa Z h a "java/util/ArrayList" ∧ Fld Z h a "java/util/ArrayList" "elementData" "[Ljava/lang/Object;" (.ref d) ∧ Fld Z h a "java/util/ArrayList" "size" "I" (.int (0 : Int32)) ∧ Fld Z h a "java/util/AbstractList" "modCount" "I" (.int (1 : Int32)) ∧ Exa Z h d "[Ljava/lang/Object;" ∧ Arv Z h d k (.object "java/lang/Object") (10 : Int32) [.null, .null, .null, .null, .null, .null, .null, .null, .null, .null] .null ∧ Ovr Z k "java/lang/Object"
theorem ef_growI (m : MethodId) (a : Addr) : entryFrame m #[(.ref a), (.int (1 : Int32))] 4 = mkF m 0 #[.val (.ref a), .val (.int (1 : Int32)), .unset, .unset] [] := by first | (simp [entryFrame, mkF, argsToLocals, Value.category]; done) | rfl
theorem d_jdk_38_6_0 : decode jdk_38_method_6_code 0 = .ok (.aload_n 0, 1) := by decide +kernel
theorem d_jdk_38_6_1 : decode jdk_38_method_6_code 1 = .ok (.getfield 9, 3) := by decide +kernel
theorem d_jdk_38_6_4 : decode jdk_38_method_6_code 4 = .ok (.arraylength, 1) := by decide +kernel
theorem d_jdk_38_6_5 : decode jdk_38_method_6_code 5 = .ok (.istore_n 2, 1) := by decide +kernel
theorem d_jdk_38_6_6 : decode jdk_38_method_6_code 6 = .ok (.iload_n 2, 1) := by decide +kernel
theorem d_jdk_38_6_7 : decode jdk_38_method_6_code 7 = .ok (.ifCond .gt 13, 3) := by decide +kernel
theorem d_jdk_38_6_10 : decode jdk_38_method_6_code 10 = .ok (.aload_n 0, 1) := by decide +kernel
theorem d_jdk_38_6_11 : decode jdk_38_method_6_code 11 = .ok (.getfield 9, 3) := by decide +kernel
theorem d_jdk_38_6_14 : decode jdk_38_method_6_code 14 = .ok (.getstatic 39, 3) := by decide +kernel
theorem d_jdk_38_6_17 : decode jdk_38_method_6_code 17 = .ok (.if_acmp .eq 28, 3) := by decide +kernel
theorem d_jdk_38_6_45 : decode jdk_38_method_6_code 45 = .ok (.aload_n 0, 1) := by decide +kernel
theorem d_jdk_38_6_46 : decode jdk_38_method_6_code 46 = .ok (.bipush 10, 2) := by decide +kernel
theorem d_jdk_38_6_48 : decode jdk_38_method_6_code 48 = .ok (.iload_n 1, 1) := by decide +kernel
theorem d_jdk_38_6_49 : decode jdk_38_method_6_code 49 = .ok (.invokestatic 79, 3) := by decide +kernel
theorem pd_4 : parseMethodDescriptor "(II)I" = some ⟨[.int, .int], some .int⟩ := by decide +kernel
theorem d_jdk_38_6_52 : decode jdk_38_method_6_code 52 = .ok (.anewarray 7, 3) := by decide +kernel
theorem d_jdk_38_6_55 : decode jdk_38_method_6_code 55 = .ok (.dup_x1, 1) := by decide +kernel
theorem d_jdk_38_6_56 : decode jdk_38_method_6_code 56 = .ok (.putfield 9, 3) := by decide +kernel
theorem d_jdk_38_6_59 : decode jdk_38_method_6_code 59 = .ok (.areturn, 1) := by decide +kernel
set_option maxRecDepth 65536 in
set_option maxHeartbeats 40000000 in
theorem rm_growI (l : Launch) {Z : State} {a0 : Array Value} (hD : Wd Z a0) (a : Addr) (de : Addr) (kde : ClassId) {h0 : Heap} (O0 : Ext Z.heap h0) (E_a : Exa Z h0 a "java/util/ArrayList") (F_ed_a : Fld Z h0 a "java/util/ArrayList" "elementData" "[Ljava/lang/Object;" (.ref de)) (F_sz_a : Fld Z h0 a "java/util/ArrayList" "size" "I" (.int (0 : Int32))) (F_mc_a : Fld Z h0 a "java/util/AbstractList" "modCount" "I" (.int (1 : Int32))) (ge_a : Z.heap.size ≤ a) (S_de : Sta Z Z.heap "java/util/ArrayList" "DEFAULTCAPACITY_EMPTY_ELEMENTDATA" "[Ljava/lang/Object;" (.ref de)) (V_de0 : Arv Z Z.heap de kde (.object "java/lang/Object") (0 : Int32) [] .null) :
    Con l Z (⟨"java/util/ArrayList", "grow", "(I)[Ljava/lang/Object;"⟩ : MethodName) jdk_38_method_6_code 4 (some (.array (.object "java/lang/Object"))) [] ({ frames := 1, cells := 1, slots := 10, locals := 14 } : Room) #[(.ref a), (.int (1 : Int32))] h0 (Q_growI Z a de kde h0) := by
  refine Con.walk (plainFor_of_name pn_8) ?_
  intro p e s m below meth c T0 X0 hx hZ hby hml hown hnm hret hlk e0
  obtain ⟨hw, ⟨cz, S_CS, hcz⟩, ⟨xde, xkde, S_DE, V_DE⟩, ⟨aEM, S_EM⟩, ⟨aEL, S_EL⟩, ⟨cO, kO, mrO, mir1, mir2, mir3⟩, ⟨k0, k1, k2, k3, k4, S_K0, S_K1, S_K2, S_K3, S_K4, kn0, kn2, kn3, kn4⟩⟩ := id hD
  have N0 := Fr.nil Z.heap.size
  have K0 : Keep h0 h0 [a] := Keep.refl _ _
  have V_de := V_de0.ext O0
  refine OEnds.cast (ef_growI m a) ?_
  refine OEnds.st (S' := T0.setTop (mkF m 1 #[.val (.ref a), .val (.int (1 : Int32)), .unset, .unset] [(.ref a)])) (fun _ k => ?_) ?_
  · show Steps p.tables e below (T0.setTop (mkF m 0 #[.val (.ref a), .val (.int (1 : Int32)), .unset, .unset] [])) _
    refine XS.aloadN X0.here hx rfl (hb hby d_jdk_38_6_0) rfl rfl ?_
    exact k
  obtain ⟨T1, X1, e1, st1⟩ := getF X0 hx hZ hown (host := "") (Or.inl (hw _ (List.mem_of_getElem? (i := 56) rfl))) Via.refl e0 F_ed_a (g := (mkF m 1 #[.val (.ref a), .val (.int (1 : Int32)), .unset, .unset] [(.ref a)])) rfl rfl (hb hby d_jdk_38_6_1)
  refine OEnds.st (S' := T1.setTop (mkF m 4 #[.val (.ref a), .val (.int (1 : Int32)), .unset, .unset] [(.ref de)])) st1 ?_
  obtain ⟨cl_de_2, Ar_de_2, q_de_2, S_de_2, N_de_2, H_de_2, G_de_2⟩ := id V_de
  refine OEnds.st (S' := T1.setTop (mkF m 5 #[.val (.ref a), .val (.int (1 : Int32)), .unset, .unset] [(.int (0 : Int32))])) (fun tg kk => X1.arraylength hx (by rw [e1]; exact Ar_de_2.1) (State.isArrayOf_alike hZ.alike Ar_de_2.2.1) (g := (mkF m 4 #[.val (.ref a), .val (.int (1 : Int32)), .unset, .unset] [(.ref de)])) rfl rfl (hb hby d_jdk_38_6_4) tg (by rw [len_of S_de_2 N_de_2]; exact kk)) ?_
  refine OEnds.st (S' := T1.setTop (mkF m 11 #[.val (.ref a), .val (.int (1 : Int32)), .val (.int (0 : Int32)), .unset] [(.ref a)])) (fun _ k => ?_) ?_
  · show Steps p.tables e below (T1.setTop (mkF m 5 #[.val (.ref a), .val (.int (1 : Int32)), .unset, .unset] [(.int (0 : Int32))])) _
    refine XS.istoreN X1.here hx rfl (hb hby d_jdk_38_6_5) rfl (l' := #[.val (.ref a), .val (.int (1 : Int32)), .val (.int (0 : Int32)), .unset]) rfl ?_
    show Steps p.tables e below (T1.setTop (mkF m 6 #[.val (.ref a), .val (.int (1 : Int32)), .val (.int (0 : Int32)), .unset] [])) _
    refine XS.iloadN X1.here hx rfl (hb hby d_jdk_38_6_6) rfl ?_
    show Steps p.tables e below (T1.setTop (mkF m 7 #[.val (.ref a), .val (.int (1 : Int32)), .val (.int (0 : Int32)), .unset] [(.int (0 : Int32))])) _
    refine XS.ifNo X1.here hx rfl (hb hby d_jdk_38_6_7) rfl ((if0 _ _).trans (flt (by decide)).2.2.1) ?_
    show Steps p.tables e below (T1.setTop (mkF m 10 #[.val (.ref a), .val (.int (1 : Int32)), .val (.int (0 : Int32)), .unset] [])) _
    refine XS.aloadN X1.here hx rfl (hb hby d_jdk_38_6_10) rfl rfl ?_
    exact k
  obtain ⟨T3, X3, e3, st3⟩ := getF X1 hx hZ hown (host := "") (Or.inl (hw _ (List.mem_of_getElem? (i := 56) rfl))) Via.refl e1 F_ed_a (g := (mkF m 11 #[.val (.ref a), .val (.int (1 : Int32)), .val (.int (0 : Int32)), .unset] [(.ref a)])) rfl rfl (hb hby d_jdk_38_6_11)
  refine OEnds.st (S' := T3.setTop (mkF m 14 #[.val (.ref a), .val (.int (1 : Int32)), .val (.int (0 : Int32)), .unset] [(.ref de)])) st3 ?_
  obtain ⟨T4, X4, e4, st4⟩ := getS2 X3 hx hZ hown (host := "") (Or.inl (hw _ (List.mem_of_getElem? (i := 55) rfl))) Via.refl e3 (S_de.ext O0) (g := (mkF m 14 #[.val (.ref a), .val (.int (1 : Int32)), .val (.int (0 : Int32)), .unset] [(.ref de)])) rfl (hb hby d_jdk_38_6_14)
  refine OEnds.st (S' := T4.setTop (mkF m 17 #[.val (.ref a), .val (.int (1 : Int32)), .val (.int (0 : Int32)), .unset] [(.ref de), (.ref de)])) st4 ?_
  refine OEnds.st (S' := T4.setTop (mkF m 49 #[.val (.ref a), .val (.int (1 : Int32)), .val (.int (0 : Int32)), .unset] [(.int (1 : Int32)), (.int (10 : Int32)), (.ref a)])) (fun _ k => ?_) ?_
  · show Steps p.tables e below (T4.setTop (mkF m 17 #[.val (.ref a), .val (.int (1 : Int32)), .val (.int (0 : Int32)), .unset] [(.ref de), (.ref de)])) _
    have hq17 : Jvm.Free.XT.acmp .eq ((.ref de) : Value) ((.ref de) : Value) = true := (Jvm.Free.XT.aa_eq_t rfl)
    refine Jvm.Free.XT.acmpYes X4.here hx rfl (pc0 := 17) (pc' := 45) rfl (hb hby d_jdk_38_6_17) rfl rfl rfl hq17 (by decide) (by decide) ?_
    show Steps p.tables e below (T4.setTop (mkF m 45 #[.val (.ref a), .val (.int (1 : Int32)), .val (.int (0 : Int32)), .unset] [])) _
    refine XS.aloadN X4.here hx rfl (hb hby d_jdk_38_6_45) rfl rfl ?_
    show Steps p.tables e below (T4.setTop (mkF m 46 #[.val (.ref a), .val (.int (1 : Int32)), .val (.int (0 : Int32)), .unset] [(.ref a)])) _
    refine XS.bipush X4.here hx rfl (hb hby d_jdk_38_6_46) ?_
    show Steps p.tables e below (T4.setTop (mkF m 48 #[.val (.ref a), .val (.int (1 : Int32)), .val (.int (0 : Int32)), .unset] [(.int (10 : Int32)), (.ref a)])) _
    refine XS.iloadN X4.here hx rfl (hb hby d_jdk_38_6_48) rfl ?_
    exact k
  obtain ⟨_, T5, h5, L5, X5, e5, hQ5, st5⟩ := callC X4 hx hZ hown (hw _ (List.mem_of_getElem? (i := 96) rfl)) (hw _ (List.mem_of_getElem? (i := 97) rfl)) (hw _ (List.mem_of_getElem? (i := 98) rfl)) (hw _ (List.mem_of_getElem? (i := 99) rfl)) (by decide) (kc := 0) (ks := 0) (Con.sb (W := 1) (rm_mmax l hD  O0) hZ (hw _ (List.mem_of_getElem? (i := 99) rfl)) (hw _ (List.mem_of_getElem? (i := 98) rfl)) (by decide) (by decide)) e4 (g := (mkF m 49 #[.val (.ref a), .val (.int (1 : Int32)), .val (.int (0 : Int32)), .unset] [(.int (1 : Int32)), (.int (10 : Int32)), (.ref a)])) rfl (by rw [hml]; rfl) (argsL := [(.int (10 : Int32)), (.int (1 : Int32))]) (rest := [(.ref a)]) (lenOf pd_4 rfl) rfl (by show 2 * 0 + _ ≤ _; exact Nat.le_of_eq rfl) (hb hby d_jdk_38_6_49) (by decide) (by decide)
  obtain ⟨rfl, Nq5, Hq5⟩ := hQ5
  refine OEnds.st (S' := T5.setTop (mkF m 52 #[.val (.ref a), .val (.int (1 : Int32)), .val (.int (0 : Int32)), .unset] [(.int (10 : Int32)), (.ref a)])) st5 ?_
  replace N0 := Fr.app N0 Nq5
  replace e5 := e5.trans Hq5
  obtain ⟨T6, h6, k6, X6, e6, E6, A6, Ex6, Ov6, st6⟩ := newRE X5 hx hZ hown (hw _ (List.mem_of_getElem? (i := 100) rfl)) (hw _ (List.mem_of_getElem? (i := 101) rfl)) e5 (g := (mkF m 52 #[.val (.ref a), .val (.int (1 : Int32)), .val (.int (0 : Int32)), .unset] [(.int (10 : Int32)), (.ref a)])) rfl (hb hby d_jdk_38_6_52) rfl (by decide) (cap := 10) (by decide) (by decide) (by decide) (by decide) (ad := "[Ljava/lang/Object;") (by decide)
  obtain ⟨b6, g6⟩ : ∃ z, z = h0.size := ⟨_, rfl⟩
  rw [← g6] at A6 Ex6 st6
  refine OEnds.st (S' := T6.setTop (mkF m 55 #[.val (.ref a), .val (.int (1 : Int32)), .val (.int (0 : Int32)), .unset] [(.ref b6), (.ref a)])) st6 ?_
  have ne_a_b6 : a ≠ b6 := Nat.ne_of_lt (Nat.lt_of_lt_of_le E_a.lt (Nat.le_of_eq g6.symm))
  have ne_de_b6 : de ≠ b6 := Nat.ne_of_lt (Nat.lt_of_lt_of_le V_de.lt (Nat.le_of_eq g6.symm))
  have ge_b6 : Z.heap.size ≤ b6 := Nat.le_trans O0.1 (Nat.le_of_eq g6.symm)
  have sz_b6 : h0.size ≤ b6 := Nat.le_trans K0.1 (Nat.le_of_eq g6.symm)
  replace E_a := E_a.ext E6
  replace F_ed_a := F_ed_a.ext E6
  replace F_sz_a := F_sz_a.ext E6
  replace F_mc_a := F_mc_a.ext E6
  replace V_de := V_de.ext E6
  replace O0 : Ext Z.heap h6 := ext_trans O0 E6
  replace K0 : Keep h0 h6 [a] := K0.ext E6
  have V_b6 : Arv Z h6 b6 k6 (.object "java/lang/Object") (10 : Int32) [.null, .null, .null, .null, .null, .null, .null, .null, .null, .null] .null := (Arv.new A6 (by decide)).pad (pad_rep [] .null 10)
  refine OEnds.st (S' := T6.setTop (mkF m 56 #[.val (.ref a), .val (.int (1 : Int32)), .val (.int (0 : Int32)), .unset] [(.ref b6), (.ref a), (.ref b6)])) (fun _ k => ?_) ?_
  · show Steps p.tables e below (T6.setTop (mkF m 55 #[.val (.ref a), .val (.int (1 : Int32)), .val (.int (0 : Int32)), .unset] [(.ref b6), (.ref a)])) _
    refine XS.dupX1 X6.here hx rfl (hb hby d_jdk_38_6_55) rfl rfl rfl ?_
    exact k
  have ne_de_a : de ≠ a := Ne.symm (ne_arv E_a (hw _ (List.mem_of_getElem? (i := 35) rfl)) V_de)
  obtain ⟨T7, h7, X7, e7, W7, st7⟩ := putF X6 hx hZ hown (host := "") (Or.inl (hw _ (List.mem_of_getElem? (i := 56) rfl))) Via.refl e6 F_ed_a E_a (Or.inl (hw _ (List.mem_of_getElem? (i := 57) rfl))) (hw _ (List.mem_of_getElem? (i := 35) rfl)) (ty := (.array (.object "java/lang/Object"))) (by decide) rfl rfl (g := (mkF m 56 #[.val (.ref a), .val (.int (1 : Int32)), .val (.int (0 : Int32)), .unset] [(.ref b6), (.ref a), (.ref b6)])) rfl rfl (hb hby d_jdk_38_6_56)
  refine OEnds.st (S' := T7.setTop (mkF m 59 #[.val (.ref a), .val (.int (1 : Int32)), .val (.int (0 : Int32)), .unset] [(.ref b6)])) st7 ?_
  replace E_a := E_a.wr W7
  replace F_ed_a := F_ed_a.same W7
  replace F_sz_a := F_sz_a.other W7 (Or.inr (slot_ne (Or.inl (hw _ (List.mem_of_getElem? (i := 80) rfl))) (Or.inl (hw _ (List.mem_of_getElem? (i := 57) rfl))) (by decide) (t := .int) (t' := (.array (.object "java/lang/Object"))) (by decide) (by decide)))
  replace F_mc_a := F_mc_a.other W7 (Or.inr (slot_ne (Or.inl (hw _ (List.mem_of_getElem? (i := 54) rfl))) (Or.inl (hw _ (List.mem_of_getElem? (i := 57) rfl))) (by decide) (t := .int) (t' := (.array (.object "java/lang/Object"))) (by decide) (by decide)))
  replace V_de := V_de.other W7 ne_de_a
  replace V_b6 := V_b6.other W7 (Ne.symm ne_a_b6)
  replace Ex6 := Ex6.wr W7
  replace O0 : Ext Z.heap h7 := ext_wr O0 W7 ge_a
  replace N0 := Fr.snoc X7 N0 ge_a
  replace K0 : Keep h0 h7 [a] := K0.wr W7 (Or.inl (List.mem_of_getElem? (i := 0) rfl))
  exact OEnds.ret X7 hx hret hlk rfl (Or.inr (Or.inr (Or.inr (Or.inr ⟨rfl, rfl, rfl⟩)))) (hb hby d_jdk_38_6_59) (by decide) (by decide) (by rw [e7]; exact ⟨b6, k6, rfl, N0, K0, sz_b6, E_a, F_ed_a, F_sz_a, F_mc_a, Ex6, V_b6, Ov6⟩)
-- java/util/ArrayList.grow:()[Ljava/lang/Object;
def Q_grow0 (Z : State) (a : Addr) (de : Addr) (kde : ClassId) (h0 : Heap) (v : Option Value) (h : Heap) (L : List Loc) : Prop := ∃ (d : Addr) (k : ClassId), v = some (.ref d) ∧ Fr Z.heap.size L ∧ Keep h0 h [a] ∧ h0.size ≤ d ∧ Exa Z h a "java/util/ArrayList" ∧ Fld Z h a "java/util/ArrayList" "elementData" "[Ljava/lang/Object;" (.ref d) ∧ Fld Z h a "java/util/ArrayList" "size" "I" (.int (0 : Int32)) ∧ Fld Z h a "java/util/AbstractList" "modCount" "I" (.int (1 : Int32)) ∧ Exa Z h d "[Ljava/lang/Object;" ∧ Arv Z h d k (.object "java/lang/Object") (10 : Int32) [.null, .null, .null, .null, .null, .null, .null, .null, .null, .null] .null ∧ Ovr Z k "java/lang/Object"
theorem ef_grow0 (m : MethodId) (a : Addr) : entryFrame m #[(.ref a)] 1 = mkF m 0 #[.val (.ref a)] [] := by first | (simp [entryFrame, mkF, argsToLocals, Value.category]; done) | rfl
theorem d_jdk_38_7_0 : decode jdk_38_method_7_code 0 = .ok (.aload_n 0, 1) := by decide +kernel
theorem d_jdk_38_7_1 : decode jdk_38_method_7_code 1 = .ok (.aload_n 0, 1) := by decide +kernel
theorem d_jdk_38_7_2 : decode jdk_38_method_7_code 2 = .ok (.getfield 48, 3) := by decide +kernel
theorem d_jdk_38_7_5 : decode jdk_38_method_7_code 5 = .ok (.iconst 1, 1) := by decide +kernel
theorem d_jdk_38_7_6 : decode jdk_38_method_7_code 6 = .ok (.iadd, 1) := by decide +kernel
theorem d_jdk_38_7_7 : decode jdk_38_method_7_code 7 = .ok (.invokevirtual 69, 3) := by decide +kernel
theorem pd_5 : parseMethodDescriptor "(I)[Ljava/lang/Object;" = some ⟨[.int], some (.array (.object "java/lang/Object"))⟩ := by decide +kernel
theorem d_jdk_38_7_10 : decode jdk_38_method_7_code 10 = .ok (.areturn, 1) := by decide +kernel
set_option maxRecDepth 65536 in
set_option maxHeartbeats 40000000 in
theorem rm_grow0 (l : Launch) {Z : State} {a0 : Array Value} (hD : Wd Z a0) (a : Addr) (de : Addr) (kde : ClassId) {h0 : Heap} (O0 : Ext Z.heap h0) (E_a : Exa Z h0 a "java/util/ArrayList") (F_ed_a : Fld Z h0 a "java/util/ArrayList" "elementData" "[Ljava/lang/Object;" (.ref de)) (F_sz_a : Fld Z h0 a "java/util/ArrayList" "size" "I" (.int (0 : Int32))) (F_mc_a : Fld Z h0 a "java/util/AbstractList" "modCount" "I" (.int (1 : Int32))) (ge_a : Z.heap.size ≤ a) (S_de : Sta Z Z.heap "java/util/ArrayList" "DEFAULTCAPACITY_EMPTY_ELEMENTDATA" "[Ljava/lang/Object;" (.ref de)) (V_de0 : Arv Z Z.heap de kde (.object "java/lang/Object") (0 : Int32) [] .null) :
    Con l Z (⟨"java/util/ArrayList", "grow", "()[Ljava/lang/Object;"⟩ : MethodName) jdk_38_method_7_code 1 (some (.array (.object "java/lang/Object"))) [] ({ frames := 2, cells := 1, slots := 10, locals := 29 } : Room) #[(.ref a)] h0 (Q_grow0 Z a de kde h0) := by
  refine Con.walk (plainFor_of_name pn_8) ?_
  intro p e s m below meth c T0 X0 hx hZ hby hml hown hnm hret hlk e0
  obtain ⟨hw, ⟨cz, S_CS, hcz⟩, ⟨xde, xkde, S_DE, V_DE⟩, ⟨aEM, S_EM⟩, ⟨aEL, S_EL⟩, ⟨cO, kO, mrO, mir1, mir2, mir3⟩, ⟨k0, k1, k2, k3, k4, S_K0, S_K1, S_K2, S_K3, S_K4, kn0, kn2, kn3, kn4⟩⟩ := id hD
  have N0 := Fr.nil Z.heap.size
  have K0 : Keep h0 h0 [a] := Keep.refl _ _
  refine OEnds.cast (ef_grow0 m a) ?_
  refine OEnds.st (S' := T0.setTop (mkF m 2 #[.val (.ref a)] [(.ref a), (.ref a)])) (fun _ k => ?_) ?_
  · show Steps p.tables e below (T0.setTop (mkF m 0 #[.val (.ref a)] [])) _
    refine XS.aloadN X0.here hx rfl (hb hby d_jdk_38_7_0) rfl rfl ?_
    show Steps p.tables e below (T0.setTop (mkF m 1 #[.val (.ref a)] [(.ref a)])) _
    refine XS.aloadN X0.here hx rfl (hb hby d_jdk_38_7_1) rfl rfl ?_
    exact k
  obtain ⟨T1, X1, e1, st1⟩ := getF X0 hx hZ hown (host := "") (Or.inl (hw _ (List.mem_of_getElem? (i := 79) rfl))) Via.refl e0 F_sz_a (g := (mkF m 2 #[.val (.ref a)] [(.ref a), (.ref a)])) rfl rfl (hb hby d_jdk_38_7_2)
  refine OEnds.st (S' := T1.setTop (mkF m 5 #[.val (.ref a)] [(.int (0 : Int32)), (.ref a)])) st1 ?_
  refine OEnds.st (S' := T1.setTop (mkF m 7 #[.val (.ref a)] [(.int (1 : Int32)), (.ref a)])) (fun _ k => ?_) ?_
  · show Steps p.tables e below (T1.setTop (mkF m 5 #[.val (.ref a)] [(.int (0 : Int32)), (.ref a)])) _
    refine XS.iconst X1.here hx rfl (hb hby d_jdk_38_7_5) ?_
    show Steps p.tables e below (T1.setTop (mkF m 6 #[.val (.ref a)] [(.int (1 : Int32)), (.int (0 : Int32)), (.ref a)])) _
    refine XS.iadd X1.here hx rfl (hb hby d_jdk_38_7_6) rfl ?_
    exact k
  obtain ⟨_, T2, h2, L2, X2, e2, hQ2, st2⟩ := privC X1 hx hZ (y := (⟨"java/util/ArrayList", "grow", "(I)[Ljava/lang/Object;"⟩ : MethodName)) hown (hw _ (List.mem_of_getElem? (i := 91) rfl)) (hw _ (List.mem_of_getElem? (i := 92) rfl)) (hw _ (List.mem_of_getElem? (i := 94) rfl)) (hw _ (List.mem_of_getElem? (i := 93) rfl)) (hw _ (List.mem_of_getElem? (i := 95) rfl)) (by decide) (kc := 1) (ks := 10) (Con.sb (W := 0) (rm_growI l hD a de kde O0 E_a F_ed_a F_sz_a F_mc_a ge_a S_de V_de0) hZ (hw _ (List.mem_of_getElem? (i := 95) rfl)) (hw _ (List.mem_of_getElem? (i := 36) rfl)) (by decide) (by decide)) e1 E_a (g := (mkF m 7 #[.val (.ref a)] [(.int (1 : Int32)), (.ref a)])) rfl (by rw [hml]; rfl) (argsL := [(.int (1 : Int32))]) (rest := []) (lenOf pd_5 rfl) rfl (by show 2 * 0 + _ ≤ _; exact Nat.le_of_eq rfl) (hb hby d_jdk_38_7_7) (by decide) (by decide)
  obtain ⟨d2, k2, rfl, Nq2, Kq2, szd2, Eq2, Fe2, Fs2, Fm2, Ed2, V2, Ov2⟩ := hQ2
  refine OEnds.st (S' := T2.setTop (mkF m 10 #[.val (.ref a)] [(.ref d2)])) st2 ?_
  replace N0 := Fr.app N0 Nq2
  have ne_a_d2 : a ≠ d2 := Nat.ne_of_lt (Nat.lt_of_lt_of_le E_a.lt szd2)
  have ge_d2 : Z.heap.size ≤ d2 := Nat.le_trans O0.1 szd2
  have sz_d2 : h0.size ≤ d2 := Nat.le_trans K0.1 szd2
  replace E_a := E_a.keep Kq2
  replace O0 : Ext Z.heap h2 := ext_keep O0 Kq2 (allS ge_a all0)
  replace K0 : Keep h0 h2 [a] := K0.trans Kq2 (allS (Or.inl (List.mem_of_getElem? (i := 0) rfl)) all0)
  exact OEnds.ret X2 hx hret hlk rfl (Or.inr (Or.inr (Or.inr (Or.inr ⟨rfl, rfl, rfl⟩)))) (hb hby d_jdk_38_7_10) (by decide) (by decide) (by rw [e2]; exact ⟨d2, k2, rfl, N0, K0, sz_d2, Eq2, Fe2, Fs2, Fm2, Ed2, V2, Ov2⟩)
-- java/util/ArrayList.add:(Ljava/lang/Object;[Ljava/lang/Object;I)V
def Q_help0 (Z : State) (a : Addr) (x1 : Addr) (de : Addr) (kde : ClassId) (h0 : Heap) (v : Option Value) (h : Heap) (L : List Loc) : Prop := ∃ (d : Addr) (k : ClassId), v = none ∧ Fr Z.heap.size L ∧ Keep h0 h [a] ∧ h0.size ≤ d ∧ Exa Z h a "java/util/ArrayList" ∧ Fld Z h a "java/util/ArrayList" "elementData" "[Ljava/lang/Object;" (.ref d) ∧ Fld Z h a "java/util/ArrayList" "size" "I" (.int (1 : Int32)) ∧ Fld Z h a "java/util/AbstractList" "modCount" "I" (.int (1 : Int32)) ∧ Exa Z h d "[Ljava/lang/Object;" ∧ Arv Z h d k (.object "java/lang/Object") (10 : Int32) [(.ref x1), .null, .null, .null, .null, .null, .null, .null, .null, .null] .null ∧ Ovr Z k "java/lang/Object"
theorem ef_help0 (m : MethodId) (a : Addr) (x1 : Addr) (de : Addr) : entryFrame m #[(.ref a), (.ref x1), (.ref de), (.int (0 : Int32))] 4 = mkF m 0 #[.val (.ref a), .val (.ref x1), .val (.ref de), .val (.int (0 : Int32))] [] := by first | (simp [entryFrame, mkF, argsToLocals, Value.category]; done) | rfl
theorem d_jdk_38_24_0 : decode jdk_38_method_24_code 0 = .ok (.iload_n 3, 1) := by decide +kernel
theorem d_jdk_38_24_1 : decode jdk_38_method_24_code 1 = .ok (.aload_n 2, 1) := by decide +kernel
theorem d_jdk_38_24_2 : decode jdk_38_method_24_code 2 = .ok (.arraylength, 1) := by decide +kernel
theorem d_jdk_38_24_3 : decode jdk_38_method_24_code 3 = .ok (.if_icmp .ne 8, 3) := by decide +kernel
theorem d_jdk_38_24_6 : decode jdk_38_method_24_code 6 = .ok (.aload_n 0, 1) := by decide +kernel
theorem d_jdk_38_24_7 : decode jdk_38_method_24_code 7 = .ok (.invokevirtual 129, 3) := by decide +kernel
theorem pd_6 : parseMethodDescriptor "()[Ljava/lang/Object;" = some ⟨[], some (.array (.object "java/lang/Object"))⟩ := by decide +kernel
theorem d_jdk_38_24_10 : decode jdk_38_method_24_code 10 = .ok (.astore_n 2, 1) := by decide +kernel
theorem d_jdk_38_24_11 : decode jdk_38_method_24_code 11 = .ok (.aload_n 2, 1) := by decide +kernel
theorem d_jdk_38_24_12 : decode jdk_38_method_24_code 12 = .ok (.iload_n 3, 1) := by decide +kernel
theorem d_jdk_38_24_13 : decode jdk_38_method_24_code 13 = .ok (.aload_n 1, 1) := by decide +kernel
theorem d_jdk_38_24_14 : decode jdk_38_method_24_code 14 = .ok (.aastore, 1) := by decide +kernel
theorem d_jdk_38_24_15 : decode jdk_38_method_24_code 15 = .ok (.aload_n 0, 1) := by decide +kernel
theorem d_jdk_38_24_16 : decode jdk_38_method_24_code 16 = .ok (.iload_n 3, 1) := by decide +kernel
theorem d_jdk_38_24_17 : decode jdk_38_method_24_code 17 = .ok (.iconst 1, 1) := by decide +kernel
theorem d_jdk_38_24_18 : decode jdk_38_method_24_code 18 = .ok (.iadd, 1) := by decide +kernel
theorem d_jdk_38_24_19 : decode jdk_38_method_24_code 19 = .ok (.putfield 48, 3) := by decide +kernel
theorem d_jdk_38_24_22 : decode jdk_38_method_24_code 22 = .ok (.return_, 1) := by decide +kernel
set_option maxRecDepth 65536 in
set_option maxHeartbeats 40000000 in
theorem rm_help0 (l : Launch) {Z : State} {a0 : Array Value} (hD : Wd Z a0) (a : Addr) (x1 : Addr) (de : Addr) (kde : ClassId) {h0 : Heap} (O0 : Ext Z.heap h0) (E_a : Exa Z h0 a "java/util/ArrayList") (F_ed_a : Fld Z h0 a "java/util/ArrayList" "elementData" "[Ljava/lang/Object;" (.ref de)) (F_sz_a : Fld Z h0 a "java/util/ArrayList" "size" "I" (.int (0 : Int32))) (F_mc_a : Fld Z h0 a "java/util/AbstractList" "modCount" "I" (.int (1 : Int32))) (ge_a : Z.heap.size ≤ a) (S_de : Sta Z Z.heap "java/util/ArrayList" "DEFAULTCAPACITY_EMPTY_ELEMENTDATA" "[Ljava/lang/Object;" (.ref de)) (V_de0 : Arv Z Z.heap de kde (.object "java/lang/Object") (0 : Int32) [] .null) (E_x1 : Exa Z h0 x1 "java/lang/String") :
    Con l Z (⟨"java/util/ArrayList", "add", "(Ljava/lang/Object;[Ljava/lang/Object;I)V"⟩ : MethodName) jdk_38_method_24_code 4 none [] ({ frames := 3, cells := 1, slots := 10, locals := 41 } : Room) #[(.ref a), (.ref x1), (.ref de), (.int (0 : Int32))] h0 (Q_help0 Z a x1 de kde h0) := by
  refine Con.walk (plainFor_of_name pn_8) ?_
  intro p e s m below meth c T0 X0 hx hZ hby hml hown hnm hret hlk e0
  obtain ⟨hw, ⟨cz, S_CS, hcz⟩, ⟨xde, xkde, S_DE, V_DE⟩, ⟨aEM, S_EM⟩, ⟨aEL, S_EL⟩, ⟨cO, kO, mrO, mir1, mir2, mir3⟩, ⟨k0, k1, k2, k3, k4, S_K0, S_K1, S_K2, S_K3, S_K4, kn0, kn2, kn3, kn4⟩⟩ := id hD
  have N0 := Fr.nil Z.heap.size
  have K0 : Keep h0 h0 [a] := Keep.refl _ _
  have V_de := V_de0.ext O0
  refine OEnds.cast (ef_help0 m a x1 de) ?_
  refine OEnds.st (S' := T0.setTop (mkF m 2 #[.val (.ref a), .val (.ref x1), .val (.ref de), .val (.int (0 : Int32))] [(.ref de), (.int (0 : Int32))])) (fun _ k => ?_) ?_
  · show Steps p.tables e below (T0.setTop (mkF m 0 #[.val (.ref a), .val (.ref x1), .val (.ref de), .val (.int (0 : Int32))] [])) _
    refine XS.iloadN X0.here hx rfl (hb hby d_jdk_38_24_0) rfl ?_
    show Steps p.tables e below (T0.setTop (mkF m 1 #[.val (.ref a), .val (.ref x1), .val (.ref de), .val (.int (0 : Int32))] [(.int (0 : Int32))])) _
    refine XS.aloadN X0.here hx rfl (hb hby d_jdk_38_24_1) rfl rfl ?_
    exact k
  obtain ⟨cl_de_1, Ar_de_1, q_de_1, S_de_1, N_de_1, H_de_1, G_de_1⟩ := id V_de
  refine OEnds.st (S' := T0.setTop (mkF m 3 #[.val (.ref a), .val (.ref x1), .val (.ref de), .val (.int (0 : Int32))] [(.int (0 : Int32)), (.int (0 : Int32))])) (fun tg kk => X0.arraylength hx (by rw [e0]; exact Ar_de_1.1) (State.isArrayOf_alike hZ.alike Ar_de_1.2.1) (g := (mkF m 2 #[.val (.ref a), .val (.ref x1), .val (.ref de), .val (.int (0 : Int32))] [(.ref de), (.int (0 : Int32))])) rfl rfl (hb hby d_jdk_38_24_2) tg (by rw [len_of S_de_1 N_de_1]; exact kk)) ?_
  refine OEnds.st (S' := T0.setTop (mkF m 7 #[.val (.ref a), .val (.ref x1), .val (.ref de), .val (.int (0 : Int32))] [(.ref a)])) (fun _ k => ?_) ?_
  · show Steps p.tables e below (T0.setTop (mkF m 3 #[.val (.ref a), .val (.ref x1), .val (.ref de), .val (.int (0 : Int32))] [(.int (0 : Int32)), (.int (0 : Int32))])) _
    refine XS.icmpNo X0.here hx rfl (hb hby d_jdk_38_24_3) rfl (teq (by decide)).2 ?_
    show Steps p.tables e below (T0.setTop (mkF m 6 #[.val (.ref a), .val (.ref x1), .val (.ref de), .val (.int (0 : Int32))] [])) _
    refine XS.aloadN X0.here hx rfl (hb hby d_jdk_38_24_6) rfl rfl ?_
    exact k
  obtain ⟨_, T2, h2, L2, X2, e2, hQ2, st2⟩ := privC X0 hx hZ (y := (⟨"java/util/ArrayList", "grow", "()[Ljava/lang/Object;"⟩ : MethodName)) hown (hw _ (List.mem_of_getElem? (i := 86) rfl)) (hw _ (List.mem_of_getElem? (i := 87) rfl)) (hw _ (List.mem_of_getElem? (i := 89) rfl)) (hw _ (List.mem_of_getElem? (i := 88) rfl)) (hw _ (List.mem_of_getElem? (i := 90) rfl)) (by decide) (kc := 1) (ks := 10) (Con.sb (W := 0) (rm_grow0 l hD a de kde O0 E_a F_ed_a F_sz_a F_mc_a ge_a S_de V_de0) hZ (hw _ (List.mem_of_getElem? (i := 90) rfl)) (hw _ (List.mem_of_getElem? (i := 36) rfl)) (by decide) (by decide)) e0 E_a (g := (mkF m 7 #[.val (.ref a), .val (.ref x1), .val (.ref de), .val (.int (0 : Int32))] [(.ref a)])) rfl (by rw [hml]; rfl) (argsL := []) (rest := []) (lenOf pd_6 rfl) rfl (by show 2 * 0 + _ ≤ _; exact Nat.le_of_eq rfl) (hb hby d_jdk_38_24_7) (by decide) (by decide)
  obtain ⟨d2, k2, rfl, Nq2, Kq2, szd2, Eq2, Fe2, Fs2, Fm2, Ed2, V2, Ov2⟩ := hQ2
  refine OEnds.st (S' := T2.setTop (mkF m 10 #[.val (.ref a), .val (.ref x1), .val (.ref de), .val (.int (0 : Int32))] [(.ref d2)])) st2 ?_
  replace N0 := Fr.app N0 Nq2
  have ne_a_d2 : a ≠ d2 := Nat.ne_of_lt (Nat.lt_of_lt_of_le E_a.lt szd2)
  have ne_de_d2 : de ≠ d2 := Nat.ne_of_lt (Nat.lt_of_lt_of_le V_de.lt szd2)
  have ne_x1_d2 : x1 ≠ d2 := Nat.ne_of_lt (Nat.lt_of_lt_of_le E_x1.lt szd2)
  have ge_d2 : Z.heap.size ≤ d2 := Nat.le_trans O0.1 szd2
  have sz_d2 : h0.size ≤ d2 := Nat.le_trans K0.1 szd2
  have ne_de_a : de ≠ a := Ne.symm (ne_arv E_a (hw _ (List.mem_of_getElem? (i := 35) rfl)) V_de)
  have ne_x1_a : x1 ≠ a := ne_exa E_x1 E_a (by decide)
  replace E_a := E_a.keep Kq2
  replace V_de := V_de.keep Kq2 (ninS ne_de_a nin0)
  replace E_x1 := E_x1.keep Kq2
  replace O0 : Ext Z.heap h2 := ext_keep O0 Kq2 (allS ge_a all0)
  replace K0 : Keep h0 h2 [a] := K0.trans Kq2 (allS (Or.inl (List.mem_of_getElem? (i := 0) rfl)) all0)
  refine OEnds.st (S' := T2.setTop (mkF m 14 #[.val (.ref a), .val (.ref x1), .val (.ref d2), .val (.int (0 : Int32))] [(.ref x1), (.int (0 : Int32)), (.ref d2)])) (fun _ k => ?_) ?_
  · show Steps p.tables e below (T2.setTop (mkF m 10 #[.val (.ref a), .val (.ref x1), .val (.ref de), .val (.int (0 : Int32))] [(.ref d2)])) _
    refine XS.astoreN X2.here hx rfl (hb hby d_jdk_38_24_10) rfl rfl (l' := #[.val (.ref a), .val (.ref x1), .val (.ref d2), .val (.int (0 : Int32))]) rfl ?_
    show Steps p.tables e below (T2.setTop (mkF m 11 #[.val (.ref a), .val (.ref x1), .val (.ref d2), .val (.int (0 : Int32))] [])) _
    refine XS.aloadN X2.here hx rfl (hb hby d_jdk_38_24_11) rfl rfl ?_
    show Steps p.tables e below (T2.setTop (mkF m 12 #[.val (.ref a), .val (.ref x1), .val (.ref d2), .val (.int (0 : Int32))] [(.ref d2)])) _
    refine XS.iloadN X2.here hx rfl (hb hby d_jdk_38_24_12) rfl ?_
    show Steps p.tables e below (T2.setTop (mkF m 13 #[.val (.ref a), .val (.ref x1), .val (.ref d2), .val (.int (0 : Int32))] [(.int (0 : Int32)), (.ref d2)])) _
    refine XS.aloadN X2.here hx rfl (hb hby d_jdk_38_24_13) rfl rfl ?_
    exact k
  obtain ⟨cl_d2_3, Ar_d2_3, q_d2_3, S_d2_3, N_d2_3, H_d2_3, G_d2_3⟩ := V2
  obtain ⟨T3, h3, X3, e3, W3, st3⟩ := stR X2 hx hZ e2 Ar_d2_3 (j := (0 : Int32)) (inb_of S_d2_3 ⟨by decide, by decide⟩) rfl (Sto.ofV Ar_d2_3 q_d2_3 Ov2 (Ins.of_exa E_x1 (hw _ (List.mem_of_getElem? (i := 102) rfl)))) (g := (mkF m 14 #[.val (.ref a), .val (.ref x1), .val (.ref d2), .val (.int (0 : Int32))] [(.ref x1), (.int (0 : Int32)), (.ref d2)])) rfl rfl (hb hby d_jdk_38_24_14)
  have V_d2_3 : Arv Z h3 d2 k2 (.object "java/lang/Object") (10 : Int32) [(.ref x1), .null, .null, .null, .null, .null, .null, .null, .null, .null] .null := Arv.set Ar_d2_3 q_d2_3 S_d2_3 N_d2_3 H_d2_3 G_d2_3 rfl W3 0 rfl (Nat.le_of_ble_eq_true rfl)
  refine OEnds.st (S' := T3.setTop (mkF m 15 #[.val (.ref a), .val (.ref x1), .val (.ref d2), .val (.int (0 : Int32))] [])) st3 ?_
  replace E_a := E_a.wr W3
  replace V_de := V_de.other W3 ne_de_d2
  replace E_x1 := E_x1.wr W3
  replace Fe2 := Fe2.other W3 (Or.inl ne_a_d2)
  replace Fs2 := Fs2.other W3 (Or.inl ne_a_d2)
  replace Fm2 := Fm2.other W3 (Or.inl ne_a_d2)
  replace Ed2 := Ed2.wr W3
  replace O0 : Ext Z.heap h3 := ext_wr O0 W3 ge_d2
  replace N0 := Fr.snoc X3 N0 ge_d2
  replace K0 : Keep h0 h3 [a] := K0.wr W3 (Or.inr sz_d2)
  refine OEnds.st (S' := T3.setTop (mkF m 19 #[.val (.ref a), .val (.ref x1), .val (.ref d2), .val (.int (0 : Int32))] [(.int (1 : Int32)), (.ref a)])) (fun _ k => ?_) ?_
  · show Steps p.tables e below (T3.setTop (mkF m 15 #[.val (.ref a), .val (.ref x1), .val (.ref d2), .val (.int (0 : Int32))] [])) _
    refine XS.aloadN X3.here hx rfl (hb hby d_jdk_38_24_15) rfl rfl ?_
    show Steps p.tables e below (T3.setTop (mkF m 16 #[.val (.ref a), .val (.ref x1), .val (.ref d2), .val (.int (0 : Int32))] [(.ref a)])) _
    refine XS.iloadN X3.here hx rfl (hb hby d_jdk_38_24_16) rfl ?_
    show Steps p.tables e below (T3.setTop (mkF m 17 #[.val (.ref a), .val (.ref x1), .val (.ref d2), .val (.int (0 : Int32))] [(.int (0 : Int32)), (.ref a)])) _
    refine XS.iconst X3.here hx rfl (hb hby d_jdk_38_24_17) ?_
    show Steps p.tables e below (T3.setTop (mkF m 18 #[.val (.ref a), .val (.ref x1), .val (.ref d2), .val (.int (0 : Int32))] [(.int (1 : Int32)), (.int (0 : Int32)), (.ref a)])) _
    refine XS.iadd X3.here hx rfl (hb hby d_jdk_38_24_18) rfl ?_
    exact k
  obtain ⟨T4, h4, X4, e4, W4, st4⟩ := putF X3 hx hZ hown (host := "") (Or.inl (hw _ (List.mem_of_getElem? (i := 79) rfl))) Via.refl e3 Fs2 E_a (Or.inl (hw _ (List.mem_of_getElem? (i := 80) rfl))) (hw _ (List.mem_of_getElem? (i := 35) rfl)) (ty := .int) (by decide) rfl rfl (g := (mkF m 19 #[.val (.ref a), .val (.ref x1), .val (.ref d2), .val (.int (0 : Int32))] [(.int (1 : Int32)), (.ref a)])) rfl rfl (hb hby d_jdk_38_24_19)
  refine OEnds.st (S' := T4.setTop (mkF m 22 #[.val (.ref a), .val (.ref x1), .val (.ref d2), .val (.int (0 : Int32))] [])) st4 ?_
  replace E_a := E_a.wr W4
  replace V_de := V_de.other W4 ne_de_a
  replace E_x1 := E_x1.wr W4
  replace Fe2 := Fe2.other W4 (Or.inr (slot_ne (Or.inl (hw _ (List.mem_of_getElem? (i := 57) rfl))) (Or.inl (hw _ (List.mem_of_getElem? (i := 80) rfl))) (by decide) (t := (.array (.object "java/lang/Object"))) (t' := .int) (by decide) (by decide)))
  replace Fs2 := Fs2.same W4
  replace Fm2 := Fm2.other W4 (Or.inr (slot_ne (Or.inl (hw _ (List.mem_of_getElem? (i := 54) rfl))) (Or.inl (hw _ (List.mem_of_getElem? (i := 80) rfl))) (by decide) (t := .int) (t' := .int) (by decide) (by decide)))
  replace Ed2 := Ed2.wr W4
  replace V_d2_3 := V_d2_3.other W4 (Ne.symm ne_a_d2)
  replace O0 : Ext Z.heap h4 := ext_wr O0 W4 ge_a
  replace N0 := Fr.snoc X4 N0 ge_a
  replace K0 : Keep h0 h4 [a] := K0.wr W4 (Or.inl (List.mem_of_getElem? (i := 0) rfl))
  exact OEnds.retV X4 hx hret hlk (hb hby d_jdk_38_24_22) (by decide) (by decide) (by rw [e4]; exact ⟨d2, k2, rfl, N0, K0, sz_d2, E_a, Fe2, Fs2, Fm2, Ed2, V_d2_3, Ov2⟩)
-- java/util/ArrayList.add:(Ljava/lang/Object;)Z
def Q_add0 (Z : State) (a : Addr) (x1 : Addr) (de : Addr) (kde : ClassId) (h0 : Heap) (v : Option Value) (h : Heap) (L : List Loc) : Prop := ∃ (d : Addr) (k : ClassId), v = some (.int 1) ∧ Fr Z.heap.size L ∧ Keep h0 h [a] ∧ h0.size ≤ d ∧ Exa Z h a "java/util/ArrayList" ∧ Fld Z h a "java/util/ArrayList" "elementData" "[Ljava/lang/Object;" (.ref d) ∧ Fld Z h a "java/util/ArrayList" "size" "I" (.int (1 : Int32)) ∧ Fld Z h a "java/util/AbstractList" "modCount" "I" (.int (1 : Int32)) ∧ Exa Z h d "[Ljava/lang/Object;" ∧ Arv Z h d k (.object "java/lang/Object") (10 : Int32) [(.ref x1), .null, .null, .null, .null, .null, .null, .null, .null, .null] .null ∧ Ovr Z k "java/lang/Object"
theorem ef_add0 (m : MethodId) (a : Addr) (x1 : Addr) : entryFrame m #[(.ref a), (.ref x1)] 2 = mkF m 0 #[.val (.ref a), .val (.ref x1)] [] := by first | (simp [entryFrame, mkF, argsToLocals, Value.category]; done) | rfl
theorem d_jdk_38_25_0 : decode jdk_38_method_25_code 0 = .ok (.aload_n 0, 1) := by decide +kernel
theorem d_jdk_38_25_1 : decode jdk_38_method_25_code 1 = .ok (.dup, 1) := by decide +kernel
theorem d_jdk_38_25_2 : decode jdk_38_method_25_code 2 = .ok (.getfield 63, 3) := by decide +kernel
theorem d_jdk_38_25_5 : decode jdk_38_method_25_code 5 = .ok (.iconst 1, 1) := by decide +kernel
theorem d_jdk_38_25_6 : decode jdk_38_method_25_code 6 = .ok (.iadd, 1) := by decide +kernel
theorem d_jdk_38_25_7 : decode jdk_38_method_25_code 7 = .ok (.putfield 63, 3) := by decide +kernel
theorem d_jdk_38_25_10 : decode jdk_38_method_25_code 10 = .ok (.aload_n 0, 1) := by decide +kernel
theorem d_jdk_38_25_11 : decode jdk_38_method_25_code 11 = .ok (.aload_n 1, 1) := by decide +kernel
theorem d_jdk_38_25_12 : decode jdk_38_method_25_code 12 = .ok (.aload_n 0, 1) := by decide +kernel
theorem d_jdk_38_25_13 : decode jdk_38_method_25_code 13 = .ok (.getfield 9, 3) := by decide +kernel
theorem d_jdk_38_25_16 : decode jdk_38_method_25_code 16 = .ok (.aload_n 0, 1) := by decide +kernel
theorem d_jdk_38_25_17 : decode jdk_38_method_25_code 17 = .ok (.getfield 48, 3) := by decide +kernel
theorem d_jdk_38_25_20 : decode jdk_38_method_25_code 20 = .ok (.invokevirtual 131, 3) := by decide +kernel
theorem pd_7 : parseMethodDescriptor "(Ljava/lang/Object;[Ljava/lang/Object;I)V" = some ⟨[(.object "java/lang/Object"), (.array (.object "java/lang/Object")), .int], none⟩ := by decide +kernel
theorem d_jdk_38_25_23 : decode jdk_38_method_25_code 23 = .ok (.iconst 1, 1) := by decide +kernel
theorem d_jdk_38_25_24 : decode jdk_38_method_25_code 24 = .ok (.ireturn, 1) := by decide +kernel
set_option maxRecDepth 65536 in
set_option maxHeartbeats 40000000 in
theorem rm_add0 (l : Launch) {Z : State} {a0 : Array Value} (hD : Wd Z a0) (a : Addr) (x1 : Addr) (de : Addr) (kde : ClassId) {h0 : Heap} (O0 : Ext Z.heap h0) (E_a : Exa Z h0 a "java/util/ArrayList") (F_ed_a : Fld Z h0 a "java/util/ArrayList" "elementData" "[Ljava/lang/Object;" (.ref de)) (F_sz_a : Fld Z h0 a "java/util/ArrayList" "size" "I" (.int (0 : Int32))) (F_mc_a : Fld Z h0 a "java/util/AbstractList" "modCount" "I" (.int (0 : Int32))) (ge_a : Z.heap.size ≤ a) (S_de : Sta Z Z.heap "java/util/ArrayList" "DEFAULTCAPACITY_EMPTY_ELEMENTDATA" "[Ljava/lang/Object;" (.ref de)) (V_de0 : Arv Z Z.heap de kde (.object "java/lang/Object") (0 : Int32) [] .null) (E_x1 : Exa Z h0 x1 "java/lang/String") :
    Con l Z (⟨"java/util/ArrayList", "add", "(Ljava/lang/Object;)Z"⟩ : MethodName) jdk_38_method_25_code 2 (some .boolean) [] ({ frames := 4, cells := 1, slots := 10, locals := 56 } : Room) #[(.ref a), (.ref x1)] h0 (Q_add0 Z a x1 de kde h0) := by
  refine Con.walk (plainFor_of_name pn_8) ?_
  intro p e s m below meth c T0 X0 hx hZ hby hml hown hnm hret hlk e0
  obtain ⟨hw, ⟨cz, S_CS, hcz⟩, ⟨xde, xkde, S_DE, V_DE⟩, ⟨aEM, S_EM⟩, ⟨aEL, S_EL⟩, ⟨cO, kO, mrO, mir1, mir2, mir3⟩, ⟨k0, k1, k2, k3, k4, S_K0, S_K1, S_K2, S_K3, S_K4, kn0, kn2, kn3, kn4⟩⟩ := id hD
  have N0 := Fr.nil Z.heap.size
  have K0 : Keep h0 h0 [a] := Keep.refl _ _
  refine OEnds.cast (ef_add0 m a x1) ?_
  refine OEnds.st (S' := T0.setTop (mkF m 2 #[.val (.ref a), .val (.ref x1)] [(.ref a), (.ref a)])) (fun _ k => ?_) ?_
  · show Steps p.tables e below (T0.setTop (mkF m 0 #[.val (.ref a), .val (.ref x1)] [])) _
    refine XS.aloadN X0.here hx rfl (hb hby d_jdk_38_25_0) rfl rfl ?_
    show Steps p.tables e below (T0.setTop (mkF m 1 #[.val (.ref a), .val (.ref x1)] [(.ref a)])) _
    refine XS.dup X0.here hx rfl (hb hby d_jdk_38_25_1) rfl rfl ?_
    exact k
  obtain ⟨T1, X1, e1, st1⟩ := getF X0 hx hZ hown (host := "") (Or.inl (hw _ (List.mem_of_getElem? (i := 77) rfl))) (Via.of (hw _ (List.mem_of_getElem? (i := 78) rfl))) e0 F_mc_a (g := (mkF m 2 #[.val (.ref a), .val (.ref x1)] [(.ref a), (.ref a)])) rfl rfl (hb hby d_jdk_38_25_2)
  refine OEnds.st (S' := T1.setTop (mkF m 5 #[.val (.ref a), .val (.ref x1)] [(.int (0 : Int32)), (.ref a)])) st1 ?_
  refine OEnds.st (S' := T1.setTop (mkF m 7 #[.val (.ref a), .val (.ref x1)] [(.int (1 : Int32)), (.ref a)])) (fun _ k => ?_) ?_
  · show Steps p.tables e below (T1.setTop (mkF m 5 #[.val (.ref a), .val (.ref x1)] [(.int (0 : Int32)), (.ref a)])) _
    refine XS.iconst X1.here hx rfl (hb hby d_jdk_38_25_5) ?_
    show Steps p.tables e below (T1.setTop (mkF m 6 #[.val (.ref a), .val (.ref x1)] [(.int (1 : Int32)), (.int (0 : Int32)), (.ref a)])) _
    refine XS.iadd X1.here hx rfl (hb hby d_jdk_38_25_6) rfl ?_
    exact k
  have ne_x1_a : x1 ≠ a := ne_exa E_x1 E_a (by decide)
  obtain ⟨T2, h2, X2, e2, W2, st2⟩ := putF X1 hx hZ hown (host := "") (Or.inl (hw _ (List.mem_of_getElem? (i := 77) rfl))) (Via.of (hw _ (List.mem_of_getElem? (i := 78) rfl))) e1 F_mc_a E_a (Or.inl (hw _ (List.mem_of_getElem? (i := 54) rfl))) (hw _ (List.mem_of_getElem? (i := 35) rfl)) (ty := .int) (by decide) rfl rfl (g := (mkF m 7 #[.val (.ref a), .val (.ref x1)] [(.int (1 : Int32)), (.ref a)])) rfl rfl (hb hby d_jdk_38_25_7)
  refine OEnds.st (S' := T2.setTop (mkF m 10 #[.val (.ref a), .val (.ref x1)] [])) st2 ?_
  replace E_a := E_a.wr W2
  replace F_ed_a := F_ed_a.other W2 (Or.inr (slot_ne (Or.inl (hw _ (List.mem_of_getElem? (i := 57) rfl))) (Or.inl (hw _ (List.mem_of_getElem? (i := 54) rfl))) (by decide) (t := (.array (.object "java/lang/Object"))) (t' := .int) (by decide) (by decide)))
  replace F_sz_a := F_sz_a.other W2 (Or.inr (slot_ne (Or.inl (hw _ (List.mem_of_getElem? (i := 80) rfl))) (Or.inl (hw _ (List.mem_of_getElem? (i := 54) rfl))) (by decide) (t := .int) (t' := .int) (by decide) (by decide)))
  replace F_mc_a := F_mc_a.same W2
  replace E_x1 := E_x1.wr W2
  replace O0 : Ext Z.heap h2 := ext_wr O0 W2 ge_a
  replace N0 := Fr.snoc X2 N0 ge_a
  replace K0 : Keep h0 h2 [a] := K0.wr W2 (Or.inl (List.mem_of_getElem? (i := 0) rfl))
  refine OEnds.st (S' := T2.setTop (mkF m 13 #[.val (.ref a), .val (.ref x1)] [(.ref a), (.ref x1), (.ref a)])) (fun _ k => ?_) ?_
  · show Steps p.tables e below (T2.setTop (mkF m 10 #[.val (.ref a), .val (.ref x1)] [])) _
    refine XS.aloadN X2.here hx rfl (hb hby d_jdk_38_25_10) rfl rfl ?_
    show Steps p.tables e below (T2.setTop (mkF m 11 #[.val (.ref a), .val (.ref x1)] [(.ref a)])) _
    refine XS.aloadN X2.here hx rfl (hb hby d_jdk_38_25_11) rfl rfl ?_
    show Steps p.tables e below (T2.setTop (mkF m 12 #[.val (.ref a), .val (.ref x1)] [(.ref x1), (.ref a)])) _
    refine XS.aloadN X2.here hx rfl (hb hby d_jdk_38_25_12) rfl rfl ?_
    exact k
  obtain ⟨T3, X3, e3, st3⟩ := getF X2 hx hZ hown (host := "") (Or.inl (hw _ (List.mem_of_getElem? (i := 56) rfl))) Via.refl e2 F_ed_a (g := (mkF m 13 #[.val (.ref a), .val (.ref x1)] [(.ref a), (.ref x1), (.ref a)])) rfl rfl (hb hby d_jdk_38_25_13)
  refine OEnds.st (S' := T3.setTop (mkF m 16 #[.val (.ref a), .val (.ref x1)] [(.ref de), (.ref x1), (.ref a)])) st3 ?_
  refine OEnds.st (S' := T3.setTop (mkF m 17 #[.val (.ref a), .val (.ref x1)] [(.ref a), (.ref de), (.ref x1), (.ref a)])) (fun _ k => ?_) ?_
  · show Steps p.tables e below (T3.setTop (mkF m 16 #[.val (.ref a), .val (.ref x1)] [(.ref de), (.ref x1), (.ref a)])) _
    refine XS.aloadN X3.here hx rfl (hb hby d_jdk_38_25_16) rfl rfl ?_
    exact k
  obtain ⟨T4, X4, e4, st4⟩ := getF X3 hx hZ hown (host := "") (Or.inl (hw _ (List.mem_of_getElem? (i := 79) rfl))) Via.refl e3 F_sz_a (g := (mkF m 17 #[.val (.ref a), .val (.ref x1)] [(.ref a), (.ref de), (.ref x1), (.ref a)])) rfl rfl (hb hby d_jdk_38_25_17)
  refine OEnds.st (S' := T4.setTop (mkF m 20 #[.val (.ref a), .val (.ref x1)] [(.int (0 : Int32)), (.ref de), (.ref x1), (.ref a)])) st4 ?_
  obtain ⟨_, T5, h5, L5, X5, e5, hQ5, st5⟩ := privC X4 hx hZ (y := (⟨"java/util/ArrayList", "add", "(Ljava/lang/Object;[Ljava/lang/Object;I)V"⟩ : MethodName)) hown (hw _ (List.mem_of_getElem? (i := 81) rfl)) (hw _ (List.mem_of_getElem? (i := 82) rfl)) (hw _ (List.mem_of_getElem? (i := 84) rfl)) (hw _ (List.mem_of_getElem? (i := 83) rfl)) (hw _ (List.mem_of_getElem? (i := 85) rfl)) (by decide) (kc := 1) (ks := 10) (Con.sb (W := 0) (rm_help0 l hD a x1 de kde O0 E_a F_ed_a F_sz_a F_mc_a ge_a S_de V_de0 E_x1) hZ (hw _ (List.mem_of_getElem? (i := 85) rfl)) (hw _ (List.mem_of_getElem? (i := 36) rfl)) (by decide) (by decide)) e4 E_a (g := (mkF m 20 #[.val (.ref a), .val (.ref x1)] [(.int (0 : Int32)), (.ref de), (.ref x1), (.ref a)])) rfl (by rw [hml]; rfl) (argsL := [(.ref x1), (.ref de), (.int (0 : Int32))]) (rest := []) (lenOf pd_7 rfl) rfl (by show 2 * 0 + _ ≤ _; exact Nat.le_of_eq rfl) (hb hby d_jdk_38_25_20) (by decide) (by decide)
  obtain ⟨d5, k5, rfl, Nq5, Kq5, szd5, R5⟩ := hQ5
  refine OEnds.st (S' := T5.setTop (mkF m 23 #[.val (.ref a), .val (.ref x1)] [])) st5 ?_
  replace N0 := Fr.app N0 Nq5
  have ne_a_d5 : a ≠ d5 := Nat.ne_of_lt (Nat.lt_of_lt_of_le E_a.lt szd5)
  have ne_x1_d5 : x1 ≠ d5 := Nat.ne_of_lt (Nat.lt_of_lt_of_le E_x1.lt szd5)
  have ge_d5 : Z.heap.size ≤ d5 := Nat.le_trans O0.1 szd5
  have sz_d5 : h0.size ≤ d5 := Nat.le_trans K0.1 szd5
  replace E_a := E_a.keep Kq5
  replace E_x1 := E_x1.keep Kq5
  replace O0 : Ext Z.heap h5 := ext_keep O0 Kq5 (allS ge_a all0)
  replace K0 : Keep h0 h5 [a] := K0.trans Kq5 (allS (Or.inl (List.mem_of_getElem? (i := 0) rfl)) all0)
  refine OEnds.st (S' := T5.setTop (mkF m 24 #[.val (.ref a), .val (.ref x1)] [(.int (1 : Int32))])) (fun _ k => ?_) ?_
  · show Steps p.tables e below (T5.setTop (mkF m 23 #[.val (.ref a), .val (.ref x1)] [])) _
    refine XS.iconst X5.here hx rfl (hb hby d_jdk_38_25_23) ?_
    exact k
  exact OEnds.ret X5 hx hret hlk (by decide) (Or.inl ⟨rfl, by simp, _, rfl⟩) (hb hby d_jdk_38_25_24) (by decide) (by decide) (by rw [e5]; exact ⟨d5, k5, rfl, N0, K0, sz_d5, R5⟩)
-- java/util/ArrayList.add:(Ljava/lang/Object;[Ljava/lang/Object;I)V
def Q_help1 (Z : State) (a : Addr) (x2 : Addr) (d : Addr) (k : ClassId) (x1 : Addr) (h0 : Heap) (v : Option Value) (h : Heap) (L : List Loc) : Prop := v = none ∧ Fr Z.heap.size L ∧ Keep h0 h [a, d] ∧ Exa Z h a "java/util/ArrayList" ∧ Fld Z h a "java/util/ArrayList" "elementData" "[Ljava/lang/Object;" (.ref d) ∧ Fld Z h a "java/util/ArrayList" "size" "I" (.int (2 : Int32)) ∧ Fld Z h a "java/util/AbstractList" "modCount" "I" (.int (2 : Int32)) ∧ Exa Z h d "[Ljava/lang/Object;" ∧ Arv Z h d k (.object "java/lang/Object") (10 : Int32) [(.ref x1), (.ref x2), .null, .null, .null, .null, .null, .null, .null, .null] .null
theorem ef_help1 (m : MethodId) (a : Addr) (x2 : Addr) (d : Addr) : entryFrame m #[(.ref a), (.ref x2), (.ref d), (.int (1 : Int32))] 4 = mkF m 0 #[.val (.ref a), .val (.ref x2), .val (.ref d), .val (.int (1 : Int32))] [] := by first | (simp [entryFrame, mkF, argsToLocals, Value.category]; done) | rfl
set_option maxRecDepth 65536 in
set_option maxHeartbeats 40000000 in
theorem rm_help1 (l : Launch) {Z : State} {a0 : Array Value} (hD : Wd Z a0) (a : Addr) (x2 : Addr) (d : Addr) (k : ClassId) (x1 : Addr) {h0 : Heap} (O0 : Ext Z.heap h0) (E_a : Exa Z h0 a "java/util/ArrayList") (F_ed_a : Fld Z h0 a "java/util/ArrayList" "elementData" "[Ljava/lang/Object;" (.ref d)) (F_sz_a : Fld Z h0 a "java/util/ArrayList" "size" "I" (.int (1 : Int32))) (F_mc_a : Fld Z h0 a "java/util/AbstractList" "modCount" "I" (.int (2 : Int32))) (ge_a : Z.heap.size ≤ a) (E_d : Exa Z h0 d "[Ljava/lang/Object;") (V_d : Arv Z h0 d k (.object "java/lang/Object") (10 : Int32) [(.ref x1), .null, .null, .null, .null, .null, .null, .null, .null, .null] .null) (Ov_d : Ovr Z k "java/lang/Object") (ge_d : Z.heap.size ≤ d) (E_x2 : Exa Z h0 x2 "java/lang/String") :
    Con l Z (⟨"java/util/ArrayList", "add", "(Ljava/lang/Object;[Ljava/lang/Object;I)V"⟩ : MethodName) jdk_38_method_24_code 4 none [] ({ frames := 0, cells := 0, slots := 0, locals := 0 } : Room) #[(.ref a), (.ref x2), (.ref d), (.int (1 : Int32))] h0 (Q_help1 Z a x2 d k x1 h0) := by
  refine Con.walk (plainFor_of_name pn_8) ?_
  intro p e s m below meth c T0 X0 hx hZ hby hml hown hnm hret hlk e0
  obtain ⟨hw, ⟨cz, S_CS, hcz⟩, ⟨xde, xkde, S_DE, V_DE⟩, ⟨aEM, S_EM⟩, ⟨aEL, S_EL⟩, ⟨cO, kO, mrO, mir1, mir2, mir3⟩, ⟨k0, k1, k2, k3, k4, S_K0, S_K1, S_K2, S_K3, S_K4, kn0, kn2, kn3, kn4⟩⟩ := id hD
  have N0 := Fr.nil Z.heap.size
  have K0 : Keep h0 h0 [a, d] := Keep.refl _ _
  refine OEnds.cast (ef_help1 m a x2 d) ?_
  refine OEnds.st (S' := T0.setTop (mkF m 2 #[.val (.ref a), .val (.ref x2), .val (.ref d), .val (.int (1 : Int32))] [(.ref d), (.int (1 : Int32))])) (fun _ k => ?_) ?_
  · show Steps p.tables e below (T0.setTop (mkF m 0 #[.val (.ref a), .val (.ref x2), .val (.ref d), .val (.int (1 : Int32))] [])) _
    refine XS.iloadN X0.here hx rfl (hb hby d_jdk_38_24_0) rfl ?_
    show Steps p.tables e below (T0.setTop (mkF m 1 #[.val (.ref a), .val (.ref x2), .val (.ref d), .val (.int (1 : Int32))] [(.int (1 : Int32))])) _
    refine XS.aloadN X0.here hx rfl (hb hby d_jdk_38_24_1) rfl rfl ?_
    exact k
  obtain ⟨cl_d_1, Ar_d_1, q_d_1, S_d_1, N_d_1, H_d_1, G_d_1⟩ := id V_d
  refine OEnds.st (S' := T0.setTop (mkF m 3 #[.val (.ref a), .val (.ref x2), .val (.ref d), .val (.int (1 : Int32))] [(.int (10 : Int32)), (.int (1 : Int32))])) (fun tg kk => X0.arraylength hx (by rw [e0]; exact Ar_d_1.1) (State.isArrayOf_alike hZ.alike Ar_d_1.2.1) (g := (mkF m 2 #[.val (.ref a), .val (.ref x2), .val (.ref d), .val (.int (1 : Int32))] [(.ref d), (.int (1 : Int32))])) rfl rfl (hb hby d_jdk_38_24_2) tg (by rw [len_of S_d_1 N_d_1]; exact kk)) ?_
  refine OEnds.st (S' := T0.setTop (mkF m 14 #[.val (.ref a), .val (.ref x2), .val (.ref d), .val (.int (1 : Int32))] [(.ref x2), (.int (1 : Int32)), (.ref d)])) (fun _ k => ?_) ?_
  · show Steps p.tables e below (T0.setTop (mkF m 3 #[.val (.ref a), .val (.ref x2), .val (.ref d), .val (.int (1 : Int32))] [(.int (10 : Int32)), (.int (1 : Int32))])) _
    refine XS.icmpYes X0.here hx rfl (pc0 := 3) (pc' := 11) rfl (hb hby d_jdk_38_24_3) rfl (feq (by decide)).2 (by decide) (by decide) ?_
    show Steps p.tables e below (T0.setTop (mkF m 11 #[.val (.ref a), .val (.ref x2), .val (.ref d), .val (.int (1 : Int32))] [])) _
    refine XS.aloadN X0.here hx rfl (hb hby d_jdk_38_24_11) rfl rfl ?_
    show Steps p.tables e below (T0.setTop (mkF m 12 #[.val (.ref a), .val (.ref x2), .val (.ref d), .val (.int (1 : Int32))] [(.ref d)])) _
    refine XS.iloadN X0.here hx rfl (hb hby d_jdk_38_24_12) rfl ?_
    show Steps p.tables e below (T0.setTop (mkF m 13 #[.val (.ref a), .val (.ref x2), .val (.ref d), .val (.int (1 : Int32))] [(.int (1 : Int32)), (.ref d)])) _
    refine XS.aloadN X0.here hx rfl (hb hby d_jdk_38_24_13) rfl rfl ?_
    exact k
  have ne_a_d : a ≠ d := ne_exa E_a E_d (by decide)
  have ne_x2_d : x2 ≠ d := ne_exa E_x2 E_d (by decide)
  obtain ⟨cl_d_2, Ar_d_2, q_d_2, S_d_2, N_d_2, H_d_2, G_d_2⟩ := V_d
  obtain ⟨T2, h2, X2, e2, W2, st2⟩ := stR X0 hx hZ e0 Ar_d_2 (j := (1 : Int32)) (inb_of S_d_2 ⟨by decide, by decide⟩) rfl (Sto.ofV Ar_d_2 q_d_2 Ov_d (Ins.of_exa E_x2 (hw _ (List.mem_of_getElem? (i := 102) rfl)))) (g := (mkF m 14 #[.val (.ref a), .val (.ref x2), .val (.ref d), .val (.int (1 : Int32))] [(.ref x2), (.int (1 : Int32)), (.ref d)])) rfl rfl (hb hby d_jdk_38_24_14)
  have V_d_2 : Arv Z h2 d k (.object "java/lang/Object") (10 : Int32) [(.ref x1), (.ref x2), .null, .null, .null, .null, .null, .null, .null, .null] .null := Arv.set Ar_d_2 q_d_2 S_d_2 N_d_2 H_d_2 G_d_2 rfl W2 1 rfl (Nat.le_of_ble_eq_true rfl)
  refine OEnds.st (S' := T2.setTop (mkF m 15 #[.val (.ref a), .val (.ref x2), .val (.ref d), .val (.int (1 : Int32))] [])) st2 ?_
  replace E_a := E_a.wr W2
  replace F_ed_a := F_ed_a.other W2 (Or.inl ne_a_d)
  replace F_sz_a := F_sz_a.other W2 (Or.inl ne_a_d)
  replace F_mc_a := F_mc_a.other W2 (Or.inl ne_a_d)
  replace E_d := E_d.wr W2
  replace E_x2 := E_x2.wr W2
  replace O0 : Ext Z.heap h2 := ext_wr O0 W2 ge_d
  replace N0 := Fr.snoc X2 N0 ge_d
  replace K0 : Keep h0 h2 [a, d] := K0.wr W2 (Or.inl (List.mem_of_getElem? (i := 1) rfl))
  refine OEnds.st (S' := T2.setTop (mkF m 19 #[.val (.ref a), .val (.ref x2), .val (.ref d), .val (.int (1 : Int32))] [(.int (2 : Int32)), (.ref a)])) (fun _ k => ?_) ?_
  · show Steps p.tables e below (T2.setTop (mkF m 15 #[.val (.ref a), .val (.ref x2), .val (.ref d), .val (.int (1 : Int32))] [])) _
    refine XS.aloadN X2.here hx rfl (hb hby d_jdk_38_24_15) rfl rfl ?_
    show Steps p.tables e below (T2.setTop (mkF m 16 #[.val (.ref a), .val (.ref x2), .val (.ref d), .val (.int (1 : Int32))] [(.ref a)])) _
    refine XS.iloadN X2.here hx rfl (hb hby d_jdk_38_24_16) rfl ?_
    show Steps p.tables e below (T2.setTop (mkF m 17 #[.val (.ref a), .val (.ref x2), .val (.ref d), .val (.int (1 : Int32))] [(.int (1 : Int32)), (.ref a)])) _
    refine XS.iconst X2.here hx rfl (hb hby d_jdk_38_24_17) ?_
    show Steps p.tables e below (T2.setTop (mkF m 18 #[.val (.ref a), .val (.ref x2), .val (.ref d), .val (.int (1 : Int32))] [(.int (1 : Int32)), (.int (1 : Int32)), (.ref a)])) _
    refine XS.iadd X2.here hx rfl (hb hby d_jdk_38_24_18) rfl ?_
    exact k
  have ne_x2_a : x2 ≠ a := ne_exa E_x2 E_a (by decide)
  obtain ⟨T3, h3, X3, e3, W3, st3⟩ := putF X2 hx hZ hown (host := "") (Or.inl (hw _ (List.mem_of_getElem? (i := 79) rfl))) Via.refl e2 F_sz_a E_a (Or.inl (hw _ (List.mem_of_getElem? (i := 80) rfl))) (hw _ (List.mem_of_getElem? (i := 35) rfl)) (ty := .int) (by decide) rfl rfl (g := (mkF m 19 #[.val (.ref a), .val (.ref x2), .val (.ref d), .val (.int (1 : Int32))] [(.int (2 : Int32)), (.ref a)])) rfl rfl (hb hby d_jdk_38_24_19)
  refine OEnds.st (S' := T3.setTop (mkF m 22 #[.val (.ref a), .val (.ref x2), .val (.ref d), .val (.int (1 : Int32))] [])) st3 ?_
  replace E_a := E_a.wr W3
  replace F_ed_a := F_ed_a.other W3 (Or.inr (slot_ne (Or.inl (hw _ (List.mem_of_getElem? (i := 57) rfl))) (Or.inl (hw _ (List.mem_of_getElem? (i := 80) rfl))) (by decide) (t := (.array (.object "java/lang/Object"))) (t' := .int) (by decide) (by decide)))
  replace F_sz_a := F_sz_a.same W3
  replace F_mc_a := F_mc_a.other W3 (Or.inr (slot_ne (Or.inl (hw _ (List.mem_of_getElem? (i := 54) rfl))) (Or.inl (hw _ (List.mem_of_getElem? (i := 80) rfl))) (by decide) (t := .int) (t' := .int) (by decide) (by decide)))
  replace E_d := E_d.wr W3
  replace V_d_2 := V_d_2.other W3 (Ne.symm ne_a_d)
  replace E_x2 := E_x2.wr W3
  replace O0 : Ext Z.heap h3 := ext_wr O0 W3 ge_a
  replace N0 := Fr.snoc X3 N0 ge_a
  replace K0 : Keep h0 h3 [a, d] := K0.wr W3 (Or.inl (List.mem_of_getElem? (i := 0) rfl))
  exact OEnds.retV X3 hx hret hlk (hb hby d_jdk_38_24_22) (by decide) (by decide) (by rw [e3]; exact ⟨rfl, N0, K0, E_a, F_ed_a, F_sz_a, F_mc_a, E_d, V_d_2⟩)
-- java/util/ArrayList.add:(Ljava/lang/Object;)Z
def Q_add1 (Z : State) (a : Addr) (x2 : Addr) (d : Addr) (k : ClassId) (x1 : Addr) (h0 : Heap) (v : Option Value) (h : Heap) (L : List Loc) : Prop := v = some (.int 1) ∧ Fr Z.heap.size L ∧ Keep h0 h [a, d] ∧ Exa Z h a "java/util/ArrayList" ∧ Fld Z h a "java/util/ArrayList" "elementData" "[Ljava/lang/Object;" (.ref d) ∧ Fld Z h a "java/util/ArrayList" "size" "I" (.int (2 : Int32)) ∧ Fld Z h a "java/util/AbstractList" "modCount" "I" (.int (2 : Int32)) ∧ Exa Z h d "[Ljava/lang/Object;" ∧ Arv Z h d k (.object "java/lang/Object") (10 : Int32) [(.ref x1), (.ref x2), .null, .null, .null, .null, .null, .null, .null, .null] .null
theorem ef_add1 (m : MethodId) (a : Addr) (x2 : Addr) : entryFrame m #[(.ref a), (.ref x2)] 2 = mkF m 0 #[.val (.ref a), .val (.ref x2)] [] := by first | (simp [entryFrame, mkF, argsToLocals, Value.category]; done) | rfl
set_option maxRecDepth 65536 in
set_option maxHeartbeats 40000000 in
theorem rm_add1 (l : Launch) {Z : State} {a0 : Array Value} (hD : Wd Z a0) (a : Addr) (x2 : Addr) (d : Addr) (k : ClassId) (x1 : Addr) {h0 : Heap} (O0 : Ext Z.heap h0) (E_a : Exa Z h0 a "java/util/ArrayList") (F_ed_a : Fld Z h0 a "java/util/ArrayList" "elementData" "[Ljava/lang/Object;" (.ref d)) (F_sz_a : Fld Z h0 a "java/util/ArrayList" "size" "I" (.int (1 : Int32))) (F_mc_a : Fld Z h0 a "java/util/AbstractList" "modCount" "I" (.int (1 : Int32))) (ge_a : Z.heap.size ≤ a) (E_d : Exa Z h0 d "[Ljava/lang/Object;") (V_d : Arv Z h0 d k (.object "java/lang/Object") (10 : Int32) [(.ref x1), .null, .null, .null, .null, .null, .null, .null, .null, .null] .null) (Ov_d : Ovr Z k "java/lang/Object") (ge_d : Z.heap.size ≤ d) (E_x2 : Exa Z h0 x2 "java/lang/String") :
    Con l Z (⟨"java/util/ArrayList", "add", "(Ljava/lang/Object;)Z"⟩ : MethodName) jdk_38_method_25_code 2 (some .boolean) [] ({ frames := 1, cells := 0, slots := 0, locals := 15 } : Room) #[(.ref a), (.ref x2)] h0 (Q_add1 Z a x2 d k x1 h0) := by
  refine Con.walk (plainFor_of_name pn_8) ?_
  intro p e s m below meth c T0 X0 hx hZ hby hml hown hnm hret hlk e0
  obtain ⟨hw, ⟨cz, S_CS, hcz⟩, ⟨xde, xkde, S_DE, V_DE⟩, ⟨aEM, S_EM⟩, ⟨aEL, S_EL⟩, ⟨cO, kO, mrO, mir1, mir2, mir3⟩, ⟨k0, k1, k2, k3, k4, S_K0, S_K1, S_K2, S_K3, S_K4, kn0, kn2, kn3, kn4⟩⟩ := id hD
  have N0 := Fr.nil Z.heap.size
  have K0 : Keep h0 h0 [a, d] := Keep.refl _ _
  refine OEnds.cast (ef_add1 m a x2) ?_
  refine OEnds.st (S' := T0.setTop (mkF m 2 #[.val (.ref a), .val (.ref x2)] [(.ref a), (.ref a)])) (fun _ k => ?_) ?_
  · show Steps p.tables e below (T0.setTop (mkF m 0 #[.val (.ref a), .val (.ref x2)] [])) _
    refine XS.aloadN X0.here hx rfl (hb hby d_jdk_38_25_0) rfl rfl ?_
    show Steps p.tables e below (T0.setTop (mkF m 1 #[.val (.ref a), .val (.ref x2)] [(.ref a)])) _
    refine XS.dup X0.here hx rfl (hb hby d_jdk_38_25_1) rfl rfl ?_
    exact k
  obtain ⟨T1, X1, e1, st1⟩ := getF X0 hx hZ hown (host := "") (Or.inl (hw _ (List.mem_of_getElem? (i := 77) rfl))) (Via.of (hw _ (List.mem_of_getElem? (i := 78) rfl))) e0 F_mc_a (g := (mkF m 2 #[.val (.ref a), .val (.ref x2)] [(.ref a), (.ref a)])) rfl rfl (hb hby d_jdk_38_25_2)
  refine OEnds.st (S' := T1.setTop (mkF m 5 #[.val (.ref a), .val (.ref x2)] [(.int (1 : Int32)), (.ref a)])) st1 ?_
  refine OEnds.st (S' := T1.setTop (mkF m 7 #[.val (.ref a), .val (.ref x2)] [(.int (2 : Int32)), (.ref a)])) (fun _ k => ?_) ?_
  · show Steps p.tables e below (T1.setTop (mkF m 5 #[.val (.ref a), .val (.ref x2)] [(.int (1 : Int32)), (.ref a)])) _
    refine XS.iconst X1.here hx rfl (hb hby d_jdk_38_25_5) ?_
    show Steps p.tables e below (T1.setTop (mkF m 6 #[.val (.ref a), .val (.ref x2)] [(.int (1 : Int32)), (.int (1 : Int32)), (.ref a)])) _
    refine XS.iadd X1.here hx rfl (hb hby d_jdk_38_25_6) rfl ?_
    exact k
  have ne_d_a : d ≠ a := ne_exa E_d E_a (by decide)
  have ne_x2_a : x2 ≠ a := ne_exa E_x2 E_a (by decide)
  obtain ⟨T2, h2, X2, e2, W2, st2⟩ := putF X1 hx hZ hown (host := "") (Or.inl (hw _ (List.mem_of_getElem? (i := 77) rfl))) (Via.of (hw _ (List.mem_of_getElem? (i := 78) rfl))) e1 F_mc_a E_a (Or.inl (hw _ (List.mem_of_getElem? (i := 54) rfl))) (hw _ (List.mem_of_getElem? (i := 35) rfl)) (ty := .int) (by decide) rfl rfl (g := (mkF m 7 #[.val (.ref a), .val (.ref x2)] [(.int (2 : Int32)), (.ref a)])) rfl rfl (hb hby d_jdk_38_25_7)
  refine OEnds.st (S' := T2.setTop (mkF m 10 #[.val (.ref a), .val (.ref x2)] [])) st2 ?_
  replace E_a := E_a.wr W2
  replace F_ed_a := F_ed_a.other W2 (Or.inr (slot_ne (Or.inl (hw _ (List.mem_of_getElem? (i := 57) rfl))) (Or.inl (hw _ (List.mem_of_getElem? (i := 54) rfl))) (by decide) (t := (.array (.object "java/lang/Object"))) (t' := .int) (by decide) (by decide)))
  replace F_sz_a := F_sz_a.other W2 (Or.inr (slot_ne (Or.inl (hw _ (List.mem_of_getElem? (i := 80) rfl))) (Or.inl (hw _ (List.mem_of_getElem? (i := 54) rfl))) (by decide) (t := .int) (t' := .int) (by decide) (by decide)))
  replace F_mc_a := F_mc_a.same W2
  replace E_d := E_d.wr W2
  replace V_d := V_d.other W2 ne_d_a
  replace E_x2 := E_x2.wr W2
  replace O0 : Ext Z.heap h2 := ext_wr O0 W2 ge_a
  replace N0 := Fr.snoc X2 N0 ge_a
  replace K0 : Keep h0 h2 [a, d] := K0.wr W2 (Or.inl (List.mem_of_getElem? (i := 0) rfl))
  refine OEnds.st (S' := T2.setTop (mkF m 13 #[.val (.ref a), .val (.ref x2)] [(.ref a), (.ref x2), (.ref a)])) (fun _ k => ?_) ?_
  · show Steps p.tables e below (T2.setTop (mkF m 10 #[.val (.ref a), .val (.ref x2)] [])) _
    refine XS.aloadN X2.here hx rfl (hb hby d_jdk_38_25_10) rfl rfl ?_
    show Steps p.tables e below (T2.setTop (mkF m 11 #[.val (.ref a), .val (.ref x2)] [(.ref a)])) _
    refine XS.aloadN X2.here hx rfl (hb hby d_jdk_38_25_11) rfl rfl ?_
    show Steps p.tables e below (T2.setTop (mkF m 12 #[.val (.ref a), .val (.ref x2)] [(.ref x2), (.ref a)])) _
    refine XS.aloadN X2.here hx rfl (hb hby d_jdk_38_25_12) rfl rfl ?_
    exact k
  obtain ⟨T3, X3, e3, st3⟩ := getF X2 hx hZ hown (host := "") (Or.inl (hw _ (List.mem_of_getElem? (i := 56) rfl))) Via.refl e2 F_ed_a (g := (mkF m 13 #[.val (.ref a), .val (.ref x2)] [(.ref a), (.ref x2), (.ref a)])) rfl rfl (hb hby d_jdk_38_25_13)
  refine OEnds.st (S' := T3.setTop (mkF m 16 #[.val (.ref a), .val (.ref x2)] [(.ref d), (.ref x2), (.ref a)])) st3 ?_
  refine OEnds.st (S' := T3.setTop (mkF m 17 #[.val (.ref a), .val (.ref x2)] [(.ref a), (.ref d), (.ref x2), (.ref a)])) (fun _ k => ?_) ?_
  · show Steps p.tables e below (T3.setTop (mkF m 16 #[.val (.ref a), .val (.ref x2)] [(.ref d), (.ref x2), (.ref a)])) _
    refine XS.aloadN X3.here hx rfl (hb hby d_jdk_38_25_16) rfl rfl ?_
    exact k
  obtain ⟨T4, X4, e4, st4⟩ := getF X3 hx hZ hown (host := "") (Or.inl (hw _ (List.mem_of_getElem? (i := 79) rfl))) Via.refl e3 F_sz_a (g := (mkF m 17 #[.val (.ref a), .val (.ref x2)] [(.ref a), (.ref d), (.ref x2), (.ref a)])) rfl rfl (hb hby d_jdk_38_25_17)
  refine OEnds.st (S' := T4.setTop (mkF m 20 #[.val (.ref a), .val (.ref x2)] [(.int (1 : Int32)), (.ref d), (.ref x2), (.ref a)])) st4 ?_
  obtain ⟨_, T5, h5, L5, X5, e5, hQ5, st5⟩ := privC X4 hx hZ (y := (⟨"java/util/ArrayList", "add", "(Ljava/lang/Object;[Ljava/lang/Object;I)V"⟩ : MethodName)) hown (hw _ (List.mem_of_getElem? (i := 81) rfl)) (hw _ (List.mem_of_getElem? (i := 82) rfl)) (hw _ (List.mem_of_getElem? (i := 84) rfl)) (hw _ (List.mem_of_getElem? (i := 83) rfl)) (hw _ (List.mem_of_getElem? (i := 85) rfl)) (by decide) (kc := 0) (ks := 0) (Con.sb (W := 0) (rm_help1 l hD a x2 d k x1 O0 E_a F_ed_a F_sz_a F_mc_a ge_a E_d V_d Ov_d ge_d E_x2) hZ (hw _ (List.mem_of_getElem? (i := 85) rfl)) (hw _ (List.mem_of_getElem? (i := 36) rfl)) (by decide) (by decide)) e4 E_a (g := (mkF m 20 #[.val (.ref a), .val (.ref x2)] [(.int (1 : Int32)), (.ref d), (.ref x2), (.ref a)])) rfl (by rw [hml]; rfl) (argsL := [(.ref x2), (.ref d), (.int (1 : Int32))]) (rest := []) (lenOf pd_7 rfl) rfl (by show 2 * 0 + _ ≤ _; exact Nat.le_of_eq rfl) (hb hby d_jdk_38_25_20) (by decide) (by decide)
  obtain ⟨rfl, Nq5, Kq5, R5⟩ := hQ5
  refine OEnds.st (S' := T5.setTop (mkF m 23 #[.val (.ref a), .val (.ref x2)] [])) st5 ?_
  replace N0 := Fr.app N0 Nq5
  have ne_x2_d : x2 ≠ d := ne_exa E_x2 E_d (by decide)
  replace E_a := E_a.keep Kq5
  replace E_d := E_d.keep Kq5
  replace E_x2 := E_x2.keep Kq5
  replace O0 : Ext Z.heap h5 := ext_keep O0 Kq5 (allS ge_a (allS ge_d all0))
  replace K0 : Keep h0 h5 [a, d] := K0.trans Kq5 (allS (Or.inl (List.mem_of_getElem? (i := 0) rfl)) (allS (Or.inl (List.mem_of_getElem? (i := 1) rfl)) all0))
  refine OEnds.st (S' := T5.setTop (mkF m 24 #[.val (.ref a), .val (.ref x2)] [(.int (1 : Int32))])) (fun _ k => ?_) ?_
  · show Steps p.tables e below (T5.setTop (mkF m 23 #[.val (.ref a), .val (.ref x2)] [])) _
    refine XS.iconst X5.here hx rfl (hb hby d_jdk_38_25_23) ?_
    exact k
  exact OEnds.ret X5 hx hret hlk (by decide) (Or.inl ⟨rfl, by simp, _, rfl⟩) (hb hby d_jdk_38_25_24) (by decide) (by decide) (by rw [e5]; exact ⟨rfl, N0, K0, R5⟩)
-- java/util/ArrayList.add:(Ljava/lang/Object;[Ljava/lang/Object;I)V
def Q_help2 (Z : State) (a : Addr) (x3 : Addr) (d : Addr) (k : ClassId) (x1 : Addr) (x2 : Addr) (h0 : Heap) (v : Option Value) (h : Heap) (L : List Loc) : Prop := v = none ∧ Fr Z.heap.size L ∧ Keep h0 h [a, d] ∧ Exa Z h a "java/util/ArrayList" ∧ Fld Z h a "java/util/ArrayList" "elementData" "[Ljava/lang/Object;" (.ref d) ∧ Fld Z h a "java/util/ArrayList" "size" "I" (.int (3 : Int32)) ∧ Fld Z h a "java/util/AbstractList" "modCount" "I" (.int (3 : Int32)) ∧ Exa Z h d "[Ljava/lang/Object;" ∧ Arv Z h d k (.object "java/lang/Object") (10 : Int32) [(.ref x1), (.ref x2), (.ref x3), .null, .null, .null, .null, .null, .null, .null] .null
theorem ef_help2 (m : MethodId) (a : Addr) (x3 : Addr) (d : Addr) : entryFrame m #[(.ref a), (.ref x3), (.ref d), (.int (2 : Int32))] 4 = mkF m 0 #[.val (.ref a), .val (.ref x3), .val (.ref d), .val (.int (2 : Int32))] [] := by first | (simp [entryFrame, mkF, argsToLocals, Value.category]; done) | rfl
set_option maxRecDepth 65536 in
set_option maxHeartbeats 40000000 in
theorem rm_help2 (l : Launch) {Z : State} {a0 : Array Value} (hD : Wd Z a0) (a : Addr) (x3 : Addr) (d : Addr) (k : ClassId) (x1 : Addr) (x2 : Addr) {h0 : Heap} (O0 : Ext Z.heap h0) (E_a : Exa Z h0 a "java/util/ArrayList") (F_ed_a : Fld Z h0 a "java/util/ArrayList" "elementData" "[Ljava/lang/Object;" (.ref d)) (F_sz_a : Fld Z h0 a "java/util/ArrayList" "size" "I" (.int (2 : Int32))) (F_mc_a : Fld Z h0 a "java/util/AbstractList" "modCount" "I" (.int (3 : Int32))) (ge_a : Z.heap.size ≤ a) (E_d : Exa Z h0 d "[Ljava/lang/Object;") (V_d : Arv Z h0 d k (.object "java/lang/Object") (10 : Int32) [(.ref x1), (.ref x2), .null, .null, .null, .null, .null, .null, .null, .null] .null) (Ov_d : Ovr Z k "java/lang/Object") (ge_d : Z.heap.size ≤ d) (E_x3 : Exa Z h0 x3 "java/lang/String") :
    Con l Z (⟨"java/util/ArrayList", "add", "(Ljava/lang/Object;[Ljava/lang/Object;I)V"⟩ : MethodName) jdk_38_method_24_code 4 none [] ({ frames := 0, cells := 0, slots := 0, locals := 0 } : Room) #[(.ref a), (.ref x3), (.ref d), (.int (2 : Int32))] h0 (Q_help2 Z a x3 d k x1 x2 h0) := by
  refine Con.walk (plainFor_of_name pn_8) ?_
  intro p e s m below meth c T0 X0 hx hZ hby hml hown hnm hret hlk e0
  obtain ⟨hw, ⟨cz, S_CS, hcz⟩, ⟨xde, xkde, S_DE, V_DE⟩, ⟨aEM, S_EM⟩, ⟨aEL, S_EL⟩, ⟨cO, kO, mrO, mir1, mir2, mir3⟩, ⟨k0, k1, k2, k3, k4, S_K0, S_K1, S_K2, S_K3, S_K4, kn0, kn2, kn3, kn4⟩⟩ := id hD
  have N0 := Fr.nil Z.heap.size
  have K0 : Keep h0 h0 [a, d] := Keep.refl _ _
  refine OEnds.cast (ef_help2 m a x3 d) ?_
  refine OEnds.st (S' := T0.setTop (mkF m 2 #[.val (.ref a), .val (.ref x3), .val (.ref d), .val (.int (2 : Int32))] [(.ref d), (.int (2 : Int32))])) (fun _ k => ?_) ?_
  · show Steps p.tables e below (T0.setTop (mkF m 0 #[.val (.ref a), .val (.ref x3), .val (.ref d), .val (.int (2 : Int32))] [])) _
    refine XS.iloadN X0.here hx rfl (hb hby d_jdk_38_24_0) rfl ?_
    show Steps p.tables e below (T0.setTop (mkF m 1 #[.val (.ref a), .val (.ref x3), .val (.ref d), .val (.int (2 : Int32))] [(.int (2 : Int32))])) _
    refine XS.aloadN X0.here hx rfl (hb hby d_jdk_38_24_1) rfl rfl ?_
    exact k
  obtain ⟨cl_d_1, Ar_d_1, q_d_1, S_d_1, N_d_1, H_d_1, G_d_1⟩ := id V_d
  refine OEnds.st (S' := T0.setTop (mkF m 3 #[.val (.ref a), .val (.ref x3), .val (.ref d), .val (.int (2 : Int32))] [(.int (10 : Int32)), (.int (2 : Int32))])) (fun tg kk => X0.arraylength hx (by rw [e0]; exact Ar_d_1.1) (State.isArrayOf_alike hZ.alike Ar_d_1.2.1) (g := (mkF m 2 #[.val (.ref a), .val (.ref x3), .val (.ref d), .val (.int (2 : Int32))] [(.ref d), (.int (2 : Int32))])) rfl rfl (hb hby d_jdk_38_24_2) tg (by rw [len_of S_d_1 N_d_1]; exact kk)) ?_
  refine OEnds.st (S' := T0.setTop (mkF m 14 #[.val (.ref a), .val (.ref x3), .val (.ref d), .val (.int (2 : Int32))] [(.ref x3), (.int (2 : Int32)), (.ref d)])) (fun _ k => ?_) ?_
  · show Steps p.tables e below (T0.setTop (mkF m 3 #[.val (.ref a), .val (.ref x3), .val (.ref d), .val (.int (2 : Int32))] [(.int (10 : Int32)), (.int (2 : Int32))])) _
    refine XS.icmpYes X0.here hx rfl (pc0 := 3) (pc' := 11) rfl (hb hby d_jdk_38_24_3) rfl (feq (by decide)).2 (by decide) (by decide) ?_
    show Steps p.tables e below (T0.setTop (mkF m 11 #[.val (.ref a), .val (.ref x3), .val (.ref d), .val (.int (2 : Int32))] [])) _
    refine XS.aloadN X0.here hx rfl (hb hby d_jdk_38_24_11) rfl rfl ?_
    show Steps p.tables e below (T0.setTop (mkF m 12 #[.val (.ref a), .val (.ref x3), .val (.ref d), .val (.int (2 : Int32))] [(.ref d)])) _
    refine XS.iloadN X0.here hx rfl (hb hby d_jdk_38_24_12) rfl ?_
    show Steps p.tables e below (T0.setTop (mkF m 13 #[.val (.ref a), .val (.ref x3), .val (.ref d), .val (.int (2 : Int32))] [(.int (2 : Int32)), (.ref d)])) _
    refine XS.aloadN X0.here hx rfl (hb hby d_jdk_38_24_13) rfl rfl ?_
    exact k
  have ne_a_d : a ≠ d := ne_exa E_a E_d (by decide)
  have ne_x3_d : x3 ≠ d := ne_exa E_x3 E_d (by decide)
  obtain ⟨cl_d_2, Ar_d_2, q_d_2, S_d_2, N_d_2, H_d_2, G_d_2⟩ := V_d
  obtain ⟨T2, h2, X2, e2, W2, st2⟩ := stR X0 hx hZ e0 Ar_d_2 (j := (2 : Int32)) (inb_of S_d_2 ⟨by decide, by decide⟩) rfl (Sto.ofV Ar_d_2 q_d_2 Ov_d (Ins.of_exa E_x3 (hw _ (List.mem_of_getElem? (i := 102) rfl)))) (g := (mkF m 14 #[.val (.ref a), .val (.ref x3), .val (.ref d), .val (.int (2 : Int32))] [(.ref x3), (.int (2 : Int32)), (.ref d)])) rfl rfl (hb hby d_jdk_38_24_14)
  have V_d_2 : Arv Z h2 d k (.object "java/lang/Object") (10 : Int32) [(.ref x1), (.ref x2), (.ref x3), .null, .null, .null, .null, .null, .null, .null] .null := Arv.set Ar_d_2 q_d_2 S_d_2 N_d_2 H_d_2 G_d_2 rfl W2 2 rfl (Nat.le_of_ble_eq_true rfl)
  refine OEnds.st (S' := T2.setTop (mkF m 15 #[.val (.ref a), .val (.ref x3), .val (.ref d), .val (.int (2 : Int32))] [])) st2 ?_
  replace E_a := E_a.wr W2
  replace F_ed_a := F_ed_a.other W2 (Or.inl ne_a_d)
  replace F_sz_a := F_sz_a.other W2 (Or.inl ne_a_d)
  replace F_mc_a := F_mc_a.other W2 (Or.inl ne_a_d)
  replace E_d := E_d.wr W2
  replace E_x3 := E_x3.wr W2
  replace O0 : Ext Z.heap h2 := ext_wr O0 W2 ge_d
  replace N0 := Fr.snoc X2 N0 ge_d
  replace K0 : Keep h0 h2 [a, d] := K0.wr W2 (Or.inl (List.mem_of_getElem? (i := 1) rfl))
  refine OEnds.st (S' := T2.setTop (mkF m 19 #[.val (.ref a), .val (.ref x3), .val (.ref d), .val (.int (2 : Int32))] [(.int (3 : Int32)), (.ref a)])) (fun _ k => ?_) ?_
  · show Steps p.tables e below (T2.setTop (mkF m 15 #[.val (.ref a), .val (.ref x3), .val (.ref d), .val (.int (2 : Int32))] [])) _
    refine XS.aloadN X2.here hx rfl (hb hby d_jdk_38_24_15) rfl rfl ?_
    show Steps p.tables e below (T2.setTop (mkF m 16 #[.val (.ref a), .val (.ref x3), .val (.ref d), .val (.int (2 : Int32))] [(.ref a)])) _
    refine XS.iloadN X2.here hx rfl (hb hby d_jdk_38_24_16) rfl ?_
    show Steps p.tables e below (T2.setTop (mkF m 17 #[.val (.ref a), .val (.ref x3), .val (.ref d), .val (.int (2 : Int32))] [(.int (2 : Int32)), (.ref a)])) _
    refine XS.iconst X2.here hx rfl (hb hby d_jdk_38_24_17) ?_
    show Steps p.tables e below (T2.setTop (mkF m 18 #[.val (.ref a), .val (.ref x3), .val (.ref d), .val (.int (2 : Int32))] [(.int (1 : Int32)), (.int (2 : Int32)), (.ref a)])) _
    refine XS.iadd X2.here hx rfl (hb hby d_jdk_38_24_18) rfl ?_
    exact k
  have ne_x3_a : x3 ≠ a := ne_exa E_x3 E_a (by decide)
  obtain ⟨T3, h3, X3, e3, W3, st3⟩ := putF X2 hx hZ hown (host := "") (Or.inl (hw _ (List.mem_of_getElem? (i := 79) rfl))) Via.refl e2 F_sz_a E_a (Or.inl (hw _ (List.mem_of_getElem? (i := 80) rfl))) (hw _ (List.mem_of_getElem? (i := 35) rfl)) (ty := .int) (by decide) rfl rfl (g := (mkF m 19 #[.val (.ref a), .val (.ref x3), .val (.ref d), .val (.int (2 : Int32))] [(.int (3 : Int32)), (.ref a)])) rfl rfl (hb hby d_jdk_38_24_19)
  refine OEnds.st (S' := T3.setTop (mkF m 22 #[.val (.ref a), .val (.ref x3), .val (.ref d), .val (.int (2 : Int32))] [])) st3 ?_
  replace E_a := E_a.wr W3
  replace F_ed_a := F_ed_a.other W3 (Or.inr (slot_ne (Or.inl (hw _ (List.mem_of_getElem? (i := 57) rfl))) (Or.inl (hw _ (List.mem_of_getElem? (i := 80) rfl))) (by decide) (t := (.array (.object "java/lang/Object"))) (t' := .int) (by decide) (by decide)))
  replace F_sz_a := F_sz_a.same W3
  replace F_mc_a := F_mc_a.other W3 (Or.inr (slot_ne (Or.inl (hw _ (List.mem_of_getElem? (i := 54) rfl))) (Or.inl (hw _ (List.mem_of_getElem? (i := 80) rfl))) (by decide) (t := .int) (t' := .int) (by decide) (by decide)))
  replace E_d := E_d.wr W3
  replace V_d_2 := V_d_2.other W3 (Ne.symm ne_a_d)
  replace E_x3 := E_x3.wr W3
  replace O0 : Ext Z.heap h3 := ext_wr O0 W3 ge_a
  replace N0 := Fr.snoc X3 N0 ge_a
  replace K0 : Keep h0 h3 [a, d] := K0.wr W3 (Or.inl (List.mem_of_getElem? (i := 0) rfl))
  exact OEnds.retV X3 hx hret hlk (hb hby d_jdk_38_24_22) (by decide) (by decide) (by rw [e3]; exact ⟨rfl, N0, K0, E_a, F_ed_a, F_sz_a, F_mc_a, E_d, V_d_2⟩)
-- java/util/ArrayList.add:(Ljava/lang/Object;)Z
def Q_add2 (Z : State) (a : Addr) (x3 : Addr) (d : Addr) (k : ClassId) (x1 : Addr) (x2 : Addr) (h0 : Heap) (v : Option Value) (h : Heap) (L : List Loc) : Prop := v = some (.int 1) ∧ Fr Z.heap.size L ∧ Keep h0 h [a, d] ∧ Exa Z h a "java/util/ArrayList" ∧ Fld Z h a "java/util/ArrayList" "elementData" "[Ljava/lang/Object;" (.ref d) ∧ Fld Z h a "java/util/ArrayList" "size" "I" (.int (3 : Int32)) ∧ Fld Z h a "java/util/AbstractList" "modCount" "I" (.int (3 : Int32)) ∧ Exa Z h d "[Ljava/lang/Object;" ∧ Arv Z h d k (.object "java/lang/Object") (10 : Int32) [(.ref x1), (.ref x2), (.ref x3), .null, .null, .null, .null, .null, .null, .null] .null
theorem ef_add2 (m : MethodId) (a : Addr) (x3 : Addr) : entryFrame m #[(.ref a), (.ref x3)] 2 = mkF m 0 #[.val (.ref a), .val (.ref x3)] [] := by first | (simp [entryFrame, mkF, argsToLocals, Value.category]; done) | rfl
set_option maxRecDepth 65536 in
set_option maxHeartbeats 40000000 in
theorem rm_add2 (l : Launch) {Z : State} {a0 : Array Value} (hD : Wd Z a0) (a : Addr) (x3 : Addr) (d : Addr) (k : ClassId) (x1 : Addr) (x2 : Addr) {h0 : Heap} (O0 : Ext Z.heap h0) (E_a : Exa Z h0 a "java/util/ArrayList") (F_ed_a : Fld Z h0 a "java/util/ArrayList" "elementData" "[Ljava/lang/Object;" (.ref d)) (F_sz_a : Fld Z h0 a "java/util/ArrayList" "size" "I" (.int (2 : Int32))) (F_mc_a : Fld Z h0 a "java/util/AbstractList" "modCount" "I" (.int (2 : Int32))) (ge_a : Z.heap.size ≤ a) (E_d : Exa Z h0 d "[Ljava/lang/Object;") (V_d : Arv Z h0 d k (.object "java/lang/Object") (10 : Int32) [(.ref x1), (.ref x2), .null, .null, .null, .null, .null, .null, .null, .null] .null) (Ov_d : Ovr Z k "java/lang/Object") (ge_d : Z.heap.size ≤ d) (E_x3 : Exa Z h0 x3 "java/lang/String") :
    Con l Z (⟨"java/util/ArrayList", "add", "(Ljava/lang/Object;)Z"⟩ : MethodName) jdk_38_method_25_code 2 (some .boolean) [] ({ frames := 1, cells := 0, slots := 0, locals := 15 } : Room) #[(.ref a), (.ref x3)] h0 (Q_add2 Z a x3 d k x1 x2 h0) := by
  refine Con.walk (plainFor_of_name pn_8) ?_
  intro p e s m below meth c T0 X0 hx hZ hby hml hown hnm hret hlk e0
  obtain ⟨hw, ⟨cz, S_CS, hcz⟩, ⟨xde, xkde, S_DE, V_DE⟩, ⟨aEM, S_EM⟩, ⟨aEL, S_EL⟩, ⟨cO, kO, mrO, mir1, mir2, mir3⟩, ⟨k0, k1, k2, k3, k4, S_K0, S_K1, S_K2, S_K3, S_K4, kn0, kn2, kn3, kn4⟩⟩ := id hD
  have N0 := Fr.nil Z.heap.size
  have K0 : Keep h0 h0 [a, d] := Keep.refl _ _
  refine OEnds.cast (ef_add2 m a x3) ?_
  refine OEnds.st (S' := T0.setTop (mkF m 2 #[.val (.ref a), .val (.ref x3)] [(.ref a), (.ref a)])) (fun _ k => ?_) ?_
  · show Steps p.tables e below (T0.setTop (mkF m 0 #[.val (.ref a), .val (.ref x3)] [])) _
    refine XS.aloadN X0.here hx rfl (hb hby d_jdk_38_25_0) rfl rfl ?_
    show Steps p.tables e below (T0.setTop (mkF m 1 #[.val (.ref a), .val (.ref x3)] [(.ref a)])) _
    refine XS.dup X0.here hx rfl (hb hby d_jdk_38_25_1) rfl rfl ?_
    exact k
  obtain ⟨T1, X1, e1, st1⟩ := getF X0 hx hZ hown (host := "") (Or.inl (hw _ (List.mem_of_getElem? (i := 77) rfl))) (Via.of (hw _ (List.mem_of_getElem? (i := 78) rfl))) e0 F_mc_a (g := (mkF m 2 #[.val (.ref a), .val (.ref x3)] [(.ref a), (.ref a)])) rfl rfl (hb hby d_jdk_38_25_2)
  refine OEnds.st (S' := T1.setTop (mkF m 5 #[.val (.ref a), .val (.ref x3)] [(.int (2 : Int32)), (.ref a)])) st1 ?_
  refine OEnds.st (S' := T1.setTop (mkF m 7 #[.val (.ref a), .val (.ref x3)] [(.int (3 : Int32)), (.ref a)])) (fun _ k => ?_) ?_
  · show Steps p.tables e below (T1.setTop (mkF m 5 #[.val (.ref a), .val (.ref x3)] [(.int (2 : Int32)), (.ref a)])) _
    refine XS.iconst X1.here hx rfl (hb hby d_jdk_38_25_5) ?_
    show Steps p.tables e below (T1.setTop (mkF m 6 #[.val (.ref a), .val (.ref x3)] [(.int (1 : Int32)), (.int (2 : Int32)), (.ref a)])) _
    refine XS.iadd X1.here hx rfl (hb hby d_jdk_38_25_6) rfl ?_
    exact k
  have ne_d_a : d ≠ a := ne_exa E_d E_a (by decide)
  have ne_x3_a : x3 ≠ a := ne_exa E_x3 E_a (by decide)
  obtain ⟨T2, h2, X2, e2, W2, st2⟩ := putF X1 hx hZ hown (host := "") (Or.inl (hw _ (List.mem_of_getElem? (i := 77) rfl))) (Via.of (hw _ (List.mem_of_getElem? (i := 78) rfl))) e1 F_mc_a E_a (Or.inl (hw _ (List.mem_of_getElem? (i := 54) rfl))) (hw _ (List.mem_of_getElem? (i := 35) rfl)) (ty := .int) (by decide) rfl rfl (g := (mkF m 7 #[.val (.ref a), .val (.ref x3)] [(.int (3 : Int32)), (.ref a)])) rfl rfl (hb hby d_jdk_38_25_7)
  refine OEnds.st (S' := T2.setTop (mkF m 10 #[.val (.ref a), .val (.ref x3)] [])) st2 ?_
  replace E_a := E_a.wr W2
  replace F_ed_a := F_ed_a.other W2 (Or.inr (slot_ne (Or.inl (hw _ (List.mem_of_getElem? (i := 57) rfl))) (Or.inl (hw _ (List.mem_of_getElem? (i := 54) rfl))) (by decide) (t := (.array (.object "java/lang/Object"))) (t' := .int) (by decide) (by decide)))
  replace F_sz_a := F_sz_a.other W2 (Or.inr (slot_ne (Or.inl (hw _ (List.mem_of_getElem? (i := 80) rfl))) (Or.inl (hw _ (List.mem_of_getElem? (i := 54) rfl))) (by decide) (t := .int) (t' := .int) (by decide) (by decide)))
  replace F_mc_a := F_mc_a.same W2
  replace E_d := E_d.wr W2
  replace V_d := V_d.other W2 ne_d_a
  replace E_x3 := E_x3.wr W2
  replace O0 : Ext Z.heap h2 := ext_wr O0 W2 ge_a
  replace N0 := Fr.snoc X2 N0 ge_a
  replace K0 : Keep h0 h2 [a, d] := K0.wr W2 (Or.inl (List.mem_of_getElem? (i := 0) rfl))
  refine OEnds.st (S' := T2.setTop (mkF m 13 #[.val (.ref a), .val (.ref x3)] [(.ref a), (.ref x3), (.ref a)])) (fun _ k => ?_) ?_
  · show Steps p.tables e below (T2.setTop (mkF m 10 #[.val (.ref a), .val (.ref x3)] [])) _
    refine XS.aloadN X2.here hx rfl (hb hby d_jdk_38_25_10) rfl rfl ?_
    show Steps p.tables e below (T2.setTop (mkF m 11 #[.val (.ref a), .val (.ref x3)] [(.ref a)])) _
    refine XS.aloadN X2.here hx rfl (hb hby d_jdk_38_25_11) rfl rfl ?_
    show Steps p.tables e below (T2.setTop (mkF m 12 #[.val (.ref a), .val (.ref x3)] [(.ref x3), (.ref a)])) _
    refine XS.aloadN X2.here hx rfl (hb hby d_jdk_38_25_12) rfl rfl ?_
    exact k
  obtain ⟨T3, X3, e3, st3⟩ := getF X2 hx hZ hown (host := "") (Or.inl (hw _ (List.mem_of_getElem? (i := 56) rfl))) Via.refl e2 F_ed_a (g := (mkF m 13 #[.val (.ref a), .val (.ref x3)] [(.ref a), (.ref x3), (.ref a)])) rfl rfl (hb hby d_jdk_38_25_13)
  refine OEnds.st (S' := T3.setTop (mkF m 16 #[.val (.ref a), .val (.ref x3)] [(.ref d), (.ref x3), (.ref a)])) st3 ?_
  refine OEnds.st (S' := T3.setTop (mkF m 17 #[.val (.ref a), .val (.ref x3)] [(.ref a), (.ref d), (.ref x3), (.ref a)])) (fun _ k => ?_) ?_
  · show Steps p.tables e below (T3.setTop (mkF m 16 #[.val (.ref a), .val (.ref x3)] [(.ref d), (.ref x3), (.ref a)])) _
    refine XS.aloadN X3.here hx rfl (hb hby d_jdk_38_25_16) rfl rfl ?_
    exact k
  obtain ⟨T4, X4, e4, st4⟩ := getF X3 hx hZ hown (host := "") (Or.inl (hw _ (List.mem_of_getElem? (i := 79) rfl))) Via.refl e3 F_sz_a (g := (mkF m 17 #[.val (.ref a), .val (.ref x3)] [(.ref a), (.ref d), (.ref x3), (.ref a)])) rfl rfl (hb hby d_jdk_38_25_17)
  refine OEnds.st (S' := T4.setTop (mkF m 20 #[.val (.ref a), .val (.ref x3)] [(.int (2 : Int32)), (.ref d), (.ref x3), (.ref a)])) st4 ?_
  obtain ⟨_, T5, h5, L5, X5, e5, hQ5, st5⟩ := privC X4 hx hZ (y := (⟨"java/util/ArrayList", "add", "(Ljava/lang/Object;[Ljava/lang/Object;I)V"⟩ : MethodName)) hown (hw _ (List.mem_of_getElem? (i := 81) rfl)) (hw _ (List.mem_of_getElem? (i := 82) rfl)) (hw _ (List.mem_of_getElem? (i := 84) rfl)) (hw _ (List.mem_of_getElem? (i := 83) rfl)) (hw _ (List.mem_of_getElem? (i := 85) rfl)) (by decide) (kc := 0) (ks := 0) (Con.sb (W := 0) (rm_help2 l hD a x3 d k x1 x2 O0 E_a F_ed_a F_sz_a F_mc_a ge_a E_d V_d Ov_d ge_d E_x3) hZ (hw _ (List.mem_of_getElem? (i := 85) rfl)) (hw _ (List.mem_of_getElem? (i := 36) rfl)) (by decide) (by decide)) e4 E_a (g := (mkF m 20 #[.val (.ref a), .val (.ref x3)] [(.int (2 : Int32)), (.ref d), (.ref x3), (.ref a)])) rfl (by rw [hml]; rfl) (argsL := [(.ref x3), (.ref d), (.int (2 : Int32))]) (rest := []) (lenOf pd_7 rfl) rfl (by show 2 * 0 + _ ≤ _; exact Nat.le_of_eq rfl) (hb hby d_jdk_38_25_20) (by decide) (by decide)
  obtain ⟨rfl, Nq5, Kq5, R5⟩ := hQ5
  refine OEnds.st (S' := T5.setTop (mkF m 23 #[.val (.ref a), .val (.ref x3)] [])) st5 ?_
  replace N0 := Fr.app N0 Nq5
  have ne_x3_d : x3 ≠ d := ne_exa E_x3 E_d (by decide)
  replace E_a := E_a.keep Kq5
  replace E_d := E_d.keep Kq5
  replace E_x3 := E_x3.keep Kq5
  replace O0 : Ext Z.heap h5 := ext_keep O0 Kq5 (allS ge_a (allS ge_d all0))
  replace K0 : Keep h0 h5 [a, d] := K0.trans Kq5 (allS (Or.inl (List.mem_of_getElem? (i := 0) rfl)) (allS (Or.inl (List.mem_of_getElem? (i := 1) rfl)) all0))
  refine OEnds.st (S' := T5.setTop (mkF m 24 #[.val (.ref a), .val (.ref x3)] [(.int (1 : Int32))])) (fun _ k => ?_) ?_
  · show Steps p.tables e below (T5.setTop (mkF m 23 #[.val (.ref a), .val (.ref x3)] [])) _
    refine XS.iconst X5.here hx rfl (hb hby d_jdk_38_25_23) ?_
    exact k
  exact OEnds.ret X5 hx hret hlk (by decide) (Or.inl ⟨rfl, by simp, _, rfl⟩) (hb hby d_jdk_38_25_24) (by decide) (by decide) (by rw [e5]; exact ⟨rfl, N0, K0, R5⟩)
-- java/lang/Math.min:(II)I
def Q_mathMin (Z : State) (x0 : Int32) (y0 : Int32) (h0 : Heap) (v : Option Value) (h : Heap) (L : List Loc) : Prop := v = some (.int y0) ∧ Fr Z.heap.size L ∧ h = h0
theorem ef_mathMin (m : MethodId) (x0 : Int32) (y0 : Int32) : entryFrame m #[(.int x0), (.int y0)] 2 = mkF m 0 #[.val (.int x0), .val (.int y0)] [] := by first | (simp [entryFrame, mkF, argsToLocals, Value.category]; done) | rfl
theorem d_jdk_29_69_0 : decode jdk_29_method_69_code 0 = .ok (.iload_n 0, 1) := by decide +kernel
theorem d_jdk_29_69_1 : decode jdk_29_method_69_code 1 = .ok (.iload_n 1, 1) := by decide +kernel
theorem d_jdk_29_69_2 : decode jdk_29_method_69_code 2 = .ok (.if_icmp .gt 7, 3) := by decide +kernel
theorem d_jdk_29_69_9 : decode jdk_29_method_69_code 9 = .ok (.iload_n 1, 1) := by decide +kernel
theorem d_jdk_29_69_10 : decode jdk_29_method_69_code 10 = .ok (.ireturn, 1) := by decide +kernel
set_option maxRecDepth 65536 in
set_option maxHeartbeats 40000000 in
theorem rm_mathMin (l : Launch) {Z : State} {a0 : Array Value} (hD : Wd Z a0) (x0 : Int32) (y0 : Int32) {h0 : Heap} (O0 : Ext Z.heap h0) (hlt : y0 < x0) :
    Con l Z (⟨"java/lang/Math", "min", "(II)I"⟩ : MethodName) jdk_29_method_69_code 2 (some .int) [] ({ frames := 0, cells := 0, slots := 0, locals := 0 } : Room) #[(.int x0), (.int y0)] h0 (Q_mathMin Z x0 y0 h0) := by
  refine Con.walk (Jvm.Free.JP.mathPlain rfl (by decide +kernel)) ?_
  intro p e s m below meth c T0 X0 hx hZ hby hml hown hnm hret hlk e0
  obtain ⟨hw, ⟨cz, S_CS, hcz⟩, ⟨xde, xkde, S_DE, V_DE⟩, ⟨aEM, S_EM⟩, ⟨aEL, S_EL⟩, ⟨cO, kO, mrO, mir1, mir2, mir3⟩, ⟨k0, k1, k2, k3, k4, S_K0, S_K1, S_K2, S_K3, S_K4, kn0, kn2, kn3, kn4⟩⟩ := id hD
  have N0 := Fr.nil Z.heap.size
  refine OEnds.cast (ef_mathMin m x0 y0) ?_
  refine OEnds.st (S' := T0.setTop (mkF m 10 #[.val (.int x0), .val (.int y0)] [(.int y0)])) (fun _ k => ?_) ?_
  · show Steps p.tables e below (T0.setTop (mkF m 0 #[.val (.int x0), .val (.int y0)] [])) _
    refine XS.iloadN X0.here hx rfl (hb hby d_jdk_29_69_0) rfl ?_
    show Steps p.tables e below (T0.setTop (mkF m 1 #[.val (.int x0), .val (.int y0)] [(.int x0)])) _
    refine XS.iloadN X0.here hx rfl (hb hby d_jdk_29_69_1) rfl ?_
    show Steps p.tables e below (T0.setTop (mkF m 2 #[.val (.int x0), .val (.int y0)] [(.int y0), (.int x0)])) _
    refine XS.icmpYes X0.here hx rfl (pc0 := 2) (pc' := 9) rfl (hb hby d_jdk_29_69_2) rfl (tlt hlt).2.2.1 (by decide) (by decide) ?_
    show Steps p.tables e below (T0.setTop (mkF m 9 #[.val (.int x0), .val (.int y0)] [])) _
    refine XS.iloadN X0.here hx rfl (hb hby d_jdk_29_69_9) rfl ?_
    exact k
  exact OEnds.ret X0 hx hret hlk rfl (Or.inl ⟨rfl, by simp, _, rfl⟩) (hb hby d_jdk_29_69_10) (by decide) (by decide) (by rw [e0]; exact ⟨rfl, N0, rfl⟩)
-- java/util/ImmutableCollections$List12.<init>:(Ljava/lang/Object;)V
def Q_l12a (Z : State) (a : Addr) (x1 : Addr) (h0 : Heap) (v : Option Value) (h : Heap) (L : List Loc) : Prop := v = none ∧ Fr Z.heap.size L ∧ Keep h0 h [a]
theorem ef_l12a (m : MethodId) (a : Addr) (x1 : Addr) : entryFrame m #[(.ref a), (.ref x1)] 2 = mkF m 0 #[.val (.ref a), .val (.ref x1)] [] := by first | (simp [entryFrame, mkF, argsToLocals, Value.category]; done) | rfl
theorem pn_9 : plainName "java/util/ImmutableCollections$List12" = true := by first | (simp [plainName, overriddenIn]; done) | decide +kernel
theorem d_jdk_44_1_0 : decode jdk_44_method_1_code 0 = .ok (.aload_n 0, 1) := by decide +kernel
theorem d_jdk_44_1_1 : decode jdk_44_method_1_code 1 = .ok (.invokespecial 1, 3) := by decide +kernel
theorem d_jdk_44_1_4 : decode jdk_44_method_1_code 4 = .ok (.aload_n 0, 1) := by decide +kernel
theorem d_jdk_44_1_5 : decode jdk_44_method_1_code 5 = .ok (.aload_n 1, 1) := by decide +kernel
theorem d_jdk_44_1_6 : decode jdk_44_method_1_code 6 = .ok (.invokestatic 7, 3) := by decide +kernel
theorem pd_8 : parseMethodDescriptor "(Ljava/lang/Object;)Ljava/lang/Object;" = some ⟨[(.object "java/lang/Object")], some (.object "java/lang/Object")⟩ := by decide +kernel
theorem d_jdk_44_1_9 : decode jdk_44_method_1_code 9 = .ok (.putfield 13, 3) := by decide +kernel
theorem d_jdk_44_1_12 : decode jdk_44_method_1_code 12 = .ok (.aload_n 0, 1) := by decide +kernel
theorem d_jdk_44_1_13 : decode jdk_44_method_1_code 13 = .ok (.getstatic 19, 3) := by decide +kernel
theorem d_jdk_44_1_16 : decode jdk_44_method_1_code 16 = .ok (.putfield 24, 3) := by decide +kernel
theorem d_jdk_44_1_19 : decode jdk_44_method_1_code 19 = .ok (.return_, 1) := by decide +kernel
set_option maxRecDepth 65536 in
set_option maxHeartbeats 40000000 in
theorem rm_l12a (l : Launch) {Z : State} {a0 : Array Value} (hD : Wd Z a0) (a : Addr) (x1 : Addr) {h0 : Heap} (O0 : Ext Z.heap h0) (E_a : Exa Z h0 a "java/util/ImmutableCollections$List12") (F_e0_a : Fld Z h0 a "java/util/ImmutableCollections$List12" "e0" "Ljava/lang/Object;" .null) (F_e1_a : Fld Z h0 a "java/util/ImmutableCollections$List12" "e1" "Ljava/lang/Object;" .null) (ge_a : Z.heap.size ≤ a) :
    Con l Z (⟨"java/util/ImmutableCollections$List12", "<init>", "(Ljava/lang/Object;)V"⟩ : MethodName) jdk_44_method_1_code 2 none [] ({ frames := 4, cells := 0, slots := 0, locals := 48 } : Room) #[(.ref a), (.ref x1)] h0 (Q_l12a Z a x1 h0) := by
  refine Con.walk (plainFor_of_name pn_9) ?_
  intro p e s m below meth c T0 X0 hx hZ hby hml hown hnm hret hlk e0
  obtain ⟨hw, ⟨cz, S_CS, hcz⟩, ⟨xde, xkde, S_DE, V_DE⟩, ⟨aEM, S_EM⟩, ⟨aEL, S_EL⟩, ⟨cO, kO, mrO, mir1, mir2, mir3⟩, ⟨k0, k1, k2, k3, k4, S_K0, S_K1, S_K2, S_K3, S_K4, kn0, kn2, kn3, kn4⟩⟩ := id hD
  have N0 := Fr.nil Z.heap.size
  have K0 : Keep h0 h0 [a] := Keep.refl _ _
  refine OEnds.cast (ef_l12a m a x1) ?_
  refine OEnds.st (S' := T0.setTop (mkF m 1 #[.val (.ref a), .val (.ref x1)] [(.ref a)])) (fun _ k => ?_) ?_
  · show Steps p.tables e below (T0.setTop (mkF m 0 #[.val (.ref a), .val (.ref x1)] [])) _
    refine XS.aloadN X0.here hx rfl (hb hby d_jdk_44_1_0) rfl rfl ?_
    exact k
  obtain ⟨_, T1, h1, L1, X1, e1, hQ1, st1⟩ := specC X0 hx hZ rfl hown (hw _ (List.mem_of_getElem? (i := 178) rfl)) (hw _ (List.mem_of_getElem? (i := 179) rfl)) (hw _ (List.mem_of_getElem? (i := 183) rfl)) (by decide) (kc := 0) (ks := 0) (Con.sb (W := 0) (rm_ailInit l hD a O0) hZ (hw _ (List.mem_of_getElem? (i := 183) rfl)) (hw _ (List.mem_of_getElem? (i := 182) rfl)) (by decide) (by decide)) e0 (a := a) (g := (mkF m 1 #[.val (.ref a), .val (.ref x1)] [(.ref a)])) rfl (by rw [hml]; rfl) (argsL := []) (rest := []) (lenOf pd_3 rfl) rfl (by show 2 * 0 + _ ≤ _; exact Nat.le_of_eq rfl) (hb hby d_jdk_44_1_1) (by decide) (by decide)
  obtain ⟨rfl, Nq1, Hq1⟩ := hQ1
  refine OEnds.st (S' := T1.setTop (mkF m 4 #[.val (.ref a), .val (.ref x1)] [])) st1 ?_
  replace N0 := Fr.app N0 Nq1
  replace e1 := e1.trans Hq1
  refine OEnds.st (S' := T1.setTop (mkF m 6 #[.val (.ref a), .val (.ref x1)] [(.ref x1), (.ref a)])) (fun _ k => ?_) ?_
  · show Steps p.tables e below (T1.setTop (mkF m 4 #[.val (.ref a), .val (.ref x1)] [])) _
    refine XS.aloadN X1.here hx rfl (hb hby d_jdk_44_1_4) rfl rfl ?_
    show Steps p.tables e below (T1.setTop (mkF m 5 #[.val (.ref a), .val (.ref x1)] [(.ref a)])) _
    refine XS.aloadN X1.here hx rfl (hb hby d_jdk_44_1_5) rfl rfl ?_
    exact k
  obtain ⟨_, T2, h2, L2, X2, e2, hQ2, st2⟩ := callC X1 hx hZ hown (hw _ (List.mem_of_getElem? (i := 192) rfl)) (hw _ (List.mem_of_getElem? (i := 193) rfl)) (hw _ (List.mem_of_getElem? (i := 194) rfl)) (hw _ (List.mem_of_getElem? (i := 195) rfl)) (by decide) (kc := 0) (ks := 0) (Con.sb (W := 1) (rm_reqNonNull l hD x1 O0) hZ (hw _ (List.mem_of_getElem? (i := 195) rfl)) (hw _ (List.mem_of_getElem? (i := 194) rfl)) (by decide) (by decide)) e1 (g := (mkF m 6 #[.val (.ref a), .val (.ref x1)] [(.ref x1), (.ref a)])) rfl (by rw [hml]; rfl) (argsL := [(.ref x1)]) (rest := [(.ref a)]) (lenOf pd_8 rfl) rfl (by show 2 * 0 + _ ≤ _; exact Nat.le_of_eq rfl) (hb hby d_jdk_44_1_6) (by decide) (by decide)
  obtain ⟨rfl, Nq2, Hq2⟩ := hQ2
  refine OEnds.st (S' := T2.setTop (mkF m 9 #[.val (.ref a), .val (.ref x1)] [(.ref x1), (.ref a)])) st2 ?_
  replace N0 := Fr.app N0 Nq2
  replace e2 := e2.trans Hq2
  obtain ⟨T3, h3, X3, e3, W3, st3⟩ := putF X2 hx hZ hown (host := "") (Or.inl (hw _ (List.mem_of_getElem? (i := 196) rfl))) Via.refl e2 F_e0_a E_a (Or.inr ⟨(hw _ (List.mem_of_getElem? (i := 197) rfl)), rfl, hnm⟩) (hw _ (List.mem_of_getElem? (i := 172) rfl)) (ty := (.object "java/lang/Object")) (by decide) rfl rfl (g := (mkF m 9 #[.val (.ref a), .val (.ref x1)] [(.ref x1), (.ref a)])) rfl rfl (hb hby d_jdk_44_1_9)
  refine OEnds.st (S' := T3.setTop (mkF m 12 #[.val (.ref a), .val (.ref x1)] [])) st3 ?_
  replace E_a := E_a.wr W3
  replace F_e0_a := F_e0_a.same W3
  replace F_e1_a := F_e1_a.other W3 (Or.inr (slot_ne (Or.inr (hw _ (List.mem_of_getElem? (i := 199) rfl))) (Or.inr (hw _ (List.mem_of_getElem? (i := 197) rfl))) (by decide) (t := (.object "java/lang/Object")) (t' := (.object "java/lang/Object")) (by decide) (by decide)))
  replace O0 : Ext Z.heap h3 := ext_wr O0 W3 ge_a
  replace N0 := Fr.snoc X3 N0 ge_a
  replace K0 : Keep h0 h3 [a] := K0.wr W3 (Or.inl (List.mem_of_getElem? (i := 0) rfl))
  refine OEnds.st (S' := T3.setTop (mkF m 13 #[.val (.ref a), .val (.ref x1)] [(.ref a)])) (fun _ k => ?_) ?_
  · show Steps p.tables e below (T3.setTop (mkF m 12 #[.val (.ref a), .val (.ref x1)] [])) _
    refine XS.aloadN X3.here hx rfl (hb hby d_jdk_44_1_12) rfl rfl ?_
    exact k
  obtain ⟨T4, X4, e4, st4⟩ := getS2 X3 hx hZ hown (Or.inr (hw _ (List.mem_of_getElem? (i := 238) rfl))) Via.refl e3 (S_EM.ext O0) (g := (mkF m 13 #[.val (.ref a), .val (.ref x1)] [(.ref a)])) rfl (hb hby d_jdk_44_1_13)
  refine OEnds.st (S' := T4.setTop (mkF m 16 #[.val (.ref a), .val (.ref x1)] [(.ref aEM), (.ref a)])) st4 ?_
  obtain ⟨T5, h5, X5, e5, W5, st5⟩ := putF X4 hx hZ hown (host := "") (Or.inl (hw _ (List.mem_of_getElem? (i := 198) rfl))) Via.refl e4 F_e1_a E_a (Or.inr ⟨(hw _ (List.mem_of_getElem? (i := 199) rfl)), rfl, hnm⟩) (hw _ (List.mem_of_getElem? (i := 172) rfl)) (ty := (.object "java/lang/Object")) (by decide) rfl rfl (g := (mkF m 16 #[.val (.ref a), .val (.ref x1)] [(.ref aEM), (.ref a)])) rfl rfl (hb hby d_jdk_44_1_16)
  refine OEnds.st (S' := T5.setTop (mkF m 19 #[.val (.ref a), .val (.ref x1)] [])) st5 ?_
  replace E_a := E_a.wr W5
  replace F_e0_a := F_e0_a.other W5 (Or.inr (slot_ne (Or.inr (hw _ (List.mem_of_getElem? (i := 197) rfl))) (Or.inr (hw _ (List.mem_of_getElem? (i := 199) rfl))) (by decide) (t := (.object "java/lang/Object")) (t' := (.object "java/lang/Object")) (by decide) (by decide)))
  replace F_e1_a := F_e1_a.same W5
  replace O0 : Ext Z.heap h5 := ext_wr O0 W5 ge_a
  replace N0 := Fr.snoc X5 N0 ge_a
  replace K0 : Keep h0 h5 [a] := K0.wr W5 (Or.inl (List.mem_of_getElem? (i := 0) rfl))
  exact OEnds.retV X5 hx hret hlk (hb hby d_jdk_44_1_19) (by decide) (by decide) (by rw [e5]; exact ⟨rfl, N0, K0⟩)
-- java/util/ImmutableCollections$List12.<init>:(Ljava/lang/Object;Ljava/lang/Object;)V
def Q_l12b (Z : State) (a : Addr) (x1 : Addr) (x2 : Addr) (h0 : Heap) (v : Option Value) (h : Heap) (L : List Loc) : Prop := v = none ∧ Fr Z.heap.size L ∧ Keep h0 h [a]
theorem ef_l12b (m : MethodId) (a : Addr) (x1 : Addr) (x2 : Addr) : entryFrame m #[(.ref a), (.ref x1), (.ref x2)] 3 = mkF m 0 #[.val (.ref a), .val (.ref x1), .val (.ref x2)] [] := by first | (simp [entryFrame, mkF, argsToLocals, Value.category]; done) | rfl
theorem d_jdk_44_2_0 : decode jdk_44_method_2_code 0 = .ok (.aload_n 0, 1) := by decide +kernel
theorem d_jdk_44_2_1 : decode jdk_44_method_2_code 1 = .ok (.invokespecial 1, 3) := by decide +kernel
theorem d_jdk_44_2_4 : decode jdk_44_method_2_code 4 = .ok (.aload_n 0, 1) := by decide +kernel
theorem d_jdk_44_2_5 : decode jdk_44_method_2_code 5 = .ok (.aload_n 1, 1) := by decide +kernel
theorem d_jdk_44_2_6 : decode jdk_44_method_2_code 6 = .ok (.invokestatic 7, 3) := by decide +kernel
theorem d_jdk_44_2_9 : decode jdk_44_method_2_code 9 = .ok (.putfield 13, 3) := by decide +kernel
theorem d_jdk_44_2_12 : decode jdk_44_method_2_code 12 = .ok (.aload_n 0, 1) := by decide +kernel
theorem d_jdk_44_2_13 : decode jdk_44_method_2_code 13 = .ok (.aload_n 2, 1) := by decide +kernel
theorem d_jdk_44_2_14 : decode jdk_44_method_2_code 14 = .ok (.invokestatic 7, 3) := by decide +kernel
theorem d_jdk_44_2_17 : decode jdk_44_method_2_code 17 = .ok (.putfield 24, 3) := by decide +kernel
theorem d_jdk_44_2_20 : decode jdk_44_method_2_code 20 = .ok (.return_, 1) := by decide +kernel
set_option maxRecDepth 65536 in
set_option maxHeartbeats 40000000 in
theorem rm_l12b (l : Launch) {Z : State} {a0 : Array Value} (hD : Wd Z a0) (a : Addr) (x1 : Addr) (x2 : Addr) {h0 : Heap} (O0 : Ext Z.heap h0) (E_a : Exa Z h0 a "java/util/ImmutableCollections$List12") (F_e0_a : Fld Z h0 a "java/util/ImmutableCollections$List12" "e0" "Ljava/lang/Object;" .null) (F_e1_a : Fld Z h0 a "java/util/ImmutableCollections$List12" "e1" "Ljava/lang/Object;" .null) (ge_a : Z.heap.size ≤ a) :
    Con l Z (⟨"java/util/ImmutableCollections$List12", "<init>", "(Ljava/lang/Object;Ljava/lang/Object;)V"⟩ : MethodName) jdk_44_method_2_code 3 none [] ({ frames := 4, cells := 0, slots := 0, locals := 48 } : Room) #[(.ref a), (.ref x1), (.ref x2)] h0 (Q_l12b Z a x1 x2 h0) := by
  refine Con.walk (plainFor_of_name pn_9) ?_
  intro p e s m below meth c T0 X0 hx hZ hby hml hown hnm hret hlk e0
  obtain ⟨hw, ⟨cz, S_CS, hcz⟩, ⟨xde, xkde, S_DE, V_DE⟩, ⟨aEM, S_EM⟩, ⟨aEL, S_EL⟩, ⟨cO, kO, mrO, mir1, mir2, mir3⟩, ⟨k0, k1, k2, k3, k4, S_K0, S_K1, S_K2, S_K3, S_K4, kn0, kn2, kn3, kn4⟩⟩ := id hD
  have N0 := Fr.nil Z.heap.size
  have K0 : Keep h0 h0 [a] := Keep.refl _ _
  refine OEnds.cast (ef_l12b m a x1 x2) ?_
  refine OEnds.st (S' := T0.setTop (mkF m 1 #[.val (.ref a), .val (.ref x1), .val (.ref x2)] [(.ref a)])) (fun _ k => ?_) ?_
  · show Steps p.tables e below (T0.setTop (mkF m 0 #[.val (.ref a), .val (.ref x1), .val (.ref x2)] [])) _
    refine XS.aloadN X0.here hx rfl (hb hby d_jdk_44_2_0) rfl rfl ?_
    exact k
  obtain ⟨_, T1, h1, L1, X1, e1, hQ1, st1⟩ := specC X0 hx hZ rfl hown (hw _ (List.mem_of_getElem? (i := 178) rfl)) (hw _ (List.mem_of_getElem? (i := 179) rfl)) (hw _ (List.mem_of_getElem? (i := 183) rfl)) (by decide) (kc := 0) (ks := 0) (Con.sb (W := 0) (rm_ailInit l hD a O0) hZ (hw _ (List.mem_of_getElem? (i := 183) rfl)) (hw _ (List.mem_of_getElem? (i := 182) rfl)) (by decide) (by decide)) e0 (a := a) (g := (mkF m 1 #[.val (.ref a), .val (.ref x1), .val (.ref x2)] [(.ref a)])) rfl (by rw [hml]; rfl) (argsL := []) (rest := []) (lenOf pd_3 rfl) rfl (by show 2 * 0 + _ ≤ _; exact Nat.le_of_eq rfl) (hb hby d_jdk_44_2_1) (by decide) (by decide)
  obtain ⟨rfl, Nq1, Hq1⟩ := hQ1
  refine OEnds.st (S' := T1.setTop (mkF m 4 #[.val (.ref a), .val (.ref x1), .val (.ref x2)] [])) st1 ?_
  replace N0 := Fr.app N0 Nq1
  replace e1 := e1.trans Hq1
  refine OEnds.st (S' := T1.setTop (mkF m 6 #[.val (.ref a), .val (.ref x1), .val (.ref x2)] [(.ref x1), (.ref a)])) (fun _ k => ?_) ?_
  · show Steps p.tables e below (T1.setTop (mkF m 4 #[.val (.ref a), .val (.ref x1), .val (.ref x2)] [])) _
    refine XS.aloadN X1.here hx rfl (hb hby d_jdk_44_2_4) rfl rfl ?_
    show Steps p.tables e below (T1.setTop (mkF m 5 #[.val (.ref a), .val (.ref x1), .val (.ref x2)] [(.ref a)])) _
    refine XS.aloadN X1.here hx rfl (hb hby d_jdk_44_2_5) rfl rfl ?_
    exact k
  obtain ⟨_, T2, h2, L2, X2, e2, hQ2, st2⟩ := callC X1 hx hZ hown (hw _ (List.mem_of_getElem? (i := 192) rfl)) (hw _ (List.mem_of_getElem? (i := 193) rfl)) (hw _ (List.mem_of_getElem? (i := 194) rfl)) (hw _ (List.mem_of_getElem? (i := 195) rfl)) (by decide) (kc := 0) (ks := 0) (Con.sb (W := 1) (rm_reqNonNull l hD x1 O0) hZ (hw _ (List.mem_of_getElem? (i := 195) rfl)) (hw _ (List.mem_of_getElem? (i := 194) rfl)) (by decide) (by decide)) e1 (g := (mkF m 6 #[.val (.ref a), .val (.ref x1), .val (.ref x2)] [(.ref x1), (.ref a)])) rfl (by rw [hml]; rfl) (argsL := [(.ref x1)]) (rest := [(.ref a)]) (lenOf pd_8 rfl) rfl (by show 2 * 0 + _ ≤ _; exact Nat.le_of_eq rfl) (hb hby d_jdk_44_2_6) (by decide) (by decide)
  obtain ⟨rfl, Nq2, Hq2⟩ := hQ2
  refine OEnds.st (S' := T2.setTop (mkF m 9 #[.val (.ref a), .val (.ref x1), .val (.ref x2)] [(.ref x1), (.ref a)])) st2 ?_
  replace N0 := Fr.app N0 Nq2
  replace e2 := e2.trans Hq2
  obtain ⟨T3, h3, X3, e3, W3, st3⟩ := putF X2 hx hZ hown (host := "") (Or.inl (hw _ (List.mem_of_getElem? (i := 196) rfl))) Via.refl e2 F_e0_a E_a (Or.inr ⟨(hw _ (List.mem_of_getElem? (i := 197) rfl)), rfl, hnm⟩) (hw _ (List.mem_of_getElem? (i := 172) rfl)) (ty := (.object "java/lang/Object")) (by decide) rfl rfl (g := (mkF m 9 #[.val (.ref a), .val (.ref x1), .val (.ref x2)] [(.ref x1), (.ref a)])) rfl rfl (hb hby d_jdk_44_2_9)
  refine OEnds.st (S' := T3.setTop (mkF m 12 #[.val (.ref a), .val (.ref x1), .val (.ref x2)] [])) st3 ?_
  replace E_a := E_a.wr W3
  replace F_e0_a := F_e0_a.same W3
  replace F_e1_a := F_e1_a.other W3 (Or.inr (slot_ne (Or.inr (hw _ (List.mem_of_getElem? (i := 199) rfl))) (Or.inr (hw _ (List.mem_of_getElem? (i := 197) rfl))) (by decide) (t := (.object "java/lang/Object")) (t' := (.object "java/lang/Object")) (by decide) (by decide)))
  replace O0 : Ext Z.heap h3 := ext_wr O0 W3 ge_a
  replace N0 := Fr.snoc X3 N0 ge_a
  replace K0 : Keep h0 h3 [a] := K0.wr W3 (Or.inl (List.mem_of_getElem? (i := 0) rfl))
  refine OEnds.st (S' := T3.setTop (mkF m 14 #[.val (.ref a), .val (.ref x1), .val (.ref x2)] [(.ref x2), (.ref a)])) (fun _ k => ?_) ?_
  · show Steps p.tables e below (T3.setTop (mkF m 12 #[.val (.ref a), .val (.ref x1), .val (.ref x2)] [])) _
    refine XS.aloadN X3.here hx rfl (hb hby d_jdk_44_2_12) rfl rfl ?_
    show Steps p.tables e below (T3.setTop (mkF m 13 #[.val (.ref a), .val (.ref x1), .val (.ref x2)] [(.ref a)])) _
    refine XS.aloadN X3.here hx rfl (hb hby d_jdk_44_2_13) rfl rfl ?_
    exact k
  obtain ⟨_, T4, h4, L4, X4, e4, hQ4, st4⟩ := callC X3 hx hZ hown (hw _ (List.mem_of_getElem? (i := 192) rfl)) (hw _ (List.mem_of_getElem? (i := 193) rfl)) (hw _ (List.mem_of_getElem? (i := 194) rfl)) (hw _ (List.mem_of_getElem? (i := 195) rfl)) (by decide) (kc := 0) (ks := 0) (Con.sb (W := 1) (rm_reqNonNull l hD x2 O0) hZ (hw _ (List.mem_of_getElem? (i := 195) rfl)) (hw _ (List.mem_of_getElem? (i := 194) rfl)) (by decide) (by decide)) e3 (g := (mkF m 14 #[.val (.ref a), .val (.ref x1), .val (.ref x2)] [(.ref x2), (.ref a)])) rfl (by rw [hml]; rfl) (argsL := [(.ref x2)]) (rest := [(.ref a)]) (lenOf pd_8 rfl) rfl (by show 2 * 0 + _ ≤ _; exact Nat.le_of_eq rfl) (hb hby d_jdk_44_2_14) (by decide) (by decide)
  obtain ⟨rfl, Nq4, Hq4⟩ := hQ4
  refine OEnds.st (S' := T4.setTop (mkF m 17 #[.val (.ref a), .val (.ref x1), .val (.ref x2)] [(.ref x2), (.ref a)])) st4 ?_
  replace N0 := Fr.app N0 Nq4
  replace e4 := e4.trans Hq4
  obtain ⟨T5, h5, X5, e5, W5, st5⟩ := putF X4 hx hZ hown (host := "") (Or.inl (hw _ (List.mem_of_getElem? (i := 198) rfl))) Via.refl e4 F_e1_a E_a (Or.inr ⟨(hw _ (List.mem_of_getElem? (i := 199) rfl)), rfl, hnm⟩) (hw _ (List.mem_of_getElem? (i := 172) rfl)) (ty := (.object "java/lang/Object")) (by decide) rfl rfl (g := (mkF m 17 #[.val (.ref a), .val (.ref x1), .val (.ref x2)] [(.ref x2), (.ref a)])) rfl rfl (hb hby d_jdk_44_2_17)
  refine OEnds.st (S' := T5.setTop (mkF m 20 #[.val (.ref a), .val (.ref x1), .val (.ref x2)] [])) st5 ?_
  replace E_a := E_a.wr W5
  replace F_e0_a := F_e0_a.other W5 (Or.inr (slot_ne (Or.inr (hw _ (List.mem_of_getElem? (i := 197) rfl))) (Or.inr (hw _ (List.mem_of_getElem? (i := 199) rfl))) (by decide) (t := (.object "java/lang/Object")) (t' := (.object "java/lang/Object")) (by decide) (by decide)))
  replace F_e1_a := F_e1_a.same W5
  replace O0 : Ext Z.heap h5 := ext_wr O0 W5 ge_a
  replace N0 := Fr.snoc X5 N0 ge_a
  replace K0 : Keep h0 h5 [a] := K0.wr W5 (Or.inl (List.mem_of_getElem? (i := 0) rfl))
  exact OEnds.retV X5 hx hret hlk (hb hby d_jdk_44_2_20) (by decide) (by decide) (by rw [e5]; exact ⟨rfl, N0, K0⟩)
-- java/util/ImmutableCollections$ListN.<init>:([Ljava/lang/Object;Z)V
def Q_lnInit (Z : State) (a : Addr) (t : Addr) (h0 : Heap) (v : Option Value) (h : Heap) (L : List Loc) : Prop := v = none ∧ Fr Z.heap.size L ∧ Keep h0 h [a]
theorem ef_lnInit (m : MethodId) (a : Addr) (t : Addr) : entryFrame m #[(.ref a), (.ref t), (.int (0 : Int32))] 3 = mkF m 0 #[.val (.ref a), .val (.ref t), .val (.int (0 : Int32))] [] := by first | (simp [entryFrame, mkF, argsToLocals, Value.category]; done) | rfl
theorem pn_10 : plainName "java/util/ImmutableCollections$ListN" = true := by first | (simp [plainName, overriddenIn]; done) | decide +kernel
theorem d_jdk_45_1_0 : decode jdk_45_method_1_code 0 = .ok (.aload_n 0, 1) := by decide +kernel
theorem d_jdk_45_1_1 : decode jdk_45_method_1_code 1 = .ok (.invokespecial 1, 3) := by decide +kernel
theorem d_jdk_45_1_4 : decode jdk_45_method_1_code 4 = .ok (.aload_n 0, 1) := by decide +kernel
theorem d_jdk_45_1_5 : decode jdk_45_method_1_code 5 = .ok (.aload_n 1, 1) := by decide +kernel
theorem d_jdk_45_1_6 : decode jdk_45_method_1_code 6 = .ok (.putfield 7, 3) := by decide +kernel
theorem d_jdk_45_1_9 : decode jdk_45_method_1_code 9 = .ok (.aload_n 0, 1) := by decide +kernel
theorem d_jdk_45_1_10 : decode jdk_45_method_1_code 10 = .ok (.iload_n 2, 1) := by decide +kernel
theorem d_jdk_45_1_11 : decode jdk_45_method_1_code 11 = .ok (.putfield 13, 3) := by decide +kernel
theorem d_jdk_45_1_14 : decode jdk_45_method_1_code 14 = .ok (.return_, 1) := by decide +kernel
set_option maxRecDepth 65536 in
set_option maxHeartbeats 40000000 in
theorem rm_lnInit (l : Launch) {Z : State} {a0 : Array Value} (hD : Wd Z a0) (a : Addr) (t : Addr) {h0 : Heap} (O0 : Ext Z.heap h0) (E_a : Exa Z h0 a "java/util/ImmutableCollections$ListN") (F_el_a : Fld Z h0 a "java/util/ImmutableCollections$ListN" "elements" "[Ljava/lang/Object;" .null) (F_an_a : Fld Z h0 a "java/util/ImmutableCollections$ListN" "allowNulls" "Z" (.int 0)) (ge_a : Z.heap.size ≤ a) :
    Con l Z (⟨"java/util/ImmutableCollections$ListN", "<init>", "([Ljava/lang/Object;Z)V"⟩ : MethodName) jdk_45_method_1_code 3 none [] ({ frames := 4, cells := 0, slots := 0, locals := 48 } : Room) #[(.ref a), (.ref t), (.int (0 : Int32))] h0 (Q_lnInit Z a t h0) := by
  refine Con.walk (plainFor_of_name pn_10) ?_
  intro p e s m below meth c T0 X0 hx hZ hby hml hown hnm hret hlk e0
  obtain ⟨hw, ⟨cz, S_CS, hcz⟩, ⟨xde, xkde, S_DE, V_DE⟩, ⟨aEM, S_EM⟩, ⟨aEL, S_EL⟩, ⟨cO, kO, mrO, mir1, mir2, mir3⟩, ⟨k0, k1, k2, k3, k4, S_K0, S_K1, S_K2, S_K3, S_K4, kn0, kn2, kn3, kn4⟩⟩ := id hD
  have N0 := Fr.nil Z.heap.size
  have K0 : Keep h0 h0 [a] := Keep.refl _ _
  refine OEnds.cast (ef_lnInit m a t) ?_
  refine OEnds.st (S' := T0.setTop (mkF m 1 #[.val (.ref a), .val (.ref t), .val (.int (0 : Int32))] [(.ref a)])) (fun _ k => ?_) ?_
  · show Steps p.tables e below (T0.setTop (mkF m 0 #[.val (.ref a), .val (.ref t), .val (.int (0 : Int32))] [])) _
    refine XS.aloadN X0.here hx rfl (hb hby d_jdk_45_1_0) rfl rfl ?_
    exact k
  obtain ⟨_, T1, h1, L1, X1, e1, hQ1, st1⟩ := specC X0 hx hZ rfl hown (hw _ (List.mem_of_getElem? (i := 225) rfl)) (hw _ (List.mem_of_getElem? (i := 179) rfl)) (hw _ (List.mem_of_getElem? (i := 183) rfl)) (by decide) (kc := 0) (ks := 0) (Con.sb (W := 0) (rm_ailInit l hD a O0) hZ (hw _ (List.mem_of_getElem? (i := 183) rfl)) (hw _ (List.mem_of_getElem? (i := 182) rfl)) (by decide) (by decide)) e0 (a := a) (g := (mkF m 1 #[.val (.ref a), .val (.ref t), .val (.int (0 : Int32))] [(.ref a)])) rfl (by rw [hml]; rfl) (argsL := []) (rest := []) (lenOf pd_3 rfl) rfl (by show 2 * 0 + _ ≤ _; exact Nat.le_of_eq rfl) (hb hby d_jdk_45_1_1) (by decide) (by decide)
  obtain ⟨rfl, Nq1, Hq1⟩ := hQ1
  refine OEnds.st (S' := T1.setTop (mkF m 4 #[.val (.ref a), .val (.ref t), .val (.int (0 : Int32))] [])) st1 ?_
  replace N0 := Fr.app N0 Nq1
  replace e1 := e1.trans Hq1
  refine OEnds.st (S' := T1.setTop (mkF m 6 #[.val (.ref a), .val (.ref t), .val (.int (0 : Int32))] [(.ref t), (.ref a)])) (fun _ k => ?_) ?_
  · show Steps p.tables e below (T1.setTop (mkF m 4 #[.val (.ref a), .val (.ref t), .val (.int (0 : Int32))] [])) _
    refine XS.aloadN X1.here hx rfl (hb hby d_jdk_45_1_4) rfl rfl ?_
    show Steps p.tables e below (T1.setTop (mkF m 5 #[.val (.ref a), .val (.ref t), .val (.int (0 : Int32))] [(.ref a)])) _
    refine XS.aloadN X1.here hx rfl (hb hby d_jdk_45_1_5) rfl rfl ?_
    exact k
  obtain ⟨T2, h2, X2, e2, W2, st2⟩ := putF X1 hx hZ hown (host := "") (Or.inl (hw _ (List.mem_of_getElem? (i := 229) rfl))) Via.refl e1 F_el_a E_a (Or.inr ⟨(hw _ (List.mem_of_getElem? (i := 230) rfl)), rfl, hnm⟩) (hw _ (List.mem_of_getElem? (i := 219) rfl)) (ty := (.array (.object "java/lang/Object"))) (by decide) rfl rfl (g := (mkF m 6 #[.val (.ref a), .val (.ref t), .val (.int (0 : Int32))] [(.ref t), (.ref a)])) rfl rfl (hb hby d_jdk_45_1_6)
  refine OEnds.st (S' := T2.setTop (mkF m 9 #[.val (.ref a), .val (.ref t), .val (.int (0 : Int32))] [])) st2 ?_
  replace E_a := E_a.wr W2
  replace F_el_a := F_el_a.same W2
  replace F_an_a := F_an_a.other W2 (Or.inr (slot_ne (Or.inr (hw _ (List.mem_of_getElem? (i := 232) rfl))) (Or.inr (hw _ (List.mem_of_getElem? (i := 230) rfl))) (by decide) (t := .boolean) (t' := (.array (.object "java/lang/Object"))) (by decide) (by decide)))
  replace O0 : Ext Z.heap h2 := ext_wr O0 W2 ge_a
  replace N0 := Fr.snoc X2 N0 ge_a
  replace K0 : Keep h0 h2 [a] := K0.wr W2 (Or.inl (List.mem_of_getElem? (i := 0) rfl))
  refine OEnds.st (S' := T2.setTop (mkF m 11 #[.val (.ref a), .val (.ref t), .val (.int (0 : Int32))] [(.int (0 : Int32)), (.ref a)])) (fun _ k => ?_) ?_
  · show Steps p.tables e below (T2.setTop (mkF m 9 #[.val (.ref a), .val (.ref t), .val (.int (0 : Int32))] [])) _
    refine XS.aloadN X2.here hx rfl (hb hby d_jdk_45_1_9) rfl rfl ?_
    show Steps p.tables e below (T2.setTop (mkF m 10 #[.val (.ref a), .val (.ref t), .val (.int (0 : Int32))] [(.ref a)])) _
    refine XS.iloadN X2.here hx rfl (hb hby d_jdk_45_1_10) rfl ?_
    exact k
  obtain ⟨T3, h3, X3, e3, W3, st3⟩ := putF X2 hx hZ hown (host := "") (Or.inl (hw _ (List.mem_of_getElem? (i := 231) rfl))) Via.refl e2 F_an_a E_a (Or.inr ⟨(hw _ (List.mem_of_getElem? (i := 232) rfl)), rfl, hnm⟩) (hw _ (List.mem_of_getElem? (i := 219) rfl)) (ty := .boolean) (by decide) rfl rfl (g := (mkF m 11 #[.val (.ref a), .val (.ref t), .val (.int (0 : Int32))] [(.int (0 : Int32)), (.ref a)])) rfl rfl (hb hby d_jdk_45_1_11)
  refine OEnds.st (S' := T3.setTop (mkF m 14 #[.val (.ref a), .val (.ref t), .val (.int (0 : Int32))] [])) st3 ?_
  replace E_a := E_a.wr W3
  replace F_el_a := F_el_a.other W3 (Or.inr (slot_ne (Or.inr (hw _ (List.mem_of_getElem? (i := 230) rfl))) (Or.inr (hw _ (List.mem_of_getElem? (i := 232) rfl))) (by decide) (t := (.array (.object "java/lang/Object"))) (t' := .boolean) (by decide) (by decide)))
  replace F_an_a := F_an_a.same W3
  replace O0 : Ext Z.heap h3 := ext_wr O0 W3 ge_a
  replace N0 := Fr.snoc X3 N0 ge_a
  replace K0 : Keep h0 h3 [a] := K0.wr W3 (Or.inl (List.mem_of_getElem? (i := 0) rfl))
  exact OEnds.retV X3 hx hret hlk (hb hby d_jdk_45_1_14) (by decide) (by decide) (by rw [e3]; exact ⟨rfl, N0, K0⟩)
-- java/util/ImmutableCollections.listFromArray:([Ljava/lang/Object;)Ljava/util/List;
def Q_lfa (Z : State) (t : Addr) (kt : ClassId) (x1 : Addr) (x2 : Addr) (x3 : Addr) (h0 : Heap) (v : Option Value) (h : Heap) (L : List Loc) : Prop := ∃ r : Addr, v = some (.ref r) ∧ Fr Z.heap.size L ∧ Keep h0 h []
theorem ef_lfa (m : MethodId) (t : Addr) : entryFrame m #[(.ref t)] 3 = mkF m 0 #[.val (.ref t), .unset, .unset] [] := by first | (simp [entryFrame, mkF, argsToLocals, Value.category]; done) | rfl
theorem pn_11 : plainName "java/util/ImmutableCollections" = true := by first | (simp [plainName, overriddenIn]; done) | decide +kernel
theorem d_jdk_56_4_0 : decode jdk_56_method_4_code 0 = .ok (.aload_n 0, 1) := by decide +kernel
theorem d_jdk_56_4_1 : decode jdk_56_method_4_code 1 = .ok (.arraylength, 1) := by decide +kernel
theorem d_jdk_56_4_2 : decode jdk_56_method_4_code 2 = .ok (.anewarray 2, 3) := by decide +kernel
theorem d_jdk_56_4_5 : decode jdk_56_method_4_code 5 = .ok (.astore_n 1, 1) := by decide +kernel
theorem d_jdk_56_4_6 : decode jdk_56_method_4_code 6 = .ok (.iconst 0, 1) := by decide +kernel
theorem d_jdk_56_4_7 : decode jdk_56_method_4_code 7 = .ok (.istore_n 2, 1) := by decide +kernel
theorem d_jdk_56_4_8 : decode jdk_56_method_4_code 8 = .ok (.iload_n 2, 1) := by decide +kernel
theorem d_jdk_56_4_9 : decode jdk_56_method_4_code 9 = .ok (.aload_n 0, 1) := by decide +kernel
theorem d_jdk_56_4_10 : decode jdk_56_method_4_code 10 = .ok (.arraylength, 1) := by decide +kernel
theorem d_jdk_56_4_11 : decode jdk_56_method_4_code 11 = .ok (.if_icmp .ge 18, 3) := by decide +kernel
theorem d_jdk_56_4_14 : decode jdk_56_method_4_code 14 = .ok (.aload_n 1, 1) := by decide +kernel
theorem d_jdk_56_4_15 : decode jdk_56_method_4_code 15 = .ok (.iload_n 2, 1) := by decide +kernel
theorem d_jdk_56_4_16 : decode jdk_56_method_4_code 16 = .ok (.aload_n 0, 1) := by decide +kernel
theorem d_jdk_56_4_17 : decode jdk_56_method_4_code 17 = .ok (.iload_n 2, 1) := by decide +kernel
theorem d_jdk_56_4_18 : decode jdk_56_method_4_code 18 = .ok (.aaload, 1) := by decide +kernel
theorem d_jdk_56_4_19 : decode jdk_56_method_4_code 19 = .ok (.invokestatic 37, 3) := by decide +kernel
theorem d_jdk_56_4_22 : decode jdk_56_method_4_code 22 = .ok (.aastore, 1) := by decide +kernel
theorem d_jdk_56_4_23 : decode jdk_56_method_4_code 23 = .ok (.iinc 2 1, 3) := by decide +kernel
theorem d_jdk_56_4_26 : decode jdk_56_method_4_code 26 = .ok (.goto (-18), 3) := by decide +kernel
theorem d_jdk_56_4_29 : decode jdk_56_method_4_code 29 = .ok (.new 12, 3) := by decide +kernel
theorem d_jdk_56_4_32 : decode jdk_56_method_4_code 32 = .ok (.dup, 1) := by decide +kernel
theorem d_jdk_56_4_33 : decode jdk_56_method_4_code 33 = .ok (.aload_n 1, 1) := by decide +kernel
theorem d_jdk_56_4_34 : decode jdk_56_method_4_code 34 = .ok (.iconst 0, 1) := by decide +kernel
theorem d_jdk_56_4_35 : decode jdk_56_method_4_code 35 = .ok (.invokespecial 43, 3) := by decide +kernel
theorem pd_9 : parseMethodDescriptor "([Ljava/lang/Object;Z)V" = some ⟨[(.array (.object "java/lang/Object")), .boolean], none⟩ := by decide +kernel
theorem d_jdk_56_4_38 : decode jdk_56_method_4_code 38 = .ok (.areturn, 1) := by decide +kernel
set_option maxRecDepth 65536 in
set_option maxHeartbeats 40000000 in
theorem rm_lfa (l : Launch) {Z : State} {a0 : Array Value} (hD : Wd Z a0) (t : Addr) (kt : ClassId) (x1 : Addr) (x2 : Addr) (x3 : Addr) {h0 : Heap} (O0 : Ext Z.heap h0) (V_t : Arv Z h0 t kt (.object "java/lang/Object") (3 : Int32) [(.ref x1), (.ref x2), (.ref x3)] .null) (E_x1 : Exa Z h0 x1 "java/lang/String") (E_x2 : Exa Z h0 x2 "java/lang/String") (E_x3 : Exa Z h0 x3 "java/lang/String") :
    Con l Z (⟨"java/util/ImmutableCollections", "listFromArray", "([Ljava/lang/Object;)Ljava/util/List;"⟩ : MethodName) jdk_56_method_4_code 3 (some (.object "java/util/List")) [] ({ frames := 5, cells := 2, slots := 5, locals := 63 } : Room) #[(.ref t)] h0 (Q_lfa Z t kt x1 x2 x3 h0) := by
  refine Con.walk (plainFor_of_name pn_11) ?_
  intro p e s m below meth c T0 X0 hx hZ hby hml hown hnm hret hlk e0
  obtain ⟨hw, ⟨cz, S_CS, hcz⟩, ⟨xde, xkde, S_DE, V_DE⟩, ⟨aEM, S_EM⟩, ⟨aEL, S_EL⟩, ⟨cO, kO, mrO, mir1, mir2, mir3⟩, ⟨k0, k1, k2, k3, k4, S_K0, S_K1, S_K2, S_K3, S_K4, kn0, kn2, kn3, kn4⟩⟩ := id hD
  have N0 := Fr.nil Z.heap.size
  have K0 : Keep h0 h0 [] := Keep.refl _ _
  refine OEnds.cast (ef_lfa m t) ?_
  refine OEnds.st (S' := T0.setTop (mkF m 1 #[.val (.ref t), .unset, .unset] [(.ref t)])) (fun _ k => ?_) ?_
  · show Steps p.tables e below (T0.setTop (mkF m 0 #[.val (.ref t), .unset, .unset] [])) _
    refine XS.aloadN X0.here hx rfl (hb hby d_jdk_56_4_0) rfl rfl ?_
    exact k
  obtain ⟨cl_t_1, Ar_t_1, q_t_1, S_t_1, N_t_1, H_t_1, G_t_1⟩ := id V_t
  refine OEnds.st (S' := T0.setTop (mkF m 2 #[.val (.ref t), .unset, .unset] [(.int (3 : Int32))])) (fun tg kk => X0.arraylength hx (by rw [e0]; exact Ar_t_1.1) (State.isArrayOf_alike hZ.alike Ar_t_1.2.1) (g := (mkF m 1 #[.val (.ref t), .unset, .unset] [(.ref t)])) rfl rfl (hb hby d_jdk_56_4_1) tg (by rw [len_of S_t_1 N_t_1]; exact kk)) ?_
  obtain ⟨T2, h2, k2, X2, e2, E2, A2, Ex2, Ov2, st2⟩ := newRE X0 hx hZ hown (hw _ (List.mem_of_getElem? (i := 217) rfl)) (hw _ (List.mem_of_getElem? (i := 101) rfl)) e0 (g := (mkF m 2 #[.val (.ref t), .unset, .unset] [(.int (3 : Int32))])) rfl (hb hby d_jdk_56_4_2) rfl (by decide) (cap := 3) (by decide) (by decide) (by decide) (by decide) (ad := "[Ljava/lang/Object;") (by decide)
  obtain ⟨b2, g2⟩ : ∃ z, z = h0.size := ⟨_, rfl⟩
  rw [← g2] at A2 Ex2 st2
  refine OEnds.st (S' := T2.setTop (mkF m 5 #[.val (.ref t), .unset, .unset] [(.ref b2)])) st2 ?_
  have ne_t_b2 : t ≠ b2 := Nat.ne_of_lt (Nat.lt_of_lt_of_le V_t.lt (Nat.le_of_eq g2.symm))
  have ne_x1_b2 : x1 ≠ b2 := Nat.ne_of_lt (Nat.lt_of_lt_of_le E_x1.lt (Nat.le_of_eq g2.symm))
  have ne_x2_b2 : x2 ≠ b2 := Nat.ne_of_lt (Nat.lt_of_lt_of_le E_x2.lt (Nat.le_of_eq g2.symm))
  have ne_x3_b2 : x3 ≠ b2 := Nat.ne_of_lt (Nat.lt_of_lt_of_le E_x3.lt (Nat.le_of_eq g2.symm))
  have ge_b2 : Z.heap.size ≤ b2 := Nat.le_trans O0.1 (Nat.le_of_eq g2.symm)
  have sz_b2 : h0.size ≤ b2 := Nat.le_trans K0.1 (Nat.le_of_eq g2.symm)
  replace V_t := V_t.ext E2
  replace E_x1 := E_x1.ext E2
  replace E_x2 := E_x2.ext E2
  replace E_x3 := E_x3.ext E2
  replace O0 : Ext Z.heap h2 := ext_trans O0 E2
  replace K0 : Keep h0 h2 [] := K0.ext E2
  have V_b2 : Arv Z h2 b2 k2 (.object "java/lang/Object") (3 : Int32) [.null, .null, .null] .null := (Arv.new A2 (by decide)).pad (pad_rep [] .null 3)
  refine OEnds.st (S' := T2.setTop (mkF m 10 #[.val (.ref t), .val (.ref b2), .val (.int (0 : Int32))] [(.ref t), (.int (0 : Int32))])) (fun _ k => ?_) ?_
  · show Steps p.tables e below (T2.setTop (mkF m 5 #[.val (.ref t), .unset, .unset] [(.ref b2)])) _
    refine XS.astoreN X2.here hx rfl (hb hby d_jdk_56_4_5) rfl rfl (l' := #[.val (.ref t), .val (.ref b2), .unset]) rfl ?_
    show Steps p.tables e below (T2.setTop (mkF m 6 #[.val (.ref t), .val (.ref b2), .unset] [])) _
    refine XS.iconst X2.here hx rfl (hb hby d_jdk_56_4_6) ?_
    show Steps p.tables e below (T2.setTop (mkF m 7 #[.val (.ref t), .val (.ref b2), .unset] [(.int (0 : Int32))])) _
    refine XS.istoreN X2.here hx rfl (hb hby d_jdk_56_4_7) rfl (l' := #[.val (.ref t), .val (.ref b2), .val (.int (0 : Int32))]) rfl ?_
    show Steps p.tables e below (T2.setTop (mkF m 8 #[.val (.ref t), .val (.ref b2), .val (.int (0 : Int32))] [])) _
    refine XS.iloadN X2.here hx rfl (hb hby d_jdk_56_4_8) rfl ?_
    show Steps p.tables e below (T2.setTop (mkF m 9 #[.val (.ref t), .val (.ref b2), .val (.int (0 : Int32))] [(.int (0 : Int32))])) _
    refine XS.aloadN X2.here hx rfl (hb hby d_jdk_56_4_9) rfl rfl ?_
    exact k
  obtain ⟨cl_t_3, Ar_t_3, q_t_3, S_t_3, N_t_3, H_t_3, G_t_3⟩ := id V_t
  refine OEnds.st (S' := T2.setTop (mkF m 11 #[.val (.ref t), .val (.ref b2), .val (.int (0 : Int32))] [(.int (3 : Int32)), (.int (0 : Int32))])) (fun tg kk => X2.arraylength hx (by rw [e2]; exact Ar_t_3.1) (State.isArrayOf_alike hZ.alike Ar_t_3.2.1) (g := (mkF m 10 #[.val (.ref t), .val (.ref b2), .val (.int (0 : Int32))] [(.ref t), (.int (0 : Int32))])) rfl rfl (hb hby d_jdk_56_4_10) tg (by rw [len_of S_t_3 N_t_3]; exact kk)) ?_
  refine OEnds.st (S' := T2.setTop (mkF m 18 #[.val (.ref t), .val (.ref b2), .val (.int (0 : Int32))] [(.int (0 : Int32)), (.ref t), (.int (0 : Int32)), (.ref b2)])) (fun _ k => ?_) ?_
  · show Steps p.tables e below (T2.setTop (mkF m 11 #[.val (.ref t), .val (.ref b2), .val (.int (0 : Int32))] [(.int (3 : Int32)), (.int (0 : Int32))])) _
    refine XS.icmpNo X2.here hx rfl (hb hby d_jdk_56_4_11) rfl (tlt (by decide)).2.1 ?_
    show Steps p.tables e below (T2.setTop (mkF m 14 #[.val (.ref t), .val (.ref b2), .val (.int (0 : Int32))] [])) _
    refine XS.aloadN X2.here hx rfl (hb hby d_jdk_56_4_14) rfl rfl ?_
    show Steps p.tables e below (T2.setTop (mkF m 15 #[.val (.ref t), .val (.ref b2), .val (.int (0 : Int32))] [(.ref b2)])) _
    refine XS.iloadN X2.here hx rfl (hb hby d_jdk_56_4_15) rfl ?_
    show Steps p.tables e below (T2.setTop (mkF m 16 #[.val (.ref t), .val (.ref b2), .val (.int (0 : Int32))] [(.int (0 : Int32)), (.ref b2)])) _
    refine XS.aloadN X2.here hx rfl (hb hby d_jdk_56_4_16) rfl rfl ?_
    show Steps p.tables e below (T2.setTop (mkF m 17 #[.val (.ref t), .val (.ref b2), .val (.int (0 : Int32))] [(.ref t), (.int (0 : Int32)), (.ref b2)])) _
    refine XS.iloadN X2.here hx rfl (hb hby d_jdk_56_4_17) rfl ?_
    exact k
  obtain ⟨cl_t_4, Ar_t_4, q_t_4, S_t_4, N_t_4, H_t_4, G_t_4⟩ := id V_t
  refine OEnds.st (S' := T2.setTop (mkF m 19 #[.val (.ref t), .val (.ref b2), .val (.int (0 : Int32))] [(.ref x1), (.int (0 : Int32)), (.ref b2)])) (X2.aaload hx (j := (0 : Int32)) (v := (.ref x1)) (by rw [e2]; exact Ar_t_4.1) (State.isArrayOf_alike hZ.alike Ar_t_4.2.1) rfl Ar_t_4.2.2 (inb_of S_t_4 ⟨by decide, by decide⟩) (H_t_4.at (inb_of S_t_4 ⟨by decide, by decide⟩) rfl) (g := (mkF m 18 #[.val (.ref t), .val (.ref b2), .val (.int (0 : Int32))] [(.int (0 : Int32)), (.ref t), (.int (0 : Int32)), (.ref b2)])) rfl rfl (hb hby d_jdk_56_4_18)) ?_
  obtain ⟨_, T5, h5, L5, X5, e5, hQ5, st5⟩ := callC X2 hx hZ hown (hw _ (List.mem_of_getElem? (i := 218) rfl)) (hw _ (List.mem_of_getElem? (i := 193) rfl)) (hw _ (List.mem_of_getElem? (i := 194) rfl)) (hw _ (List.mem_of_getElem? (i := 195) rfl)) (by decide) (kc := 0) (ks := 0) (Con.sb (W := 2) (rm_reqNonNull l hD x1 O0) hZ (hw _ (List.mem_of_getElem? (i := 195) rfl)) (hw _ (List.mem_of_getElem? (i := 194) rfl)) (by decide) (by decide)) e2 (g := (mkF m 19 #[.val (.ref t), .val (.ref b2), .val (.int (0 : Int32))] [(.ref x1), (.int (0 : Int32)), (.ref b2)])) rfl (by rw [hml]; rfl) (argsL := [(.ref x1)]) (rest := [(.int (0 : Int32)), (.ref b2)]) (lenOf pd_8 rfl) rfl (by show 2 * 0 + _ ≤ _; exact Nat.le_of_eq rfl) (hb hby d_jdk_56_4_19) (by decide) (by decide)
  obtain ⟨rfl, Nq5, Hq5⟩ := hQ5
  refine OEnds.st (S' := T5.setTop (mkF m 22 #[.val (.ref t), .val (.ref b2), .val (.int (0 : Int32))] [(.ref x1), (.int (0 : Int32)), (.ref b2)])) st5 ?_
  replace N0 := Fr.app N0 Nq5
  replace e5 := e5.trans Hq5
  obtain ⟨cl_b2_6, Ar_b2_6, q_b2_6, S_b2_6, N_b2_6, H_b2_6, G_b2_6⟩ := V_b2
  obtain ⟨T6, h6, X6, e6, W6, st6⟩ := stR X5 hx hZ e5 Ar_b2_6 (j := (0 : Int32)) (inb_of S_b2_6 ⟨by decide, by decide⟩) rfl (Sto.ofV Ar_b2_6 q_b2_6 Ov2 (Ins.of_exa E_x1 (hw _ (List.mem_of_getElem? (i := 102) rfl)))) (g := (mkF m 22 #[.val (.ref t), .val (.ref b2), .val (.int (0 : Int32))] [(.ref x1), (.int (0 : Int32)), (.ref b2)])) rfl rfl (hb hby d_jdk_56_4_22)
  have V_b2_6 : Arv Z h6 b2 k2 (.object "java/lang/Object") (3 : Int32) [(.ref x1), .null, .null] .null := Arv.set Ar_b2_6 q_b2_6 S_b2_6 N_b2_6 H_b2_6 G_b2_6 rfl W6 0 rfl (Nat.le_of_ble_eq_true rfl)
  refine OEnds.st (S' := T6.setTop (mkF m 23 #[.val (.ref t), .val (.ref b2), .val (.int (0 : Int32))] [])) st6 ?_
  replace V_t := V_t.other W6 ne_t_b2
  replace E_x1 := E_x1.wr W6
  replace E_x2 := E_x2.wr W6
  replace E_x3 := E_x3.wr W6
  replace Ex2 := Ex2.wr W6
  replace O0 : Ext Z.heap h6 := ext_wr O0 W6 ge_b2
  replace N0 := Fr.snoc X6 N0 ge_b2
  replace K0 : Keep h0 h6 [] := K0.wr W6 (Or.inr sz_b2)
  refine OEnds.st (S' := T6.setTop (mkF m 10 #[.val (.ref t), .val (.ref b2), .val (.int (1 : Int32))] [(.ref t), (.int (1 : Int32))])) (fun _ k => ?_) ?_
  · show Steps p.tables e below (T6.setTop (mkF m 23 #[.val (.ref t), .val (.ref b2), .val (.int (0 : Int32))] [])) _
    refine XS.iinc X6.here hx rfl (hb hby d_jdk_56_4_23) rfl (l' := #[.val (.ref t), .val (.ref b2), .val (.int (1 : Int32))]) rfl ?_
    show Steps p.tables e below (T6.setTop (mkF m 26 #[.val (.ref t), .val (.ref b2), .val (.int (1 : Int32))] [])) _
    refine XS.goto X6.here hx rfl (pc0 := 26) (pc' := 8) rfl (hb hby d_jdk_56_4_26) (by decide) (by decide) ?_
    show Steps p.tables e below (T6.setTop (mkF m 8 #[.val (.ref t), .val (.ref b2), .val (.int (1 : Int32))] [])) _
    refine XS.iloadN X6.here hx rfl (hb hby d_jdk_56_4_8) rfl ?_
    show Steps p.tables e below (T6.setTop (mkF m 9 #[.val (.ref t), .val (.ref b2), .val (.int (1 : Int32))] [(.int (1 : Int32))])) _
    refine XS.aloadN X6.here hx rfl (hb hby d_jdk_56_4_9) rfl rfl ?_
    exact k
  obtain ⟨cl_t_7, Ar_t_7, q_t_7, S_t_7, N_t_7, H_t_7, G_t_7⟩ := id V_t
  refine OEnds.st (S' := T6.setTop (mkF m 11 #[.val (.ref t), .val (.ref b2), .val (.int (1 : Int32))] [(.int (3 : Int32)), (.int (1 : Int32))])) (fun tg kk => X6.arraylength hx (by rw [e6]; exact Ar_t_7.1) (State.isArrayOf_alike hZ.alike Ar_t_7.2.1) (g := (mkF m 10 #[.val (.ref t), .val (.ref b2), .val (.int (1 : Int32))] [(.ref t), (.int (1 : Int32))])) rfl rfl (hb hby d_jdk_56_4_10) tg (by rw [len_of S_t_7 N_t_7]; exact kk)) ?_
  refine OEnds.st (S' := T6.setTop (mkF m 18 #[.val (.ref t), .val (.ref b2), .val (.int (1 : Int32))] [(.int (1 : Int32)), (.ref t), (.int (1 : Int32)), (.ref b2)])) (fun _ k => ?_) ?_
  · show Steps p.tables e below (T6.setTop (mkF m 11 #[.val (.ref t), .val (.ref b2), .val (.int (1 : Int32))] [(.int (3 : Int32)), (.int (1 : Int32))])) _
    refine XS.icmpNo X6.here hx rfl (hb hby d_jdk_56_4_11) rfl (tlt (by decide)).2.1 ?_
    show Steps p.tables e below (T6.setTop (mkF m 14 #[.val (.ref t), .val (.ref b2), .val (.int (1 : Int32))] [])) _
    refine XS.aloadN X6.here hx rfl (hb hby d_jdk_56_4_14) rfl rfl ?_
    show Steps p.tables e below (T6.setTop (mkF m 15 #[.val (.ref t), .val (.ref b2), .val (.int (1 : Int32))] [(.ref b2)])) _
    refine XS.iloadN X6.here hx rfl (hb hby d_jdk_56_4_15) rfl ?_
    show Steps p.tables e below (T6.setTop (mkF m 16 #[.val (.ref t), .val (.ref b2), .val (.int (1 : Int32))] [(.int (1 : Int32)), (.ref b2)])) _
    refine XS.aloadN X6.here hx rfl (hb hby d_jdk_56_4_16) rfl rfl ?_
    show Steps p.tables e below (T6.setTop (mkF m 17 #[.val (.ref t), .val (.ref b2), .val (.int (1 : Int32))] [(.ref t), (.int (1 : Int32)), (.ref b2)])) _
    refine XS.iloadN X6.here hx rfl (hb hby d_jdk_56_4_17) rfl ?_
    exact k
  obtain ⟨cl_t_8, Ar_t_8, q_t_8, S_t_8, N_t_8, H_t_8, G_t_8⟩ := id V_t
  refine OEnds.st (S' := T6.setTop (mkF m 19 #[.val (.ref t), .val (.ref b2), .val (.int (1 : Int32))] [(.ref x2), (.int (1 : Int32)), (.ref b2)])) (X6.aaload hx (j := (1 : Int32)) (v := (.ref x2)) (by rw [e6]; exact Ar_t_8.1) (State.isArrayOf_alike hZ.alike Ar_t_8.2.1) rfl Ar_t_8.2.2 (inb_of S_t_8 ⟨by decide, by decide⟩) (H_t_8.at (inb_of S_t_8 ⟨by decide, by decide⟩) rfl) (g := (mkF m 18 #[.val (.ref t), .val (.ref b2), .val (.int (1 : Int32))] [(.int (1 : Int32)), (.ref t), (.int (1 : Int32)), (.ref b2)])) rfl rfl (hb hby d_jdk_56_4_18)) ?_
  obtain ⟨_, T9, h9, L9, X9, e9, hQ9, st9⟩ := callC X6 hx hZ hown (hw _ (List.mem_of_getElem? (i := 218) rfl)) (hw _ (List.mem_of_getElem? (i := 193) rfl)) (hw _ (List.mem_of_getElem? (i := 194) rfl)) (hw _ (List.mem_of_getElem? (i := 195) rfl)) (by decide) (kc := 0) (ks := 0) (Con.sb (W := 2) (rm_reqNonNull l hD x2 O0) hZ (hw _ (List.mem_of_getElem? (i := 195) rfl)) (hw _ (List.mem_of_getElem? (i := 194) rfl)) (by decide) (by decide)) e6 (g := (mkF m 19 #[.val (.ref t), .val (.ref b2), .val (.int (1 : Int32))] [(.ref x2), (.int (1 : Int32)), (.ref b2)])) rfl (by rw [hml]; rfl) (argsL := [(.ref x2)]) (rest := [(.int (1 : Int32)), (.ref b2)]) (lenOf pd_8 rfl) rfl (by show 2 * 0 + _ ≤ _; exact Nat.le_of_eq rfl) (hb hby d_jdk_56_4_19) (by decide) (by decide)
  obtain ⟨rfl, Nq9, Hq9⟩ := hQ9
  refine OEnds.st (S' := T9.setTop (mkF m 22 #[.val (.ref t), .val (.ref b2), .val (.int (1 : Int32))] [(.ref x2), (.int (1 : Int32)), (.ref b2)])) st9 ?_
  replace N0 := Fr.app N0 Nq9
  replace e9 := e9.trans Hq9
  obtain ⟨cl_b2_10, Ar_b2_10, q_b2_10, S_b2_10, N_b2_10, H_b2_10, G_b2_10⟩ := V_b2_6
  obtain ⟨T10, h10, X10, e10, W10, st10⟩ := stR X9 hx hZ e9 Ar_b2_10 (j := (1 : Int32)) (inb_of S_b2_10 ⟨by decide, by decide⟩) rfl (Sto.ofV Ar_b2_10 q_b2_10 Ov2 (Ins.of_exa E_x2 (hw _ (List.mem_of_getElem? (i := 102) rfl)))) (g := (mkF m 22 #[.val (.ref t), .val (.ref b2), .val (.int (1 : Int32))] [(.ref x2), (.int (1 : Int32)), (.ref b2)])) rfl rfl (hb hby d_jdk_56_4_22)
  have V_b2_10 : Arv Z h10 b2 k2 (.object "java/lang/Object") (3 : Int32) [(.ref x1), (.ref x2), .null] .null := Arv.set Ar_b2_10 q_b2_10 S_b2_10 N_b2_10 H_b2_10 G_b2_10 rfl W10 1 rfl (Nat.le_of_ble_eq_true rfl)
  refine OEnds.st (S' := T10.setTop (mkF m 23 #[.val (.ref t), .val (.ref b2), .val (.int (1 : Int32))] [])) st10 ?_
  replace V_t := V_t.other W10 ne_t_b2
  replace E_x1 := E_x1.wr W10
  replace E_x2 := E_x2.wr W10
  replace E_x3 := E_x3.wr W10
  replace Ex2 := Ex2.wr W10
  replace O0 : Ext Z.heap h10 := ext_wr O0 W10 ge_b2
  replace N0 := Fr.snoc X10 N0 ge_b2
  replace K0 : Keep h0 h10 [] := K0.wr W10 (Or.inr sz_b2)
  refine OEnds.st (S' := T10.setTop (mkF m 10 #[.val (.ref t), .val (.ref b2), .val (.int (2 : Int32))] [(.ref t), (.int (2 : Int32))])) (fun _ k => ?_) ?_
  · show Steps p.tables e below (T10.setTop (mkF m 23 #[.val (.ref t), .val (.ref b2), .val (.int (1 : Int32))] [])) _
    refine XS.iinc X10.here hx rfl (hb hby d_jdk_56_4_23) rfl (l' := #[.val (.ref t), .val (.ref b2), .val (.int (2 : Int32))]) rfl ?_
    show Steps p.tables e below (T10.setTop (mkF m 26 #[.val (.ref t), .val (.ref b2), .val (.int (2 : Int32))] [])) _
    refine XS.goto X10.here hx rfl (pc0 := 26) (pc' := 8) rfl (hb hby d_jdk_56_4_26) (by decide) (by decide) ?_
    show Steps p.tables e below (T10.setTop (mkF m 8 #[.val (.ref t), .val (.ref b2), .val (.int (2 : Int32))] [])) _
    refine XS.iloadN X10.here hx rfl (hb hby d_jdk_56_4_8) rfl ?_
    show Steps p.tables e below (T10.setTop (mkF m 9 #[.val (.ref t), .val (.ref b2), .val (.int (2 : Int32))] [(.int (2 : Int32))])) _
    refine XS.aloadN X10.here hx rfl (hb hby d_jdk_56_4_9) rfl rfl ?_
    exact k
  obtain ⟨cl_t_11, Ar_t_11, q_t_11, S_t_11, N_t_11, H_t_11, G_t_11⟩ := id V_t
  refine OEnds.st (S' := T10.setTop (mkF m 11 #[.val (.ref t), .val (.ref b2), .val (.int (2 : Int32))] [(.int (3 : Int32)), (.int (2 : Int32))])) (fun tg kk => X10.arraylength hx (by rw [e10]; exact Ar_t_11.1) (State.isArrayOf_alike hZ.alike Ar_t_11.2.1) (g := (mkF m 10 #[.val (.ref t), .val (.ref b2), .val (.int (2 : Int32))] [(.ref t), (.int (2 : Int32))])) rfl rfl (hb hby d_jdk_56_4_10) tg (by rw [len_of S_t_11 N_t_11]; exact kk)) ?_
  refine OEnds.st (S' := T10.setTop (mkF m 18 #[.val (.ref t), .val (.ref b2), .val (.int (2 : Int32))] [(.int (2 : Int32)), (.ref t), (.int (2 : Int32)), (.ref b2)])) (fun _ k => ?_) ?_
  · show Steps p.tables e below (T10.setTop (mkF m 11 #[.val (.ref t), .val (.ref b2), .val (.int (2 : Int32))] [(.int (3 : Int32)), (.int (2 : Int32))])) _
    refine XS.icmpNo X10.here hx rfl (hb hby d_jdk_56_4_11) rfl (tlt (by decide)).2.1 ?_
    show Steps p.tables e below (T10.setTop (mkF m 14 #[.val (.ref t), .val (.ref b2), .val (.int (2 : Int32))] [])) _
    refine XS.aloadN X10.here hx rfl (hb hby d_jdk_56_4_14) rfl rfl ?_
    show Steps p.tables e below (T10.setTop (mkF m 15 #[.val (.ref t), .val (.ref b2), .val (.int (2 : Int32))] [(.ref b2)])) _
    refine XS.iloadN X10.here hx rfl (hb hby d_jdk_56_4_15) rfl ?_
    show Steps p.tables e below (T10.setTop (mkF m 16 #[.val (.ref t), .val (.ref b2), .val (.int (2 : Int32))] [(.int (2 : Int32)), (.ref b2)])) _
    refine XS.aloadN X10.here hx rfl (hb hby d_jdk_56_4_16) rfl rfl ?_
    show Steps p.tables e below (T10.setTop (mkF m 17 #[.val (.ref t), .val (.ref b2), .val (.int (2 : Int32))] [(.ref t), (.int (2 : Int32)), (.ref b2)])) _
    refine XS.iloadN X10.here hx rfl (hb hby d_jdk_56_4_17) rfl ?_
    exact k
  obtain ⟨cl_t_12, Ar_t_12, q_t_12, S_t_12, N_t_12, H_t_12, G_t_12⟩ := id V_t
  refine OEnds.st (S' := T10.setTop (mkF m 19 #[.val (.ref t), .val (.ref b2), .val (.int (2 : Int32))] [(.ref x3), (.int (2 : Int32)), (.ref b2)])) (X10.aaload hx (j := (2 : Int32)) (v := (.ref x3)) (by rw [e10]; exact Ar_t_12.1) (State.isArrayOf_alike hZ.alike Ar_t_12.2.1) rfl Ar_t_12.2.2 (inb_of S_t_12 ⟨by decide, by decide⟩) (H_t_12.at (inb_of S_t_12 ⟨by decide, by decide⟩) rfl) (g := (mkF m 18 #[.val (.ref t), .val (.ref b2), .val (.int (2 : Int32))] [(.int (2 : Int32)), (.ref t), (.int (2 : Int32)), (.ref b2)])) rfl rfl (hb hby d_jdk_56_4_18)) ?_
  obtain ⟨_, T13, h13, L13, X13, e13, hQ13, st13⟩ := callC X10 hx hZ hown (hw _ (List.mem_of_getElem? (i := 218) rfl)) (hw _ (List.mem_of_getElem? (i := 193) rfl)) (hw _ (List.mem_of_getElem? (i := 194) rfl)) (hw _ (List.mem_of_getElem? (i := 195) rfl)) (by decide) (kc := 0) (ks := 0) (Con.sb (W := 2) (rm_reqNonNull l hD x3 O0) hZ (hw _ (List.mem_of_getElem? (i := 195) rfl)) (hw _ (List.mem_of_getElem? (i := 194) rfl)) (by decide) (by decide)) e10 (g := (mkF m 19 #[.val (.ref t), .val (.ref b2), .val (.int (2 : Int32))] [(.ref x3), (.int (2 : Int32)), (.ref b2)])) rfl (by rw [hml]; rfl) (argsL := [(.ref x3)]) (rest := [(.int (2 : Int32)), (.ref b2)]) (lenOf pd_8 rfl) rfl (by show 2 * 0 + _ ≤ _; exact Nat.le_of_eq rfl) (hb hby d_jdk_56_4_19) (by decide) (by decide)
  obtain ⟨rfl, Nq13, Hq13⟩ := hQ13
  refine OEnds.st (S' := T13.setTop (mkF m 22 #[.val (.ref t), .val (.ref b2), .val (.int (2 : Int32))] [(.ref x3), (.int (2 : Int32)), (.ref b2)])) st13 ?_
  replace N0 := Fr.app N0 Nq13
  replace e13 := e13.trans Hq13
  obtain ⟨cl_b2_14, Ar_b2_14, q_b2_14, S_b2_14, N_b2_14, H_b2_14, G_b2_14⟩ := V_b2_10
  obtain ⟨T14, h14, X14, e14, W14, st14⟩ := stR X13 hx hZ e13 Ar_b2_14 (j := (2 : Int32)) (inb_of S_b2_14 ⟨by decide, by decide⟩) rfl (Sto.ofV Ar_b2_14 q_b2_14 Ov2 (Ins.of_exa E_x3 (hw _ (List.mem_of_getElem? (i := 102) rfl)))) (g := (mkF m 22 #[.val (.ref t), .val (.ref b2), .val (.int (2 : Int32))] [(.ref x3), (.int (2 : Int32)), (.ref b2)])) rfl rfl (hb hby d_jdk_56_4_22)
  have V_b2_14 : Arv Z h14 b2 k2 (.object "java/lang/Object") (3 : Int32) [(.ref x1), (.ref x2), (.ref x3)] .null := Arv.set Ar_b2_14 q_b2_14 S_b2_14 N_b2_14 H_b2_14 G_b2_14 rfl W14 2 rfl (Nat.le_of_ble_eq_true rfl)
  refine OEnds.st (S' := T14.setTop (mkF m 23 #[.val (.ref t), .val (.ref b2), .val (.int (2 : Int32))] [])) st14 ?_
  replace V_t := V_t.other W14 ne_t_b2
  replace E_x1 := E_x1.wr W14
  replace E_x2 := E_x2.wr W14
  replace E_x3 := E_x3.wr W14
  replace Ex2 := Ex2.wr W14
  replace O0 : Ext Z.heap h14 := ext_wr O0 W14 ge_b2
  replace N0 := Fr.snoc X14 N0 ge_b2
  replace K0 : Keep h0 h14 [] := K0.wr W14 (Or.inr sz_b2)
  refine OEnds.st (S' := T14.setTop (mkF m 10 #[.val (.ref t), .val (.ref b2), .val (.int (3 : Int32))] [(.ref t), (.int (3 : Int32))])) (fun _ k => ?_) ?_
  · show Steps p.tables e below (T14.setTop (mkF m 23 #[.val (.ref t), .val (.ref b2), .val (.int (2 : Int32))] [])) _
    refine XS.iinc X14.here hx rfl (hb hby d_jdk_56_4_23) rfl (l' := #[.val (.ref t), .val (.ref b2), .val (.int (3 : Int32))]) rfl ?_
    show Steps p.tables e below (T14.setTop (mkF m 26 #[.val (.ref t), .val (.ref b2), .val (.int (3 : Int32))] [])) _
    refine XS.goto X14.here hx rfl (pc0 := 26) (pc' := 8) rfl (hb hby d_jdk_56_4_26) (by decide) (by decide) ?_
    show Steps p.tables e below (T14.setTop (mkF m 8 #[.val (.ref t), .val (.ref b2), .val (.int (3 : Int32))] [])) _
    refine XS.iloadN X14.here hx rfl (hb hby d_jdk_56_4_8) rfl ?_
    show Steps p.tables e below (T14.setTop (mkF m 9 #[.val (.ref t), .val (.ref b2), .val (.int (3 : Int32))] [(.int (3 : Int32))])) _
    refine XS.aloadN X14.here hx rfl (hb hby d_jdk_56_4_9) rfl rfl ?_
    exact k
  obtain ⟨cl_t_15, Ar_t_15, q_t_15, S_t_15, N_t_15, H_t_15, G_t_15⟩ := id V_t
  refine OEnds.st (S' := T14.setTop (mkF m 11 #[.val (.ref t), .val (.ref b2), .val (.int (3 : Int32))] [(.int (3 : Int32)), (.int (3 : Int32))])) (fun tg kk => X14.arraylength hx (by rw [e14]; exact Ar_t_15.1) (State.isArrayOf_alike hZ.alike Ar_t_15.2.1) (g := (mkF m 10 #[.val (.ref t), .val (.ref b2), .val (.int (3 : Int32))] [(.ref t), (.int (3 : Int32))])) rfl rfl (hb hby d_jdk_56_4_10) tg (by rw [len_of S_t_15 N_t_15]; exact kk)) ?_
  refine OEnds.st (S' := T14.setTop (mkF m 29 #[.val (.ref t), .val (.ref b2), .val (.int (3 : Int32))] [])) (fun _ k => ?_) ?_
  · show Steps p.tables e below (T14.setTop (mkF m 11 #[.val (.ref t), .val (.ref b2), .val (.int (3 : Int32))] [(.int (3 : Int32)), (.int (3 : Int32))])) _
    refine XS.icmpYes X14.here hx rfl (pc0 := 11) (pc' := 29) rfl (hb hby d_jdk_56_4_11) rfl (flt (by decide)).2.1 (by decide) (by decide) ?_
    exact k
  obtain ⟨T16, h16, X16, e16, E16, A16, D16, U16, st16⟩ := newO X14 hx hZ hown (hw _ (List.mem_of_getElem? (i := 128) rfl)) (hw _ (List.mem_of_getElem? (i := 219) rfl)) (hw _ (List.mem_of_getElem? (i := 220) rfl)) e14 (g := (mkF m 29 #[.val (.ref t), .val (.ref b2), .val (.int (3 : Int32))] [])) rfl (hb hby d_jdk_56_4_29) (by decide) (by decide)
  obtain ⟨b16, g16⟩ : ∃ z, z = h14.size := ⟨_, rfl⟩
  rw [← g16] at A16 D16 U16 st16
  refine OEnds.st (S' := T16.setTop (mkF m 32 #[.val (.ref t), .val (.ref b2), .val (.int (3 : Int32))] [(.ref b16)])) st16 ?_
  have ne_b2_b16 : b2 ≠ b16 := Nat.ne_of_lt (Nat.lt_of_lt_of_le V_b2_14.lt (Nat.le_of_eq g16.symm))
  have ne_t_b16 : t ≠ b16 := Nat.ne_of_lt (Nat.lt_of_lt_of_le V_t.lt (Nat.le_of_eq g16.symm))
  have ne_x1_b16 : x1 ≠ b16 := Nat.ne_of_lt (Nat.lt_of_lt_of_le E_x1.lt (Nat.le_of_eq g16.symm))
  have ne_x2_b16 : x2 ≠ b16 := Nat.ne_of_lt (Nat.lt_of_lt_of_le E_x2.lt (Nat.le_of_eq g16.symm))
  have ne_x3_b16 : x3 ≠ b16 := Nat.ne_of_lt (Nat.lt_of_lt_of_le E_x3.lt (Nat.le_of_eq g16.symm))
  have ge_b16 : Z.heap.size ≤ b16 := Nat.le_trans O0.1 (Nat.le_of_eq g16.symm)
  have sz_b16 : h0.size ≤ b16 := Nat.le_trans K0.1 (Nat.le_of_eq g16.symm)
  replace V_t := V_t.ext E16
  replace E_x1 := E_x1.ext E16
  replace E_x2 := E_x2.ext E16
  replace E_x3 := E_x3.ext E16
  replace V_b2_14 := V_b2_14.ext E16
  replace Ex2 := Ex2.ext E16
  replace O0 : Ext Z.heap h16 := ext_trans O0 E16
  replace K0 : Keep h0 h16 [] := K0.ext E16
  have F_elements_b16 : Fld Z h16 b16 "java/util/ImmutableCollections$ListN" "elements" "[Ljava/lang/Object;" .null := D16 (Or.inr (hw _ (List.mem_of_getElem? (i := 230) rfl))) (ty := (.array (.object "java/lang/Object"))) (by decide)
  have F_allowNulls_b16 : Fld Z h16 b16 "java/util/ImmutableCollections$ListN" "allowNulls" "Z" (.int (0 : Int32)) := D16 (Or.inr (hw _ (List.mem_of_getElem? (i := 232) rfl))) (ty := .boolean) (by decide)
  refine OEnds.st (S' := T16.setTop (mkF m 35 #[.val (.ref t), .val (.ref b2), .val (.int (3 : Int32))] [(.int (0 : Int32)), (.ref b2), (.ref b16), (.ref b16)])) (fun _ k => ?_) ?_
  · show Steps p.tables e below (T16.setTop (mkF m 32 #[.val (.ref t), .val (.ref b2), .val (.int (3 : Int32))] [(.ref b16)])) _
    refine XS.dup X16.here hx rfl (hb hby d_jdk_56_4_32) rfl rfl ?_
    show Steps p.tables e below (T16.setTop (mkF m 33 #[.val (.ref t), .val (.ref b2), .val (.int (3 : Int32))] [(.ref b16), (.ref b16)])) _
    refine XS.aloadN X16.here hx rfl (hb hby d_jdk_56_4_33) rfl rfl ?_
    show Steps p.tables e below (T16.setTop (mkF m 34 #[.val (.ref t), .val (.ref b2), .val (.int (3 : Int32))] [(.ref b2), (.ref b16), (.ref b16)])) _
    refine XS.iconst X16.here hx rfl (hb hby d_jdk_56_4_34) ?_
    exact k
  obtain ⟨_, T17, h17, L17, X17, e17, hQ17, st17⟩ := specNC X16 hx hZ rfl hown (hw _ (List.mem_of_getElem? (i := 221) rfl)) (hw _ (List.mem_of_getElem? (i := 222) rfl)) (hw _ (List.mem_of_getElem? (i := 224) rfl)) (by decide) (kc := 0) (ks := 0) (Con.sb (W := 1) (rm_lnInit l hD b16 b2 O0 A16 F_elements_b16 F_allowNulls_b16 ge_b16) hZ (hw _ (List.mem_of_getElem? (i := 224) rfl)) (hw _ (List.mem_of_getElem? (i := 220) rfl)) (by decide) (by decide)) e16 (a := b16) (g := (mkF m 35 #[.val (.ref t), .val (.ref b2), .val (.int (3 : Int32))] [(.int (0 : Int32)), (.ref b2), (.ref b16), (.ref b16)])) rfl (by rw [hml]; rfl) (argsL := [(.ref b2), (.int (0 : Int32))]) (rest := [(.ref b16)]) (lenOf pd_9 rfl) rfl (by show 2 * 0 + _ ≤ _; exact Nat.le_of_eq rfl) (hb hby d_jdk_56_4_35) (by decide) (by decide)
  obtain ⟨rfl, Nq17, Kq17⟩ := hQ17
  refine OEnds.st (S' := T17.setTop (mkF m 38 #[.val (.ref t), .val (.ref b2), .val (.int (3 : Int32))] [(.ref b16)])) st17 ?_
  replace N0 := Fr.app N0 Nq17
  replace V_t := V_t.keep Kq17 (ninS ne_t_b16 nin0)
  replace E_x1 := E_x1.keep Kq17
  replace E_x2 := E_x2.keep Kq17
  replace E_x3 := E_x3.keep Kq17
  replace V_b2_14 := V_b2_14.keep Kq17 (ninS ne_b2_b16 nin0)
  replace Ex2 := Ex2.keep Kq17
  replace A16 := A16.keep Kq17
  replace O0 : Ext Z.heap h17 := ext_keep O0 Kq17 (allS ge_b16 all0)
  replace K0 : Keep h0 h17 [] := K0.trans Kq17 (allS (Or.inr sz_b16) all0)
  exact OEnds.ret X17 hx hret hlk rfl (Or.inr (Or.inr (Or.inr (Or.inr ⟨rfl, rfl, rfl⟩)))) (hb hby d_jdk_56_4_38) (by decide) (by decide) (by rw [e17]; exact ⟨b16, rfl, N0, K0⟩)
theorem d_tsw : decode jdk_40_method_47_code 2 = .ok (.tableswitch 57 0 2 #[26, 32, 43], 26) := by decide +kernel
-- java/util/List.of:()Ljava/util/List;
def Q_listOf0 (Z : State)  (h0 : Heap) (v : Option Value) (h : Heap) (L : List Loc) : Prop := ∃ r : Addr, v = some (.ref r) ∧ Fr Z.heap.size L ∧ Keep h0 h []
theorem ef_listOf0 (m : MethodId)  : entryFrame m #[] 0 = mkF m 0 #[] [] := by first | (simp [entryFrame, mkF, argsToLocals, Value.category]; done) | rfl
theorem pn_12 : plainName "java/util/List" = true := by first | (simp [plainName, overriddenIn]; done) | decide +kernel
theorem d_jdk_40_36_0 : decode jdk_40_method_36_code 0 = .ok (.getstatic 90, 3) := by decide +kernel
theorem d_jdk_40_36_3 : decode jdk_40_method_36_code 3 = .ok (.areturn, 1) := by decide +kernel
set_option maxRecDepth 65536 in
set_option maxHeartbeats 40000000 in
theorem rm_listOf0 (l : Launch) {Z : State} {a0 : Array Value} (hD : Wd Z a0)  {h0 : Heap} (O0 : Ext Z.heap h0) :
    Con l Z (⟨"java/util/List", "of", "()Ljava/util/List;"⟩ : MethodName) jdk_40_method_36_code 0 (some (.object "java/util/List")) [] ({ frames := 0, cells := 0, slots := 0, locals := 0 } : Room) #[] h0 (Q_listOf0 Z  h0) := by
  refine Con.walk (plainFor_of_name pn_12) ?_
  intro p e s m below meth c T0 X0 hx hZ hby hml hown hnm hret hlk e0
  obtain ⟨hw, ⟨cz, S_CS, hcz⟩, ⟨xde, xkde, S_DE, V_DE⟩, ⟨aEM, S_EM⟩, ⟨aEL, S_EL⟩, ⟨cO, kO, mrO, mir1, mir2, mir3⟩, ⟨k0, k1, k2, k3, k4, S_K0, S_K1, S_K2, S_K3, S_K4, kn0, kn2, kn3, kn4⟩⟩ := id hD
  have N0 := Fr.nil Z.heap.size
  have K0 : Keep h0 h0 [] := Keep.refl _ _
  refine OEnds.cast (ef_listOf0 m ) ?_
  obtain ⟨T1, X1, e1, st1⟩ := getS2 X0 hx hZ hown (host := "") (Or.inl (hw _ (List.mem_of_getElem? (i := 244) rfl))) Via.refl e0 (S_EL.ext O0) (g := (mkF m 0 #[] [])) rfl (hb hby d_jdk_40_36_0)
  refine OEnds.st (S' := T1.setTop (mkF m 3 #[] [(.ref aEL)])) st1 ?_
  exact OEnds.ret X1 hx hret hlk rfl (Or.inr (Or.inr (Or.inr (Or.inr ⟨rfl, rfl, rfl⟩)))) (hb hby d_jdk_40_36_3) (by decide) (by decide) (by rw [e1]; exact ⟨aEL, rfl, N0, K0⟩)
theorem no12 {Z : State} {a0 : Array Value} (hw : ∀ d ∈ tables_1, d.before a0 Z = true) : ∃ c t, Z.vm.findClass "java/util/ArrayList" = some c ∧ Z.vm.findClass "java/util/ImmutableCollections$List12" = some t ∧ Z.vm.assignable c t = false := ns_no (hw _ (List.mem_of_getElem? (i := 124) rfl)) (hw _ (List.mem_of_getElem? (i := 172) rfl)) (NS.step (hw _ (List.mem_of_getElem? (i := 124) rfl)) (NS.step (hw _ (List.mem_of_getElem? (i := 125) rfl)) (NS.step (hw _ (List.mem_of_getElem? (i := 126) rfl)) (ns_root (hw _ (List.mem_of_getElem? (i := 127) rfl)) (hw _ (List.mem_of_getElem? (i := 172) rfl)) (by decide)) (by decide)) (by decide)) (by decide)) (by decide)
theorem noN {Z : State} {a0 : Array Value} (hw : ∀ d ∈ tables_1, d.before a0 Z = true) : ∃ c t, Z.vm.findClass "java/util/ArrayList" = some c ∧ Z.vm.findClass "java/util/ImmutableCollections$ListN" = some t ∧ Z.vm.assignable c t = false := ns_no (hw _ (List.mem_of_getElem? (i := 124) rfl)) (hw _ (List.mem_of_getElem? (i := 219) rfl)) (NS.step (hw _ (List.mem_of_getElem? (i := 124) rfl)) (NS.step (hw _ (List.mem_of_getElem? (i := 125) rfl)) (NS.step (hw _ (List.mem_of_getElem? (i := 126) rfl)) (ns_root (hw _ (List.mem_of_getElem? (i := 127) rfl)) (hw _ (List.mem_of_getElem? (i := 219) rfl)) (by decide)) (by decide)) (by decide)) (by decide)) (by decide)
-- java/util/ArrayList.isEmpty:()Z
def Q_isEmp0 (Z : State) (a : Addr) (h0 : Heap) (v : Option Value) (h : Heap) (L : List Loc) : Prop := v = some (.int 1) ∧ Fr Z.heap.size L ∧ h = h0
theorem ef_isEmp0 (m : MethodId) (a : Addr) : entryFrame m #[(.ref a)] 1 = mkF m 0 #[.val (.ref a)] [] := by first | (simp [entryFrame, mkF, argsToLocals, Value.category]; done) | rfl
theorem d_jdk_38_9_0 : decode jdk_38_method_9_code 0 = .ok (.aload_n 0, 1) := by decide +kernel
theorem d_jdk_38_9_1 : decode jdk_38_method_9_code 1 = .ok (.getfield 48, 3) := by decide +kernel
theorem d_jdk_38_9_4 : decode jdk_38_method_9_code 4 = .ok (.ifCond .ne 7, 3) := by decide +kernel
theorem d_jdk_38_9_7 : decode jdk_38_method_9_code 7 = .ok (.iconst 1, 1) := by decide +kernel
theorem d_jdk_38_9_8 : decode jdk_38_method_9_code 8 = .ok (.goto 4, 3) := by decide +kernel
theorem d_jdk_38_9_12 : decode jdk_38_method_9_code 12 = .ok (.ireturn, 1) := by decide +kernel
set_option maxRecDepth 65536 in
set_option maxHeartbeats 40000000 in
theorem rm_isEmp0 (l : Launch) {Z : State} {a0 : Array Value} (hD : Wd Z a0) (a : Addr) {h0 : Heap} (O0 : Ext Z.heap h0) (F_sz_a : Fld Z h0 a "java/util/ArrayList" "size" "I" (.int (0 : Int32))) :
    Con l Z (⟨"java/util/ArrayList", "isEmpty", "()Z"⟩ : MethodName) jdk_38_method_9_code 1 (some .boolean) [] ({ frames := 0, cells := 0, slots := 0, locals := 0 } : Room) #[(.ref a)] h0 (Q_isEmp0 Z a h0) := by
  refine Con.walk (plainFor_of_name pn_8) ?_
  intro p e s m below meth c T0 X0 hx hZ hby hml hown hnm hret hlk e0
  obtain ⟨hw, ⟨cz, S_CS, hcz⟩, ⟨xde, xkde, S_DE, V_DE⟩, ⟨aEM, S_EM⟩, ⟨aEL, S_EL⟩, ⟨cO, kO, mrO, mir1, mir2, mir3⟩, ⟨k0, k1, k2, k3, k4, S_K0, S_K1, S_K2, S_K3, S_K4, kn0, kn2, kn3, kn4⟩⟩ := id hD
  have N0 := Fr.nil Z.heap.size
  refine OEnds.cast (ef_isEmp0 m a) ?_
  refine OEnds.st (S' := T0.setTop (mkF m 1 #[.val (.ref a)] [(.ref a)])) (fun _ k => ?_) ?_
  · show Steps p.tables e below (T0.setTop (mkF m 0 #[.val (.ref a)] [])) _
    refine XS.aloadN X0.here hx rfl (hb hby d_jdk_38_9_0) rfl rfl ?_
    exact k
  obtain ⟨T1, X1, e1, st1⟩ := getF X0 hx hZ hown (host := "") (Or.inl (hw _ (List.mem_of_getElem? (i := 79) rfl))) Via.refl e0 F_sz_a (g := (mkF m 1 #[.val (.ref a)] [(.ref a)])) rfl rfl (hb hby d_jdk_38_9_1)
  refine OEnds.st (S' := T1.setTop (mkF m 4 #[.val (.ref a)] [(.int (0 : Int32))])) st1 ?_
  refine OEnds.st (S' := T1.setTop (mkF m 12 #[.val (.ref a)] [(.int (1 : Int32))])) (fun _ k => ?_) ?_
  · show Steps p.tables e below (T1.setTop (mkF m 4 #[.val (.ref a)] [(.int (0 : Int32))])) _
    refine XS.ifNo X1.here hx rfl (hb hby d_jdk_38_9_4) rfl ((if0 _ _).trans (teq (by decide)).2) ?_
    show Steps p.tables e below (T1.setTop (mkF m 7 #[.val (.ref a)] [])) _
    refine XS.iconst X1.here hx rfl (hb hby d_jdk_38_9_7) ?_
    show Steps p.tables e below (T1.setTop (mkF m 8 #[.val (.ref a)] [(.int (1 : Int32))])) _
    refine XS.goto X1.here hx rfl (pc0 := 8) (pc' := 12) rfl (hb hby d_jdk_38_9_8) (by decide) (by decide) ?_
    exact k
  exact OEnds.ret X1 hx hret hlk (by decide) (Or.inl ⟨rfl, by simp, _, rfl⟩) (hb hby d_jdk_38_9_12) (by decide) (by decide) (by rw [e1]; exact ⟨rfl, N0, rfl⟩)
-- java/util/ImmutableCollections.listCopy:(Ljava/util/Collection;)Ljava/util/List;
def Q_listCopy0 (Z : State) (a : Addr) (d : Addr) (k : ClassId)  (h0 : Heap) (v : Option Value) (h : Heap) (L : List Loc) : Prop := ∃ r : Addr, v = some (.ref r) ∧ Fr Z.heap.size L ∧ Keep h0 h []
theorem ef_listCopy0 (m : MethodId) (a : Addr) : entryFrame m #[(.ref a)] 2 = mkF m 0 #[.val (.ref a), .unset] [] := by first | (simp [entryFrame, mkF, argsToLocals, Value.category]; done) | rfl
theorem d_jdk_56_3_0 : decode jdk_56_method_3_code 0 = .ok (.aload_n 0, 1) := by decide +kernel
theorem d_jdk_56_3_1 : decode jdk_56_method_3_code 1 = .ok (.instanceof 10, 3) := by decide +kernel
theorem d_jdk_56_3_4 : decode jdk_56_method_3_code 4 = .ok (.ifCond .ne 22, 3) := by decide +kernel
theorem d_jdk_56_3_7 : decode jdk_56_method_3_code 7 = .ok (.aload_n 0, 1) := by decide +kernel
theorem d_jdk_56_3_8 : decode jdk_56_method_3_code 8 = .ok (.instanceof 12, 3) := by decide +kernel
theorem d_jdk_56_3_11 : decode jdk_56_method_3_code 11 = .ok (.ifCond .eq 20, 3) := by decide +kernel
theorem d_jdk_56_3_31 : decode jdk_56_method_3_code 31 = .ok (.aload_n 0, 1) := by decide +kernel
theorem d_jdk_56_3_32 : decode jdk_56_method_3_code 32 = .ok (.invokeinterface 20 1, 5) := by decide +kernel
theorem pd_10 : parseMethodDescriptor "()Z" = some ⟨[], some .boolean⟩ := by decide +kernel
theorem d_jdk_56_3_37 : decode jdk_56_method_3_code 37 = .ok (.ifCond .eq 7, 3) := by decide +kernel
theorem d_jdk_56_3_40 : decode jdk_56_method_3_code 40 = .ok (.invokestatic 26, 3) := by decide +kernel
theorem pd_11 : parseMethodDescriptor "()Ljava/util/List;" = some ⟨[], some (.object "java/util/List")⟩ := by decide +kernel
theorem d_jdk_56_3_43 : decode jdk_56_method_3_code 43 = .ok (.areturn, 1) := by decide +kernel
set_option maxRecDepth 65536 in
set_option maxHeartbeats 40000000 in
theorem rm_listCopy0 (l : Launch) {Z : State} {a0 : Array Value} (hD : Wd Z a0) (a : Addr) (d : Addr) (k : ClassId)  {h0 : Heap} (O0 : Ext Z.heap h0) (E_a : Exa Z h0 a "java/util/ArrayList") (F_ed_a : Fld Z h0 a "java/util/ArrayList" "elementData" "[Ljava/lang/Object;" (.ref d)) (F_sz_a : Fld Z h0 a "java/util/ArrayList" "size" "I" (.int (0 : Int32))) :
    Con l Z (⟨"java/util/ImmutableCollections", "listCopy", "(Ljava/util/Collection;)Ljava/util/List;"⟩ : MethodName) jdk_56_method_3_code 2 (some (.object "java/util/List")) [] ({ frames := 1, cells := 0, slots := 0, locals := 12 } : Room) #[(.ref a)] h0 (Q_listCopy0 Z a d k h0) := by
  refine Con.walk (plainFor_of_name pn_11) ?_
  intro p e s m below meth c T0 X0 hx hZ hby hml hown hnm hret hlk e0
  obtain ⟨hw, ⟨cz, S_CS, hcz⟩, ⟨xde, xkde, S_DE, V_DE⟩, ⟨aEM, S_EM⟩, ⟨aEL, S_EL⟩, ⟨cO, kO, mrO, mir1, mir2, mir3⟩, ⟨k0, k1, k2, k3, k4, S_K0, S_K1, S_K2, S_K3, S_K4, kn0, kn2, kn3, kn4⟩⟩ := id hD
  have N0 := Fr.nil Z.heap.size
  have K0 : Keep h0 h0 [] := Keep.refl _ _
  refine OEnds.cast (ef_listCopy0 m a) ?_
  refine OEnds.st (S' := T0.setTop (mkF m 1 #[.val (.ref a), .unset] [(.ref a)])) (fun _ k => ?_) ?_
  · show Steps p.tables e below (T0.setTop (mkF m 0 #[.val (.ref a), .unset] [])) _
    refine XS.aloadN X0.here hx rfl (hb hby d_jdk_56_3_0) rfl rfl ?_
    exact k
  obtain ⟨T1, X1, e1, st1⟩ := instNo X0 hx hZ hown (hw _ (List.mem_of_getElem? (i := 123) rfl)) e0 E_a (no12 hw) (g := (mkF m 1 #[.val (.ref a), .unset] [(.ref a)])) rfl rfl (hb hby d_jdk_56_3_1)
  refine OEnds.st (S' := T1.setTop (mkF m 4 #[.val (.ref a), .unset] [(.int (0 : Int32))])) st1 ?_
  refine OEnds.st (S' := T1.setTop (mkF m 8 #[.val (.ref a), .unset] [(.ref a)])) (fun _ k => ?_) ?_
  · show Steps p.tables e below (T1.setTop (mkF m 4 #[.val (.ref a), .unset] [(.int (0 : Int32))])) _
    refine XS.ifNo X1.here hx rfl (hb hby d_jdk_56_3_4) rfl ((if0 _ _).trans (teq (by decide)).2) ?_
    show Steps p.tables e below (T1.setTop (mkF m 7 #[.val (.ref a), .unset] [])) _
    refine XS.aloadN X1.here hx rfl (hb hby d_jdk_56_3_7) rfl rfl ?_
    exact k
  obtain ⟨T2, X2, e2, st2⟩ := instNo X1 hx hZ hown (hw _ (List.mem_of_getElem? (i := 128) rfl)) e1 E_a (noN hw) (g := (mkF m 8 #[.val (.ref a), .unset] [(.ref a)])) rfl rfl (hb hby d_jdk_56_3_8)
  refine OEnds.st (S' := T2.setTop (mkF m 11 #[.val (.ref a), .unset] [(.int (0 : Int32))])) st2 ?_
  refine OEnds.st (S' := T2.setTop (mkF m 32 #[.val (.ref a), .unset] [(.ref a)])) (fun _ k => ?_) ?_
  · show Steps p.tables e below (T2.setTop (mkF m 11 #[.val (.ref a), .unset] [(.int (0 : Int32))])) _
    refine XS.ifYes X2.here hx rfl (pc0 := 11) (pc' := 31) rfl (hb hby d_jdk_56_3_11) rfl ((if0 _ _).trans (teq (by decide)).1) (by decide) (by decide) ?_
    show Steps p.tables e below (T2.setTop (mkF m 31 #[.val (.ref a), .unset] [])) _
    refine XS.aloadN X2.here hx rfl (hb hby d_jdk_56_3_31) rfl rfl ?_
    exact k
  obtain ⟨_, T3, h3, L3, X3, e3, hQ3, st3⟩ := faceC X2 hx hZ (xi := (⟨"java/util/Collection", "isEmpty", "()Z"⟩ : MethodName)) (y := (⟨"java/util/ArrayList", "isEmpty", "()Z"⟩ : MethodName)) hown (hw _ (List.mem_of_getElem? (i := 129) rfl)) (hw _ (List.mem_of_getElem? (i := 130) rfl)) (hw _ (List.mem_of_getElem? (i := 131) rfl)) (hw _ (List.mem_of_getElem? (i := 132) rfl)) (hw _ (List.mem_of_getElem? (i := 133) rfl)) (hw _ (List.mem_of_getElem? (i := 134) rfl)) (hw _ (List.mem_of_getElem? (i := 135) rfl)) (hw _ (List.mem_of_getElem? (i := 136) rfl)) (by decide) (kc := 0) (ks := 0) (Con.sb (W := 0) (rm_isEmp0 l hD a O0 F_sz_a) hZ (hw _ (List.mem_of_getElem? (i := 137) rfl)) (hw _ (List.mem_of_getElem? (i := 36) rfl)) (by decide) (by decide)) e2 E_a (g := (mkF m 32 #[.val (.ref a), .unset] [(.ref a)])) rfl (by rw [hml]; rfl) (argsL := []) (rest := []) (lenOf pd_10 rfl) rfl (by show 2 * 0 + _ ≤ _; exact Nat.le_of_eq rfl) (hb hby d_jdk_56_3_32) (by decide) (by decide)
  obtain ⟨rfl, Nq3, Hq3⟩ := hQ3
  refine OEnds.st (S' := T3.setTop (mkF m 37 #[.val (.ref a), .unset] [(.int (1 : Int32))])) st3 ?_
  replace N0 := Fr.app N0 Nq3
  replace e3 := e3.trans Hq3
  refine OEnds.st (S' := T3.setTop (mkF m 40 #[.val (.ref a), .unset] [])) (fun _ k => ?_) ?_
  · show Steps p.tables e below (T3.setTop (mkF m 37 #[.val (.ref a), .unset] [(.int (1 : Int32))])) _
    refine XS.ifNo X3.here hx rfl (hb hby d_jdk_56_3_37) rfl ((if0 _ _).trans (feq (by decide)).1) ?_
    exact k
  obtain ⟨_, T4, h4, L4, X4, e4, hQ4, st4⟩ := callC X3 hx hZ hown (hw _ (List.mem_of_getElem? (i := 241) rfl)) (hw _ (List.mem_of_getElem? (i := 242) rfl)) (hw _ (List.mem_of_getElem? (i := 117) rfl)) (hw _ (List.mem_of_getElem? (i := 243) rfl)) (by decide) (kc := 0) (ks := 0) (Con.sb (W := 0) (rm_listOf0 l hD  O0) hZ (hw _ (List.mem_of_getElem? (i := 243) rfl)) (hw _ (List.mem_of_getElem? (i := 117) rfl)) (by decide) (by decide)) e3 (g := (mkF m 40 #[.val (.ref a), .unset] [])) rfl (by rw [hml]; rfl) (argsL := []) (rest := []) (lenOf pd_11 rfl) rfl (by show 2 * 0 + _ ≤ _; exact Nat.le_of_eq rfl) (hb hby d_jdk_56_3_40) (by decide) (by decide)
  obtain ⟨r4, rfl, Nq4, Kq4⟩ := hQ4
  refine OEnds.st (S' := T4.setTop (mkF m 43 #[.val (.ref a), .unset] [(.ref r4)])) st4 ?_
  replace N0 := Fr.app N0 Nq4
  replace E_a := E_a.keep Kq4
  replace F_ed_a := F_ed_a.keep Kq4 nin0
  replace F_sz_a := F_sz_a.keep Kq4 nin0
  replace O0 : Ext Z.heap h4 := ext_keep O0 Kq4 all0
  replace K0 : Keep h0 h4 [] := K0.trans Kq4 all0
  exact OEnds.ret X4 hx hret hlk rfl (Or.inr (Or.inr (Or.inr (Or.inr ⟨rfl, rfl, rfl⟩)))) (hb hby d_jdk_56_3_43) (by decide) (by decide) (by rw [e4]; exact ⟨r4, rfl, N0, K0⟩)
-- java/util/List.copyOf:(Ljava/util/Collection;)Ljava/util/List;
def Q_copyOfL0 (Z : State) (a : Addr) (d : Addr) (k : ClassId)  (h0 : Heap) (v : Option Value) (h : Heap) (L : List Loc) : Prop := ∃ r : Addr, v = some (.ref r) ∧ Fr Z.heap.size L ∧ Keep h0 h []
theorem ef_copyOfL0 (m : MethodId) (a : Addr) : entryFrame m #[(.ref a)] 1 = mkF m 0 #[.val (.ref a)] [] := by first | (simp [entryFrame, mkF, argsToLocals, Value.category]; done) | rfl
theorem d_jdk_40_48_0 : decode jdk_40_method_48_code 0 = .ok (.aload_n 0, 1) := by decide +kernel
theorem d_jdk_40_48_1 : decode jdk_40_method_48_code 1 = .ok (.invokestatic 112, 3) := by decide +kernel
theorem pd_12 : parseMethodDescriptor "(Ljava/util/Collection;)Ljava/util/List;" = some ⟨[(.object "java/util/Collection")], some (.object "java/util/List")⟩ := by decide +kernel
theorem d_jdk_40_48_4 : decode jdk_40_method_48_code 4 = .ok (.areturn, 1) := by decide +kernel
set_option maxRecDepth 65536 in
set_option maxHeartbeats 40000000 in
theorem rm_copyOfL0 (l : Launch) {Z : State} {a0 : Array Value} (hD : Wd Z a0) (a : Addr) (d : Addr) (k : ClassId)  {h0 : Heap} (O0 : Ext Z.heap h0) (E_a : Exa Z h0 a "java/util/ArrayList") (F_ed_a : Fld Z h0 a "java/util/ArrayList" "elementData" "[Ljava/lang/Object;" (.ref d)) (F_sz_a : Fld Z h0 a "java/util/ArrayList" "size" "I" (.int (0 : Int32))) :
    Con l Z (⟨"java/util/List", "copyOf", "(Ljava/util/Collection;)Ljava/util/List;"⟩ : MethodName) jdk_40_method_48_code 1 (some (.object "java/util/List")) [] ({ frames := 2, cells := 0, slots := 0, locals := 25 } : Room) #[(.ref a)] h0 (Q_copyOfL0 Z a d k h0) := by
  refine Con.walk (plainFor_of_name pn_12) ?_
  intro p e s m below meth c T0 X0 hx hZ hby hml hown hnm hret hlk e0
  obtain ⟨hw, ⟨cz, S_CS, hcz⟩, ⟨xde, xkde, S_DE, V_DE⟩, ⟨aEM, S_EM⟩, ⟨aEL, S_EL⟩, ⟨cO, kO, mrO, mir1, mir2, mir3⟩, ⟨k0, k1, k2, k3, k4, S_K0, S_K1, S_K2, S_K3, S_K4, kn0, kn2, kn3, kn4⟩⟩ := id hD
  have N0 := Fr.nil Z.heap.size
  have K0 : Keep h0 h0 [] := Keep.refl _ _
  refine OEnds.cast (ef_copyOfL0 m a) ?_
  refine OEnds.st (S' := T0.setTop (mkF m 1 #[.val (.ref a)] [(.ref a)])) (fun _ k => ?_) ?_
  · show Steps p.tables e below (T0.setTop (mkF m 0 #[.val (.ref a)] [])) _
    refine XS.aloadN X0.here hx rfl (hb hby d_jdk_40_48_0) rfl rfl ?_
    exact k
  obtain ⟨_, T1, h1, L1, X1, e1, hQ1, st1⟩ := callC X0 hx hZ hown (hw _ (List.mem_of_getElem? (i := 119) rfl)) (hw _ (List.mem_of_getElem? (i := 120) rfl)) (hw _ (List.mem_of_getElem? (i := 121) rfl)) (hw _ (List.mem_of_getElem? (i := 122) rfl)) (by decide) (kc := 0) (ks := 0) (Con.sb (W := 0) (rm_listCopy0 l hD a d k O0 E_a F_ed_a F_sz_a) hZ (hw _ (List.mem_of_getElem? (i := 122) rfl)) (hw _ (List.mem_of_getElem? (i := 121) rfl)) (by decide) (by decide)) e0 (g := (mkF m 1 #[.val (.ref a)] [(.ref a)])) rfl (by rw [hml]; rfl) (argsL := [(.ref a)]) (rest := []) (lenOf pd_12 rfl) rfl (by show 2 * 0 + _ ≤ _; exact Nat.le_of_eq rfl) (hb hby d_jdk_40_48_1) (by decide) (by decide)
  obtain ⟨r1, rfl, Nq1, Kq1⟩ := hQ1
  refine OEnds.st (S' := T1.setTop (mkF m 4 #[.val (.ref a)] [(.ref r1)])) st1 ?_
  replace N0 := Fr.app N0 Nq1
  replace E_a := E_a.keep Kq1
  replace F_ed_a := F_ed_a.keep Kq1 nin0
  replace F_sz_a := F_sz_a.keep Kq1 nin0
  replace O0 : Ext Z.heap h1 := ext_keep O0 Kq1 all0
  replace K0 : Keep h0 h1 [] := K0.trans Kq1 all0
  exact OEnds.ret X1 hx hret hlk rfl (Or.inr (Or.inr (Or.inr (Or.inr ⟨rfl, rfl, rfl⟩)))) (hb hby d_jdk_40_48_4) (by decide) (by decide) (by rw [e1]; exact ⟨r1, rfl, N0, K0⟩)
-- com/example/gridtally/gridtally/determinant/Column.<init>:(Ljava/lang/String;Lcom/example/gridtally/gridtally/determinant/Column$Kind;Ljava/util/List;)V
def Q_colInit0 (Z : State) (o : Addr) (nme : Addr) (kd : Addr) (a : Addr) (d : Addr) (k : ClassId)  (h0 : Heap) (v : Option Value) (h : Heap) (L : List Loc) : Prop := v = none ∧ Fr Z.heap.size L ∧ Keep h0 h [o] ∧ Exa Z h o "com/example/gridtally/gridtally/determinant/Column" ∧ Fld Z h o "com/example/gridtally/gridtally/determinant/Column" "kind" "Lcom/example/gridtally/gridtally/determinant/Column$Kind;" (.ref kd)
theorem ef_colInit0 (m : MethodId) (o : Addr) (nme : Addr) (kd : Addr) (a : Addr) : entryFrame m #[(.ref o), (.ref nme), (.ref kd), (.ref a)] 4 = mkF m 0 #[.val (.ref o), .val (.ref nme), .val (.ref kd), .val (.ref a)] [] := by first | (simp [entryFrame, mkF, argsToLocals, Value.category]; done) | rfl
theorem pn_13 : plainName "com/example/gridtally/gridtally/determinant/Column" = true := by first | (simp [plainName, overriddenIn]; done) | decide +kernel
theorem d_prog_3_1_0 : decode prog_3_method_1_code 0 = .ok (.aload_n 0, 1) := by decide +kernel
theorem d_prog_3_1_1 : decode prog_3_method_1_code 1 = .ok (.invokespecial 1, 3) := by decide +kernel
theorem d_prog_3_1_4 : decode prog_3_method_1_code 4 = .ok (.aload_n 3, 1) := by decide +kernel
theorem d_prog_3_1_5 : decode prog_3_method_1_code 5 = .ok (.invokestatic 7, 3) := by decide +kernel
theorem d_prog_3_1_8 : decode prog_3_method_1_code 8 = .ok (.astore_n 3, 1) := by decide +kernel
theorem d_prog_3_1_9 : decode prog_3_method_1_code 9 = .ok (.aload_n 0, 1) := by decide +kernel
theorem d_prog_3_1_10 : decode prog_3_method_1_code 10 = .ok (.aload_n 1, 1) := by decide +kernel
theorem d_prog_3_1_11 : decode prog_3_method_1_code 11 = .ok (.putfield 13, 3) := by decide +kernel
theorem d_prog_3_1_14 : decode prog_3_method_1_code 14 = .ok (.aload_n 0, 1) := by decide +kernel
theorem d_prog_3_1_15 : decode prog_3_method_1_code 15 = .ok (.aload_n 2, 1) := by decide +kernel
theorem d_prog_3_1_16 : decode prog_3_method_1_code 16 = .ok (.putfield 19, 3) := by decide +kernel
theorem d_prog_3_1_19 : decode prog_3_method_1_code 19 = .ok (.aload_n 0, 1) := by decide +kernel
theorem d_prog_3_1_20 : decode prog_3_method_1_code 20 = .ok (.aload_n 3, 1) := by decide +kernel
theorem d_prog_3_1_21 : decode prog_3_method_1_code 21 = .ok (.putfield 23, 3) := by decide +kernel
theorem d_prog_3_1_24 : decode prog_3_method_1_code 24 = .ok (.return_, 1) := by decide +kernel
set_option maxRecDepth 65536 in
set_option maxHeartbeats 40000000 in
theorem rm_colInit0 (l : Launch) {Z : State} {a0 : Array Value} (hD : Wd Z a0) (o : Addr) (nme : Addr) (kd : Addr) (a : Addr) (d : Addr) (k : ClassId)  {h0 : Heap} (O0 : Ext Z.heap h0) (E_o : Exa Z h0 o "com/example/gridtally/gridtally/determinant/Column") (F_name_o : Fld Z h0 o "com/example/gridtally/gridtally/determinant/Column" "name" "Ljava/lang/String;" .null) (F_kind_o : Fld Z h0 o "com/example/gridtally/gridtally/determinant/Column" "kind" "Lcom/example/gridtally/gridtally/determinant/Column$Kind;" .null) (F_values_o : Fld Z h0 o "com/example/gridtally/gridtally/determinant/Column" "values" "Ljava/util/List;" .null) (ge_o : Z.heap.size ≤ o) (E_a : Exa Z h0 a "java/util/ArrayList") (F_ed_a : Fld Z h0 a "java/util/ArrayList" "elementData" "[Ljava/lang/Object;" (.ref d)) (F_sz_a : Fld Z h0 a "java/util/ArrayList" "size" "I" (.int (0 : Int32))) :
    Con l Z (⟨"com/example/gridtally/gridtally/determinant/Column", "<init>", "(Ljava/lang/String;Lcom/example/gridtally/gridtally/determinant/Column$Kind;Ljava/util/List;)V"⟩ : MethodName) prog_3_method_1_code 4 none [] ({ frames := 3, cells := 0, slots := 0, locals := 37 } : Room) #[(.ref o), (.ref nme), (.ref kd), (.ref a)] h0 (Q_colInit0 Z o nme kd a d k h0) := by
  refine Con.walk (plainFor_of_name pn_13) ?_
  intro p e s m below meth c T0 X0 hx hZ hby hml hown hnm hret hlk e0
  obtain ⟨hw, ⟨cz, S_CS, hcz⟩, ⟨xde, xkde, S_DE, V_DE⟩, ⟨aEM, S_EM⟩, ⟨aEL, S_EL⟩, ⟨cO, kO, mrO, mir1, mir2, mir3⟩, ⟨k0, k1, k2, k3, k4, S_K0, S_K1, S_K2, S_K3, S_K4, kn0, kn2, kn3, kn4⟩⟩ := id hD
  have N0 := Fr.nil Z.heap.size
  have K0 : Keep h0 h0 [o] := Keep.refl _ _
  refine OEnds.cast (ef_colInit0 m o nme kd a) ?_
  refine OEnds.st (S' := T0.setTop (mkF m 1 #[.val (.ref o), .val (.ref nme), .val (.ref kd), .val (.ref a)] [(.ref o)])) (fun _ k => ?_) ?_
  · show Steps p.tables e below (T0.setTop (mkF m 0 #[.val (.ref o), .val (.ref nme), .val (.ref kd), .val (.ref a)] [])) _
    refine XS.aloadN X0.here hx rfl (hb hby d_prog_3_1_0) rfl rfl ?_
    exact k
  obtain ⟨_, T1, h1, L1, X1, e1, hQ1, st1⟩ := specC X0 hx hZ rfl hown (hw _ (List.mem_of_getElem? (i := 109) rfl)) (hw _ (List.mem_of_getElem? (i := 110) rfl)) (hw _ (List.mem_of_getElem? (i := 113) rfl)) (by decide) (kc := 0) (ks := 0) (Con.sb (W := 0) (rm_recInit l hD o O0) hZ (hw _ (List.mem_of_getElem? (i := 113) rfl)) (hw _ (List.mem_of_getElem? (i := 112) rfl)) (by decide) (by decide)) e0 (a := o) (g := (mkF m 1 #[.val (.ref o), .val (.ref nme), .val (.ref kd), .val (.ref a)] [(.ref o)])) rfl (by rw [hml]; rfl) (argsL := []) (rest := []) (lenOf pd_3 rfl) rfl (by show 2 * 0 + _ ≤ _; exact Nat.le_of_eq rfl) (hb hby d_prog_3_1_1) (by decide) (by decide)
  obtain ⟨rfl, Nq1, Hq1⟩ := hQ1
  refine OEnds.st (S' := T1.setTop (mkF m 4 #[.val (.ref o), .val (.ref nme), .val (.ref kd), .val (.ref a)] [])) st1 ?_
  replace N0 := Fr.app N0 Nq1
  replace e1 := e1.trans Hq1
  refine OEnds.st (S' := T1.setTop (mkF m 5 #[.val (.ref o), .val (.ref nme), .val (.ref kd), .val (.ref a)] [(.ref a)])) (fun _ k => ?_) ?_
  · show Steps p.tables e below (T1.setTop (mkF m 4 #[.val (.ref o), .val (.ref nme), .val (.ref kd), .val (.ref a)] [])) _
    refine XS.aloadN X1.here hx rfl (hb hby d_prog_3_1_4) rfl rfl ?_
    exact k
  obtain ⟨_, T2, h2, L2, X2, e2, hQ2, st2⟩ := callC X1 hx hZ hown (hw _ (List.mem_of_getElem? (i := 115) rfl)) (hw _ (List.mem_of_getElem? (i := 116) rfl)) (hw _ (List.mem_of_getElem? (i := 117) rfl)) (hw _ (List.mem_of_getElem? (i := 118) rfl)) (by decide) (kc := 0) (ks := 0) (Con.sb (W := 0) (rm_copyOfL0 l hD a d k O0 E_a F_ed_a F_sz_a) hZ (hw _ (List.mem_of_getElem? (i := 118) rfl)) (hw _ (List.mem_of_getElem? (i := 117) rfl)) (by decide) (by decide)) e1 (g := (mkF m 5 #[.val (.ref o), .val (.ref nme), .val (.ref kd), .val (.ref a)] [(.ref a)])) rfl (by rw [hml]; rfl) (argsL := [(.ref a)]) (rest := []) (lenOf pd_12 rfl) rfl (by show 2 * 0 + _ ≤ _; exact Nat.le_of_eq rfl) (hb hby d_prog_3_1_5) (by decide) (by decide)
  obtain ⟨r2, rfl, Nq2, Kq2⟩ := hQ2
  refine OEnds.st (S' := T2.setTop (mkF m 8 #[.val (.ref o), .val (.ref nme), .val (.ref kd), .val (.ref a)] [(.ref r2)])) st2 ?_
  replace N0 := Fr.app N0 Nq2
  replace E_o := E_o.keep Kq2
  replace F_name_o := F_name_o.keep Kq2 nin0
  replace F_kind_o := F_kind_o.keep Kq2 nin0
  replace F_values_o := F_values_o.keep Kq2 nin0
  replace E_a := E_a.keep Kq2
  replace F_ed_a := F_ed_a.keep Kq2 nin0
  replace F_sz_a := F_sz_a.keep Kq2 nin0
  replace O0 : Ext Z.heap h2 := ext_keep O0 Kq2 all0
  replace K0 : Keep h0 h2 [o] := K0.trans Kq2 all0
  refine OEnds.st (S' := T2.setTop (mkF m 11 #[.val (.ref o), .val (.ref nme), .val (.ref kd), .val (.ref r2)] [(.ref nme), (.ref o)])) (fun _ k => ?_) ?_
  · show Steps p.tables e below (T2.setTop (mkF m 8 #[.val (.ref o), .val (.ref nme), .val (.ref kd), .val (.ref a)] [(.ref r2)])) _
    refine XS.astoreN X2.here hx rfl (hb hby d_prog_3_1_8) rfl rfl (l' := #[.val (.ref o), .val (.ref nme), .val (.ref kd), .val (.ref r2)]) rfl ?_
    show Steps p.tables e below (T2.setTop (mkF m 9 #[.val (.ref o), .val (.ref nme), .val (.ref kd), .val (.ref r2)] [])) _
    refine XS.aloadN X2.here hx rfl (hb hby d_prog_3_1_9) rfl rfl ?_
    show Steps p.tables e below (T2.setTop (mkF m 10 #[.val (.ref o), .val (.ref nme), .val (.ref kd), .val (.ref r2)] [(.ref o)])) _
    refine XS.aloadN X2.here hx rfl (hb hby d_prog_3_1_10) rfl rfl ?_
    exact k
  have ne_a_o : a ≠ o := ne_exa E_a E_o (by decide)
  obtain ⟨T3, h3, X3, e3, W3, st3⟩ := putF X2 hx hZ hown (host := "") (Or.inl (hw _ (List.mem_of_getElem? (i := 200) rfl))) Via.refl e2 F_name_o E_o (Or.inr ⟨(hw _ (List.mem_of_getElem? (i := 201) rfl)), rfl, hnm⟩) (hw _ (List.mem_of_getElem? (i := 104) rfl)) (ty := (.object "java/lang/String")) (by decide) rfl rfl (g := (mkF m 11 #[.val (.ref o), .val (.ref nme), .val (.ref kd), .val (.ref r2)] [(.ref nme), (.ref o)])) rfl rfl (hb hby d_prog_3_1_11)
  refine OEnds.st (S' := T3.setTop (mkF m 14 #[.val (.ref o), .val (.ref nme), .val (.ref kd), .val (.ref r2)] [])) st3 ?_
  replace E_o := E_o.wr W3
  replace F_name_o := F_name_o.same W3
  replace F_kind_o := F_kind_o.other W3 (Or.inr (slot_ne (Or.inr (hw _ (List.mem_of_getElem? (i := 203) rfl))) (Or.inr (hw _ (List.mem_of_getElem? (i := 201) rfl))) (by decide) (t := (.object "com/example/gridtally/gridtally/determinant/Column$Kind")) (t' := (.object "java/lang/String")) (by decide) (by decide)))
  replace F_values_o := F_values_o.other W3 (Or.inr (slot_ne (Or.inr (hw _ (List.mem_of_getElem? (i := 205) rfl))) (Or.inr (hw _ (List.mem_of_getElem? (i := 201) rfl))) (by decide) (t := (.object "java/util/List")) (t' := (.object "java/lang/String")) (by decide) (by decide)))
  replace E_a := E_a.wr W3
  replace F_ed_a := F_ed_a.other W3 (Or.inl ne_a_o)
  replace F_sz_a := F_sz_a.other W3 (Or.inl ne_a_o)
  replace O0 : Ext Z.heap h3 := ext_wr O0 W3 ge_o
  replace N0 := Fr.snoc X3 N0 ge_o
  replace K0 : Keep h0 h3 [o] := K0.wr W3 (Or.inl (List.mem_of_getElem? (i := 0) rfl))
  refine OEnds.st (S' := T3.setTop (mkF m 16 #[.val (.ref o), .val (.ref nme), .val (.ref kd), .val (.ref r2)] [(.ref kd), (.ref o)])) (fun _ k => ?_) ?_
  · show Steps p.tables e below (T3.setTop (mkF m 14 #[.val (.ref o), .val (.ref nme), .val (.ref kd), .val (.ref r2)] [])) _
    refine XS.aloadN X3.here hx rfl (hb hby d_prog_3_1_14) rfl rfl ?_
    show Steps p.tables e below (T3.setTop (mkF m 15 #[.val (.ref o), .val (.ref nme), .val (.ref kd), .val (.ref r2)] [(.ref o)])) _
    refine XS.aloadN X3.here hx rfl (hb hby d_prog_3_1_15) rfl rfl ?_
    exact k
  obtain ⟨T4, h4, X4, e4, W4, st4⟩ := putF X3 hx hZ hown (host := "") (Or.inl (hw _ (List.mem_of_getElem? (i := 202) rfl))) Via.refl e3 F_kind_o E_o (Or.inr ⟨(hw _ (List.mem_of_getElem? (i := 203) rfl)), rfl, hnm⟩) (hw _ (List.mem_of_getElem? (i := 104) rfl)) (ty := (.object "com/example/gridtally/gridtally/determinant/Column$Kind")) (by decide) rfl rfl (g := (mkF m 16 #[.val (.ref o), .val (.ref nme), .val (.ref kd), .val (.ref r2)] [(.ref kd), (.ref o)])) rfl rfl (hb hby d_prog_3_1_16)
  refine OEnds.st (S' := T4.setTop (mkF m 19 #[.val (.ref o), .val (.ref nme), .val (.ref kd), .val (.ref r2)] [])) st4 ?_
  replace E_o := E_o.wr W4
  replace F_name_o := F_name_o.other W4 (Or.inr (slot_ne (Or.inr (hw _ (List.mem_of_getElem? (i := 201) rfl))) (Or.inr (hw _ (List.mem_of_getElem? (i := 203) rfl))) (by decide) (t := (.object "java/lang/String")) (t' := (.object "com/example/gridtally/gridtally/determinant/Column$Kind")) (by decide) (by decide)))
  replace F_kind_o := F_kind_o.same W4
  replace F_values_o := F_values_o.other W4 (Or.inr (slot_ne (Or.inr (hw _ (List.mem_of_getElem? (i := 205) rfl))) (Or.inr (hw _ (List.mem_of_getElem? (i := 203) rfl))) (by decide) (t := (.object "java/util/List")) (t' := (.object "com/example/gridtally/gridtally/determinant/Column$Kind")) (by decide) (by decide)))
  replace E_a := E_a.wr W4
  replace F_ed_a := F_ed_a.other W4 (Or.inl ne_a_o)
  replace F_sz_a := F_sz_a.other W4 (Or.inl ne_a_o)
  replace O0 : Ext Z.heap h4 := ext_wr O0 W4 ge_o
  replace N0 := Fr.snoc X4 N0 ge_o
  replace K0 : Keep h0 h4 [o] := K0.wr W4 (Or.inl (List.mem_of_getElem? (i := 0) rfl))
  refine OEnds.st (S' := T4.setTop (mkF m 21 #[.val (.ref o), .val (.ref nme), .val (.ref kd), .val (.ref r2)] [(.ref r2), (.ref o)])) (fun _ k => ?_) ?_
  · show Steps p.tables e below (T4.setTop (mkF m 19 #[.val (.ref o), .val (.ref nme), .val (.ref kd), .val (.ref r2)] [])) _
    refine XS.aloadN X4.here hx rfl (hb hby d_prog_3_1_19) rfl rfl ?_
    show Steps p.tables e below (T4.setTop (mkF m 20 #[.val (.ref o), .val (.ref nme), .val (.ref kd), .val (.ref r2)] [(.ref o)])) _
    refine XS.aloadN X4.here hx rfl (hb hby d_prog_3_1_20) rfl rfl ?_
    exact k
  obtain ⟨T5, h5, X5, e5, W5, st5⟩ := putF X4 hx hZ hown (host := "") (Or.inl (hw _ (List.mem_of_getElem? (i := 204) rfl))) Via.refl e4 F_values_o E_o (Or.inr ⟨(hw _ (List.mem_of_getElem? (i := 205) rfl)), rfl, hnm⟩) (hw _ (List.mem_of_getElem? (i := 104) rfl)) (ty := (.object "java/util/List")) (by decide) rfl rfl (g := (mkF m 21 #[.val (.ref o), .val (.ref nme), .val (.ref kd), .val (.ref r2)] [(.ref r2), (.ref o)])) rfl rfl (hb hby d_prog_3_1_21)
  refine OEnds.st (S' := T5.setTop (mkF m 24 #[.val (.ref o), .val (.ref nme), .val (.ref kd), .val (.ref r2)] [])) st5 ?_
  replace E_o := E_o.wr W5
  replace F_name_o := F_name_o.other W5 (Or.inr (slot_ne (Or.inr (hw _ (List.mem_of_getElem? (i := 201) rfl))) (Or.inr (hw _ (List.mem_of_getElem? (i := 205) rfl))) (by decide) (t := (.object "java/lang/String")) (t' := (.object "java/util/List")) (by decide) (by decide)))
  replace F_kind_o := F_kind_o.other W5 (Or.inr (slot_ne (Or.inr (hw _ (List.mem_of_getElem? (i := 203) rfl))) (Or.inr (hw _ (List.mem_of_getElem? (i := 205) rfl))) (by decide) (t := (.object "com/example/gridtally/gridtally/determinant/Column$Kind")) (t' := (.object "java/util/List")) (by decide) (by decide)))
  replace F_values_o := F_values_o.same W5
  replace E_a := E_a.wr W5
  replace F_ed_a := F_ed_a.other W5 (Or.inl ne_a_o)
  replace F_sz_a := F_sz_a.other W5 (Or.inl ne_a_o)
  replace O0 : Ext Z.heap h5 := ext_wr O0 W5 ge_o
  replace N0 := Fr.snoc X5 N0 ge_o
  replace K0 : Keep h0 h5 [o] := K0.wr W5 (Or.inl (List.mem_of_getElem? (i := 0) rfl))
  exact OEnds.retV X5 hx hret hlk (hb hby d_prog_3_1_24) (by decide) (by decide) (by rw [e5]; exact ⟨rfl, N0, K0, E_o, F_kind_o⟩)
-- java/util/ArrayList.isEmpty:()Z
def Q_isEmp1 (Z : State) (a : Addr) (h0 : Heap) (v : Option Value) (h : Heap) (L : List Loc) : Prop := v = some (.int 0) ∧ Fr Z.heap.size L ∧ h = h0
theorem ef_isEmp1 (m : MethodId) (a : Addr) : entryFrame m #[(.ref a)] 1 = mkF m 0 #[.val (.ref a)] [] := by first | (simp [entryFrame, mkF, argsToLocals, Value.category]; done) | rfl
theorem d_jdk_38_9_11 : decode jdk_38_method_9_code 11 = .ok (.iconst 0, 1) := by decide +kernel
set_option maxRecDepth 65536 in
set_option maxHeartbeats 40000000 in
theorem rm_isEmp1 (l : Launch) {Z : State} {a0 : Array Value} (hD : Wd Z a0) (a : Addr) {h0 : Heap} (O0 : Ext Z.heap h0) (F_sz_a : Fld Z h0 a "java/util/ArrayList" "size" "I" (.int (1 : Int32))) :
    Con l Z (⟨"java/util/ArrayList", "isEmpty", "()Z"⟩ : MethodName) jdk_38_method_9_code 1 (some .boolean) [] ({ frames := 0, cells := 0, slots := 0, locals := 0 } : Room) #[(.ref a)] h0 (Q_isEmp1 Z a h0) := by
  refine Con.walk (plainFor_of_name pn_8) ?_
  intro p e s m below meth c T0 X0 hx hZ hby hml hown hnm hret hlk e0
  obtain ⟨hw, ⟨cz, S_CS, hcz⟩, ⟨xde, xkde, S_DE, V_DE⟩, ⟨aEM, S_EM⟩, ⟨aEL, S_EL⟩, ⟨cO, kO, mrO, mir1, mir2, mir3⟩, ⟨k0, k1, k2, k3, k4, S_K0, S_K1, S_K2, S_K3, S_K4, kn0, kn2, kn3, kn4⟩⟩ := id hD
  have N0 := Fr.nil Z.heap.size
  refine OEnds.cast (ef_isEmp1 m a) ?_
  refine OEnds.st (S' := T0.setTop (mkF m 1 #[.val (.ref a)] [(.ref a)])) (fun _ k => ?_) ?_
  · show Steps p.tables e below (T0.setTop (mkF m 0 #[.val (.ref a)] [])) _
    refine XS.aloadN X0.here hx rfl (hb hby d_jdk_38_9_0) rfl rfl ?_
    exact k
  obtain ⟨T1, X1, e1, st1⟩ := getF X0 hx hZ hown (host := "") (Or.inl (hw _ (List.mem_of_getElem? (i := 79) rfl))) Via.refl e0 F_sz_a (g := (mkF m 1 #[.val (.ref a)] [(.ref a)])) rfl rfl (hb hby d_jdk_38_9_1)
  refine OEnds.st (S' := T1.setTop (mkF m 4 #[.val (.ref a)] [(.int (1 : Int32))])) st1 ?_
  refine OEnds.st (S' := T1.setTop (mkF m 12 #[.val (.ref a)] [(.int (0 : Int32))])) (fun _ k => ?_) ?_
  · show Steps p.tables e below (T1.setTop (mkF m 4 #[.val (.ref a)] [(.int (1 : Int32))])) _
    refine XS.ifYes X1.here hx rfl (pc0 := 4) (pc' := 11) rfl (hb hby d_jdk_38_9_4) rfl ((if0 _ _).trans (feq (by decide)).2) (by decide) (by decide) ?_
    show Steps p.tables e below (T1.setTop (mkF m 11 #[.val (.ref a)] [])) _
    refine XS.iconst X1.here hx rfl (hb hby d_jdk_38_9_11) ?_
    exact k
  exact OEnds.ret X1 hx hret hlk (by decide) (Or.inl ⟨rfl, by simp, _, rfl⟩) (hb hby d_jdk_38_9_12) (by decide) (by decide) (by rw [e1]; exact ⟨rfl, N0, rfl⟩)
-- java/util/Arrays.copyOf:([Ljava/lang/Object;ILjava/lang/Class;)[Ljava/lang/Object;
def Q_copy3_1 (Z : State) (d : Addr) (mr : Addr) (k : ClassId) (cO : ClassId) (kO : Class) (x1 : Addr) (h0 : Heap) (v : Option Value) (h : Heap) (L : List Loc) : Prop := ∃ (r : Addr) (kr : ClassId), v = some (.ref r) ∧ Fr Z.heap.size L ∧ Keep h0 h [] ∧ h0.size ≤ r ∧ Arv Z h r kr (.object "java/lang/Object") (1 : Int32) [(.ref x1)] .null
theorem ef_copy3_1 (m : MethodId) (d : Addr) (mr : Addr) : entryFrame m #[(.ref d), (.int (1 : Int32)), (.ref mr)] 4 = mkF m 0 #[.val (.ref d), .val (.int (1 : Int32)), .val (.ref mr), .unset] [] := by first | (simp [entryFrame, mkF, argsToLocals, Value.category]; done) | rfl
theorem pn_14 : plainName "java/util/Arrays" = true := by first | (simp [plainName, overriddenIn]; done) | decide +kernel
theorem d_jdk_65_120_0 : decode jdk_65_method_120_code 0 = .ok (.aload_n 2, 1) := by decide +kernel
theorem d_jdk_65_120_1 : decode jdk_65_method_120_code 1 = .ok (.ldc 110, 2) := by decide +kernel
theorem d_jdk_65_120_3 : decode jdk_65_method_120_code 3 = .ok (.if_acmp .ne 10, 3) := by decide +kernel
theorem d_jdk_65_120_6 : decode jdk_65_method_120_code 6 = .ok (.iload_n 1, 1) := by decide +kernel
theorem d_jdk_65_120_7 : decode jdk_65_method_120_code 7 = .ok (.anewarray 2, 3) := by decide +kernel
theorem d_jdk_65_120_10 : decode jdk_65_method_120_code 10 = .ok (.goto 14, 3) := by decide +kernel
theorem d_jdk_65_120_24 : decode jdk_65_method_120_code 24 = .ok (.astore_n 3, 1) := by decide +kernel
theorem d_jdk_65_120_25 : decode jdk_65_method_120_code 25 = .ok (.aload_n 0, 1) := by decide +kernel
theorem d_jdk_65_120_26 : decode jdk_65_method_120_code 26 = .ok (.iconst 0, 1) := by decide +kernel
theorem d_jdk_65_120_27 : decode jdk_65_method_120_code 27 = .ok (.aload_n 3, 1) := by decide +kernel
theorem d_jdk_65_120_28 : decode jdk_65_method_120_code 28 = .ok (.iconst 0, 1) := by decide +kernel
theorem d_jdk_65_120_29 : decode jdk_65_method_120_code 29 = .ok (.aload_n 0, 1) := by decide +kernel
theorem d_jdk_65_120_30 : decode jdk_65_method_120_code 30 = .ok (.arraylength, 1) := by decide +kernel
theorem d_jdk_65_120_31 : decode jdk_65_method_120_code 31 = .ok (.iload_n 1, 1) := by decide +kernel
theorem d_jdk_65_120_32 : decode jdk_65_method_120_code 32 = .ok (.invokestatic 304, 3) := by decide +kernel
theorem d_jdk_65_120_35 : decode jdk_65_method_120_code 35 = .ok (.invokestatic 150, 3) := by decide +kernel
theorem d_jdk_65_120_38 : decode jdk_65_method_120_code 38 = .ok (.aload_n 3, 1) := by decide +kernel
theorem d_jdk_65_120_39 : decode jdk_65_method_120_code 39 = .ok (.areturn, 1) := by decide +kernel
set_option maxRecDepth 65536 in
set_option maxHeartbeats 40000000 in
theorem rm_copy3_1 (l : Launch) {Z : State} {a0 : Array Value} (hD : Wd Z a0) (d : Addr) (mr : Addr) (k : ClassId) (cO : ClassId) (kO : Class) (x1 : Addr) {h0 : Heap} (O0 : Ext Z.heap h0) (E_d : Exa Z h0 d "[Ljava/lang/Object;") (V_d : Arv Z h0 d k (.object "java/lang/Object") (10 : Int32) [(.ref x1), .null, .null, .null, .null, .null, .null, .null, .null, .null] .null) (E_x1 : Exa Z h0 x1 "java/lang/String") (m1 : Z.vm.findClass "[Ljava/lang/Object;" = some cO) (m2 : Z.vm.classes[cO]? = some kO) (m3 : kO.mirror = some mr) :
    Con l Z (⟨"java/util/Arrays", "copyOf", "([Ljava/lang/Object;ILjava/lang/Class;)[Ljava/lang/Object;"⟩ : MethodName) jdk_65_method_120_code 4 (some (.array (.object "java/lang/Object"))) [] ({ frames := 1, cells := 1, slots := 1, locals := 18 } : Room) #[(.ref d), (.int (1 : Int32)), (.ref mr)] h0 (Q_copy3_1 Z d mr k cO kO x1 h0) := by
  refine Con.walk (plainFor_of_name pn_14) ?_
  intro p e s m below meth c T0 X0 hx hZ hby hml hown hnm hret hlk e0
  obtain ⟨hw, ⟨cz, S_CS, hcz⟩, ⟨xde, xkde, S_DE, V_DE⟩, ⟨aEM, S_EM⟩, ⟨aEL, S_EL⟩, ⟨cO, kO, mrO, mir1, mir2, mir3⟩, ⟨k0, k1, k2, k3, k4, S_K0, S_K1, S_K2, S_K3, S_K4, kn0, kn2, kn3, kn4⟩⟩ := id hD
  have N0 := Fr.nil Z.heap.size
  have K0 : Keep h0 h0 [] := Keep.refl _ _
  refine OEnds.cast (ef_copy3_1 m d mr) ?_
  refine OEnds.st (S' := T0.setTop (mkF m 1 #[.val (.ref d), .val (.int (1 : Int32)), .val (.ref mr), .unset] [(.ref mr)])) (fun _ k => ?_) ?_
  · show Steps p.tables e below (T0.setTop (mkF m 0 #[.val (.ref d), .val (.int (1 : Int32)), .val (.ref mr), .unset] [])) _
    refine XS.aloadN X0.here hx rfl (hb hby d_jdk_65_120_0) rfl rfl ?_
    exact k
  obtain ⟨T1, X1, e1, st1⟩ := ldcM X0 hx hZ hown (hw _ (List.mem_of_getElem? (i := 159) rfl)) e0 m1 m2 m3 (g := (mkF m 1 #[.val (.ref d), .val (.int (1 : Int32)), .val (.ref mr), .unset] [(.ref mr)])) rfl (hb hby d_jdk_65_120_1)
  refine OEnds.st (S' := T1.setTop (mkF m 3 #[.val (.ref d), .val (.int (1 : Int32)), .val (.ref mr), .unset] [(.ref mr), (.ref mr)])) st1 ?_
  refine OEnds.st (S' := T1.setTop (mkF m 7 #[.val (.ref d), .val (.int (1 : Int32)), .val (.ref mr), .unset] [(.int (1 : Int32))])) (fun _ k => ?_) ?_
  · show Steps p.tables e below (T1.setTop (mkF m 3 #[.val (.ref d), .val (.int (1 : Int32)), .val (.ref mr), .unset] [(.ref mr), (.ref mr)])) _
    have hq3 : Jvm.Free.XT.acmp .ne ((.ref mr) : Value) ((.ref mr) : Value) = false := (Jvm.Free.XT.aa_ne_f rfl)
    refine Jvm.Free.XT.acmpNo X1.here hx rfl (hb hby d_jdk_65_120_3) rfl rfl rfl hq3 ?_
    show Steps p.tables e below (T1.setTop (mkF m 6 #[.val (.ref d), .val (.int (1 : Int32)), .val (.ref mr), .unset] [])) _
    refine XS.iloadN X1.here hx rfl (hb hby d_jdk_65_120_6) rfl ?_
    exact k
  obtain ⟨T2, h2, k2, X2, e2, E2, A2, Ex2, Ov2, st2⟩ := newRE X1 hx hZ hown (hw _ (List.mem_of_getElem? (i := 160) rfl)) (hw _ (List.mem_of_getElem? (i := 101) rfl)) e1 (g := (mkF m 7 #[.val (.ref d), .val (.int (1 : Int32)), .val (.ref mr), .unset] [(.int (1 : Int32))])) rfl (hb hby d_jdk_65_120_7) rfl (by decide) (cap := 1) (by decide) (by decide) (by decide) (by decide) (ad := "[Ljava/lang/Object;") (by decide)
  obtain ⟨b2, g2⟩ : ∃ z, z = h0.size := ⟨_, rfl⟩
  rw [← g2] at A2 Ex2 st2
  refine OEnds.st (S' := T2.setTop (mkF m 10 #[.val (.ref d), .val (.int (1 : Int32)), .val (.ref mr), .unset] [(.ref b2)])) st2 ?_
  have ne_d_b2 : d ≠ b2 := Nat.ne_of_lt (Nat.lt_of_lt_of_le E_d.lt (Nat.le_of_eq g2.symm))
  have ne_x1_b2 : x1 ≠ b2 := Nat.ne_of_lt (Nat.lt_of_lt_of_le E_x1.lt (Nat.le_of_eq g2.symm))
  have ge_b2 : Z.heap.size ≤ b2 := Nat.le_trans O0.1 (Nat.le_of_eq g2.symm)
  have sz_b2 : h0.size ≤ b2 := Nat.le_trans K0.1 (Nat.le_of_eq g2.symm)
  replace E_d := E_d.ext E2
  replace V_d := V_d.ext E2
  replace E_x1 := E_x1.ext E2
  replace O0 : Ext Z.heap h2 := ext_trans O0 E2
  replace K0 : Keep h0 h2 [] := K0.ext E2
  have V_b2 : Arv Z h2 b2 k2 (.object "java/lang/Object") (1 : Int32) [.null] .null := (Arv.new A2 (by decide)).pad (pad_rep [] .null 1)
  refine OEnds.st (S' := T2.setTop (mkF m 30 #[.val (.ref d), .val (.int (1 : Int32)), .val (.ref mr), .val (.ref b2)] [(.ref d), (.int (0 : Int32)), (.ref b2), (.int (0 : Int32)), (.ref d)])) (fun _ k => ?_) ?_
  · show Steps p.tables e below (T2.setTop (mkF m 10 #[.val (.ref d), .val (.int (1 : Int32)), .val (.ref mr), .unset] [(.ref b2)])) _
    refine XS.goto X2.here hx rfl (pc0 := 10) (pc' := 24) rfl (hb hby d_jdk_65_120_10) (by decide) (by decide) ?_
    show Steps p.tables e below (T2.setTop (mkF m 24 #[.val (.ref d), .val (.int (1 : Int32)), .val (.ref mr), .unset] [(.ref b2)])) _
    refine XS.astoreN X2.here hx rfl (hb hby d_jdk_65_120_24) rfl rfl (l' := #[.val (.ref d), .val (.int (1 : Int32)), .val (.ref mr), .val (.ref b2)]) rfl ?_
    show Steps p.tables e below (T2.setTop (mkF m 25 #[.val (.ref d), .val (.int (1 : Int32)), .val (.ref mr), .val (.ref b2)] [])) _
    refine XS.aloadN X2.here hx rfl (hb hby d_jdk_65_120_25) rfl rfl ?_
    show Steps p.tables e below (T2.setTop (mkF m 26 #[.val (.ref d), .val (.int (1 : Int32)), .val (.ref mr), .val (.ref b2)] [(.ref d)])) _
    refine XS.iconst X2.here hx rfl (hb hby d_jdk_65_120_26) ?_
    show Steps p.tables e below (T2.setTop (mkF m 27 #[.val (.ref d), .val (.int (1 : Int32)), .val (.ref mr), .val (.ref b2)] [(.int (0 : Int32)), (.ref d)])) _
    refine XS.aloadN X2.here hx rfl (hb hby d_jdk_65_120_27) rfl rfl ?_
    show Steps p.tables e below (T2.setTop (mkF m 28 #[.val (.ref d), .val (.int (1 : Int32)), .val (.ref mr), .val (.ref b2)] [(.ref b2), (.int (0 : Int32)), (.ref d)])) _
    refine XS.iconst X2.here hx rfl (hb hby d_jdk_65_120_28) ?_
    show Steps p.tables e below (T2.setTop (mkF m 29 #[.val (.ref d), .val (.int (1 : Int32)), .val (.ref mr), .val (.ref b2)] [(.int (0 : Int32)), (.ref b2), (.int (0 : Int32)), (.ref d)])) _
    refine XS.aloadN X2.here hx rfl (hb hby d_jdk_65_120_29) rfl rfl ?_
    exact k
  obtain ⟨cl_d_3, Ar_d_3, q_d_3, S_d_3, N_d_3, H_d_3, G_d_3⟩ := id V_d
  refine OEnds.st (S' := T2.setTop (mkF m 31 #[.val (.ref d), .val (.int (1 : Int32)), .val (.ref mr), .val (.ref b2)] [(.int (10 : Int32)), (.int (0 : Int32)), (.ref b2), (.int (0 : Int32)), (.ref d)])) (fun tg kk => X2.arraylength hx (by rw [e2]; exact Ar_d_3.1) (State.isArrayOf_alike hZ.alike Ar_d_3.2.1) (g := (mkF m 30 #[.val (.ref d), .val (.int (1 : Int32)), .val (.ref mr), .val (.ref b2)] [(.ref d), (.int (0 : Int32)), (.ref b2), (.int (0 : Int32)), (.ref d)])) rfl rfl (hb hby d_jdk_65_120_30) tg (by rw [len_of S_d_3 N_d_3]; exact kk)) ?_
  refine OEnds.st (S' := T2.setTop (mkF m 32 #[.val (.ref d), .val (.int (1 : Int32)), .val (.ref mr), .val (.ref b2)] [(.int (1 : Int32)), (.int (10 : Int32)), (.int (0 : Int32)), (.ref b2), (.int (0 : Int32)), (.ref d)])) (fun _ k => ?_) ?_
  · show Steps p.tables e below (T2.setTop (mkF m 31 #[.val (.ref d), .val (.int (1 : Int32)), .val (.ref mr), .val (.ref b2)] [(.int (10 : Int32)), (.int (0 : Int32)), (.ref b2), (.int (0 : Int32)), (.ref d)])) _
    refine XS.iloadN X2.here hx rfl (hb hby d_jdk_65_120_31) rfl ?_
    exact k
  obtain ⟨_, T4, h4, L4, X4, e4, hQ4, st4⟩ := callC X2 hx hZ hown (hw _ (List.mem_of_getElem? (i := 161) rfl)) (hw _ (List.mem_of_getElem? (i := 162) rfl)) (hw _ (List.mem_of_getElem? (i := 98) rfl)) (hw _ (List.mem_of_getElem? (i := 163) rfl)) (by decide) (kc := 0) (ks := 0) (Con.sb (W := 4) (rm_mathMin l hD (10 : Int32) (1 : Int32) O0 (by decide)) hZ (hw _ (List.mem_of_getElem? (i := 163) rfl)) (hw _ (List.mem_of_getElem? (i := 98) rfl)) (by decide) (by decide)) e2 (g := (mkF m 32 #[.val (.ref d), .val (.int (1 : Int32)), .val (.ref mr), .val (.ref b2)] [(.int (1 : Int32)), (.int (10 : Int32)), (.int (0 : Int32)), (.ref b2), (.int (0 : Int32)), (.ref d)])) rfl (by rw [hml]; rfl) (argsL := [(.int (10 : Int32)), (.int (1 : Int32))]) (rest := [(.int (0 : Int32)), (.ref b2), (.int (0 : Int32)), (.ref d)]) (lenOf pd_4 rfl) rfl (by show 2 * 0 + _ ≤ _; exact Nat.le_of_eq rfl) (hb hby d_jdk_65_120_32) (by decide) (by decide)
  obtain ⟨rfl, Nq4, Hq4⟩ := hQ4
  refine OEnds.st (S' := T4.setTop (mkF m 35 #[.val (.ref d), .val (.int (1 : Int32)), .val (.ref mr), .val (.ref b2)] [(.int (1 : Int32)), (.int (0 : Int32)), (.ref b2), (.int (0 : Int32)), (.ref d)])) st4 ?_
  replace N0 := Fr.app N0 Nq4
  replace e4 := e4.trans Hq4
  obtain ⟨cl_d, Ar_d, q_d, -⟩ := id V_b2
  obtain ⟨T5, h5, L5, X5, e5, Nw5, Kq5, V5, st5⟩ := cpA X4 hx hZ hown (hw _ (List.mem_of_getElem? (i := 164) rfl)) (hw _ (List.mem_of_getElem? (i := 167) rfl)) (hw _ (List.mem_of_getElem? (i := 165) rfl)) (hw _ (List.mem_of_getElem? (i := 166) rfl)) e4 V_d V_b2 (us := [(.ref x1)]) (Or.inr ⟨rfl, rfl, ⟨Sto.ofV Ar_d q_d Ov2 (Ins.of_exa E_x1 (hw _ (List.mem_of_getElem? (i := 102) rfl))), trivial⟩⟩) (by decide) (by decide) (by decide) (by decide) (by decide) rfl (Nat.le_of_ble_eq_true rfl) N0 ge_b2 (g := (mkF m 35 #[.val (.ref d), .val (.int (1 : Int32)), .val (.ref mr), .val (.ref b2)] [(.int (1 : Int32)), (.int (0 : Int32)), (.ref b2), (.int (0 : Int32)), (.ref d)])) rfl (by rw [hml]; rfl) rfl (hb hby d_jdk_65_120_35) (by decide) (W := 0) (by show 2 * 0 + _ ≤ _; exact Nat.le_of_eq rfl) (by decide)
  replace N0 := Nw5
  refine OEnds.st (S' := T5.setTop (mkF m 38 #[.val (.ref d), .val (.int (1 : Int32)), .val (.ref mr), .val (.ref b2)] [])) st5 ?_
  replace E_d := E_d.keep Kq5
  replace V_d := V_d.keep Kq5 (ninS ne_d_b2 nin0)
  replace E_x1 := E_x1.keep Kq5
  replace Ex2 := Ex2.keep Kq5
  replace O0 : Ext Z.heap h5 := ext_keep O0 Kq5 (allS ge_b2 all0)
  replace K0 : Keep h0 h5 [] := K0.trans Kq5 (allS (Or.inr sz_b2) all0)
  have V_b2_5 : Arv Z h5 b2 k2 (.object "java/lang/Object") (1 : Int32) [(.ref x1)] .null := V5
  refine OEnds.st (S' := T5.setTop (mkF m 39 #[.val (.ref d), .val (.int (1 : Int32)), .val (.ref mr), .val (.ref b2)] [(.ref b2)])) (fun _ k => ?_) ?_
  · show Steps p.tables e below (T5.setTop (mkF m 38 #[.val (.ref d), .val (.int (1 : Int32)), .val (.ref mr), .val (.ref b2)] [])) _
    refine XS.aloadN X5.here hx rfl (hb hby d_jdk_65_120_38) rfl rfl ?_
    exact k
  exact OEnds.ret X5 hx hret hlk rfl (Or.inr (Or.inr (Or.inr (Or.inr ⟨rfl, rfl, rfl⟩)))) (hb hby d_jdk_65_120_39) (by decide) (by decide) (by rw [e5]; exact ⟨b2, _, rfl, N0, K0, sz_b2, V_b2_5⟩)
-- java/util/Arrays.copyOf:([Ljava/lang/Object;I)[Ljava/lang/Object;
def Q_copy2_1 (Z : State) (d : Addr) (k : ClassId) (x1 : Addr) (h0 : Heap) (v : Option Value) (h : Heap) (L : List Loc) : Prop := ∃ (r : Addr) (kr : ClassId), v = some (.ref r) ∧ Fr Z.heap.size L ∧ Keep h0 h [] ∧ h0.size ≤ r ∧ Arv Z h r kr (.object "java/lang/Object") (1 : Int32) [(.ref x1)] .null
theorem ef_copy2_1 (m : MethodId) (d : Addr) : entryFrame m #[(.ref d), (.int (1 : Int32))] 2 = mkF m 0 #[.val (.ref d), .val (.int (1 : Int32))] [] := by first | (simp [entryFrame, mkF, argsToLocals, Value.category]; done) | rfl
theorem d_jdk_65_119_0 : decode jdk_65_method_119_code 0 = .ok (.aload_n 0, 1) := by decide +kernel
theorem d_jdk_65_119_1 : decode jdk_65_method_119_code 1 = .ok (.iload_n 1, 1) := by decide +kernel
theorem d_jdk_65_119_2 : decode jdk_65_method_119_code 2 = .ok (.aload_n 0, 1) := by decide +kernel
theorem d_jdk_65_119_3 : decode jdk_65_method_119_code 3 = .ok (.invokevirtual 86, 3) := by decide +kernel
theorem d_jdk_65_119_6 : decode jdk_65_method_119_code 6 = .ok (.invokestatic 300, 3) := by decide +kernel
theorem pd_13 : parseMethodDescriptor "([Ljava/lang/Object;ILjava/lang/Class;)[Ljava/lang/Object;" = some ⟨[(.array (.object "java/lang/Object")), .int, (.object "java/lang/Class")], some (.array (.object "java/lang/Object"))⟩ := by decide +kernel
theorem d_jdk_65_119_9 : decode jdk_65_method_119_code 9 = .ok (.areturn, 1) := by decide +kernel
set_option maxRecDepth 65536 in
set_option maxHeartbeats 40000000 in
theorem rm_copy2_1 (l : Launch) {Z : State} {a0 : Array Value} (hD : Wd Z a0) (d : Addr) (k : ClassId) (x1 : Addr) {h0 : Heap} (O0 : Ext Z.heap h0) (E_d : Exa Z h0 d "[Ljava/lang/Object;") (V_d : Arv Z h0 d k (.object "java/lang/Object") (10 : Int32) [(.ref x1), .null, .null, .null, .null, .null, .null, .null, .null, .null] .null) (E_x1 : Exa Z h0 x1 "java/lang/String") :
    Con l Z (⟨"java/util/Arrays", "copyOf", "([Ljava/lang/Object;I)[Ljava/lang/Object;"⟩ : MethodName) jdk_65_method_119_code 2 (some (.array (.object "java/lang/Object"))) [] ({ frames := 2, cells := 1, slots := 1, locals := 33 } : Room) #[(.ref d), (.int (1 : Int32))] h0 (Q_copy2_1 Z d k x1 h0) := by
  refine Con.walk (plainFor_of_name pn_14) ?_
  intro p e s m below meth c T0 X0 hx hZ hby hml hown hnm hret hlk e0
  obtain ⟨hw, ⟨cz, S_CS, hcz⟩, ⟨xde, xkde, S_DE, V_DE⟩, ⟨aEM, S_EM⟩, ⟨aEL, S_EL⟩, ⟨cO, kO, mrO, mir1, mir2, mir3⟩, ⟨k0, k1, k2, k3, k4, S_K0, S_K1, S_K2, S_K3, S_K4, kn0, kn2, kn3, kn4⟩⟩ := id hD
  have N0 := Fr.nil Z.heap.size
  have K0 : Keep h0 h0 [] := Keep.refl _ _
  refine OEnds.cast (ef_copy2_1 m d) ?_
  refine OEnds.st (S' := T0.setTop (mkF m 3 #[.val (.ref d), .val (.int (1 : Int32))] [(.ref d), (.int (1 : Int32)), (.ref d)])) (fun _ k => ?_) ?_
  · show Steps p.tables e below (T0.setTop (mkF m 0 #[.val (.ref d), .val (.int (1 : Int32))] [])) _
    refine XS.aloadN X0.here hx rfl (hb hby d_jdk_65_119_0) rfl rfl ?_
    show Steps p.tables e below (T0.setTop (mkF m 1 #[.val (.ref d), .val (.int (1 : Int32))] [(.ref d)])) _
    refine XS.iloadN X0.here hx rfl (hb hby d_jdk_65_119_1) rfl ?_
    show Steps p.tables e below (T0.setTop (mkF m 2 #[.val (.ref d), .val (.int (1 : Int32))] [(.int (1 : Int32)), (.ref d)])) _
    refine XS.aloadN X0.here hx rfl (hb hby d_jdk_65_119_2) rfl rfl ?_
    exact k
  obtain ⟨T1, X1, e1, st1⟩ := gclsM X0 hx hZ hown (hw _ (List.mem_of_getElem? (i := 150) rfl)) (hw _ (List.mem_of_getElem? (i := 151) rfl)) (hw _ (List.mem_of_getElem? (i := 153) rfl)) (hw _ (List.mem_of_getElem? (i := 152) rfl)) (hw _ (List.mem_of_getElem? (i := 154) rfl)) e0 E_d mir1 mir2 mir3 (g := (mkF m 3 #[.val (.ref d), .val (.int (1 : Int32))] [(.ref d), (.int (1 : Int32)), (.ref d)])) rfl (by rw [hml]; rfl) rfl (hb hby d_jdk_65_119_3) (by decide) (W := 2) (by show 2 * 0 + _ ≤ _; exact Nat.le_of_eq rfl) (by decide)
  refine OEnds.st (S' := T1.setTop (mkF m 6 #[.val (.ref d), .val (.int (1 : Int32))] [(.ref mrO), (.int (1 : Int32)), (.ref d)])) st1 ?_
  obtain ⟨_, T2, h2, L2, X2, e2, hQ2, st2⟩ := callC X1 hx hZ hown (hw _ (List.mem_of_getElem? (i := 156) rfl)) (hw _ (List.mem_of_getElem? (i := 157) rfl)) (hw _ (List.mem_of_getElem? (i := 148) rfl)) (hw _ (List.mem_of_getElem? (i := 158) rfl)) (by decide) (kc := 1) (ks := 1) (Con.sb (W := 0) (rm_copy3_1 l hD d mrO k cO kO x1 O0 E_d V_d E_x1 mir1 mir2 mir3) hZ (hw _ (List.mem_of_getElem? (i := 158) rfl)) (hw _ (List.mem_of_getElem? (i := 148) rfl)) (by decide) (by decide)) e1 (g := (mkF m 6 #[.val (.ref d), .val (.int (1 : Int32))] [(.ref mrO), (.int (1 : Int32)), (.ref d)])) rfl (by rw [hml]; rfl) (argsL := [(.ref d), (.int (1 : Int32)), (.ref mrO)]) (rest := []) (lenOf pd_13 rfl) rfl (by show 2 * 0 + _ ≤ _; exact Nat.le_of_eq rfl) (hb hby d_jdk_65_119_6) (by decide) (by decide)
  obtain ⟨r2, kr2, rfl, Nq2, Kq2, szq2, V2⟩ := hQ2
  refine OEnds.st (S' := T2.setTop (mkF m 9 #[.val (.ref d), .val (.int (1 : Int32))] [(.ref r2)])) st2 ?_
  replace N0 := Fr.app N0 Nq2
  have ne_d_r2 : d ≠ r2 := Nat.ne_of_lt (Nat.lt_of_lt_of_le E_d.lt szq2)
  have ne_x1_r2 : x1 ≠ r2 := Nat.ne_of_lt (Nat.lt_of_lt_of_le E_x1.lt szq2)
  have ge_r2 : Z.heap.size ≤ r2 := Nat.le_trans O0.1 szq2
  have sz_r2 : h0.size ≤ r2 := Nat.le_trans K0.1 szq2
  replace E_d := E_d.keep Kq2
  replace V_d := V_d.keep Kq2 nin0
  replace E_x1 := E_x1.keep Kq2
  replace O0 : Ext Z.heap h2 := ext_keep O0 Kq2 all0
  replace K0 : Keep h0 h2 [] := K0.trans Kq2 all0
  exact OEnds.ret X2 hx hret hlk rfl (Or.inr (Or.inr (Or.inr (Or.inr ⟨rfl, rfl, rfl⟩)))) (hb hby d_jdk_65_119_9) (by decide) (by decide) (by rw [e2]; exact ⟨r2, kr2, rfl, N0, K0, sz_r2, V2⟩)
-- java/util/ArrayList.toArray:()[Ljava/lang/Object;
def Q_toArr1 (Z : State) (a : Addr) (d : Addr) (k : ClassId) (x1 : Addr) (h0 : Heap) (v : Option Value) (h : Heap) (L : List Loc) : Prop := ∃ (r : Addr) (kr : ClassId), v = some (.ref r) ∧ Fr Z.heap.size L ∧ Keep h0 h [] ∧ h0.size ≤ r ∧ Arv Z h r kr (.object "java/lang/Object") (1 : Int32) [(.ref x1)] .null
theorem ef_toArr1 (m : MethodId) (a : Addr) : entryFrame m #[(.ref a)] 1 = mkF m 0 #[.val (.ref a)] [] := by first | (simp [entryFrame, mkF, argsToLocals, Value.category]; done) | rfl
theorem d_jdk_38_16_0 : decode jdk_38_method_16_code 0 = .ok (.aload_n 0, 1) := by decide +kernel
theorem d_jdk_38_16_1 : decode jdk_38_method_16_code 1 = .ok (.getfield 9, 3) := by decide +kernel
theorem d_jdk_38_16_4 : decode jdk_38_method_16_code 4 = .ok (.aload_n 0, 1) := by decide +kernel
theorem d_jdk_38_16_5 : decode jdk_38_method_16_code 5 = .ok (.getfield 48, 3) := by decide +kernel
theorem d_jdk_38_16_8 : decode jdk_38_method_16_code 8 = .ok (.invokestatic 66, 3) := by decide +kernel
theorem pd_14 : parseMethodDescriptor "([Ljava/lang/Object;I)[Ljava/lang/Object;" = some ⟨[(.array (.object "java/lang/Object")), .int], some (.array (.object "java/lang/Object"))⟩ := by decide +kernel
theorem d_jdk_38_16_11 : decode jdk_38_method_16_code 11 = .ok (.areturn, 1) := by decide +kernel
set_option maxRecDepth 65536 in
set_option maxHeartbeats 40000000 in
theorem rm_toArr1 (l : Launch) {Z : State} {a0 : Array Value} (hD : Wd Z a0) (a : Addr) (d : Addr) (k : ClassId) (x1 : Addr) {h0 : Heap} (O0 : Ext Z.heap h0) (F_ed_a : Fld Z h0 a "java/util/ArrayList" "elementData" "[Ljava/lang/Object;" (.ref d)) (F_sz_a : Fld Z h0 a "java/util/ArrayList" "size" "I" (.int (1 : Int32))) (E_d : Exa Z h0 d "[Ljava/lang/Object;") (V_d : Arv Z h0 d k (.object "java/lang/Object") (10 : Int32) [(.ref x1), .null, .null, .null, .null, .null, .null, .null, .null, .null] .null) (E_x1 : Exa Z h0 x1 "java/lang/String") :
    Con l Z (⟨"java/util/ArrayList", "toArray", "()[Ljava/lang/Object;"⟩ : MethodName) jdk_38_method_16_code 1 (some (.array (.object "java/lang/Object"))) [] ({ frames := 3, cells := 1, slots := 1, locals := 46 } : Room) #[(.ref a)] h0 (Q_toArr1 Z a d k x1 h0) := by
  refine Con.walk (plainFor_of_name pn_8) ?_
  intro p e s m below meth c T0 X0 hx hZ hby hml hown hnm hret hlk e0
  obtain ⟨hw, ⟨cz, S_CS, hcz⟩, ⟨xde, xkde, S_DE, V_DE⟩, ⟨aEM, S_EM⟩, ⟨aEL, S_EL⟩, ⟨cO, kO, mrO, mir1, mir2, mir3⟩, ⟨k0, k1, k2, k3, k4, S_K0, S_K1, S_K2, S_K3, S_K4, kn0, kn2, kn3, kn4⟩⟩ := id hD
  have N0 := Fr.nil Z.heap.size
  have K0 : Keep h0 h0 [] := Keep.refl _ _
  refine OEnds.cast (ef_toArr1 m a) ?_
  refine OEnds.st (S' := T0.setTop (mkF m 1 #[.val (.ref a)] [(.ref a)])) (fun _ k => ?_) ?_
  · show Steps p.tables e below (T0.setTop (mkF m 0 #[.val (.ref a)] [])) _
    refine XS.aloadN X0.here hx rfl (hb hby d_jdk_38_16_0) rfl rfl ?_
    exact k
  obtain ⟨T1, X1, e1, st1⟩ := getF X0 hx hZ hown (host := "") (Or.inl (hw _ (List.mem_of_getElem? (i := 56) rfl))) Via.refl e0 F_ed_a (g := (mkF m 1 #[.val (.ref a)] [(.ref a)])) rfl rfl (hb hby d_jdk_38_16_1)
  refine OEnds.st (S' := T1.setTop (mkF m 4 #[.val (.ref a)] [(.ref d)])) st1 ?_
  refine OEnds.st (S' := T1.setTop (mkF m 5 #[.val (.ref a)] [(.ref a), (.ref d)])) (fun _ k => ?_) ?_
  · show Steps p.tables e below (T1.setTop (mkF m 4 #[.val (.ref a)] [(.ref d)])) _
    refine XS.aloadN X1.here hx rfl (hb hby d_jdk_38_16_4) rfl rfl ?_
    exact k
  obtain ⟨T2, X2, e2, st2⟩ := getF X1 hx hZ hown (host := "") (Or.inl (hw _ (List.mem_of_getElem? (i := 79) rfl))) Via.refl e1 F_sz_a (g := (mkF m 5 #[.val (.ref a)] [(.ref a), (.ref d)])) rfl rfl (hb hby d_jdk_38_16_5)
  refine OEnds.st (S' := T2.setTop (mkF m 8 #[.val (.ref a)] [(.int (1 : Int32)), (.ref d)])) st2 ?_
  obtain ⟨_, T3, h3, L3, X3, e3, hQ3, st3⟩ := callC X2 hx hZ hown (hw _ (List.mem_of_getElem? (i := 146) rfl)) (hw _ (List.mem_of_getElem? (i := 147) rfl)) (hw _ (List.mem_of_getElem? (i := 148) rfl)) (hw _ (List.mem_of_getElem? (i := 149) rfl)) (by decide) (kc := 1) (ks := 1) (Con.sb (W := 0) (rm_copy2_1 l hD d k x1 O0 E_d V_d E_x1) hZ (hw _ (List.mem_of_getElem? (i := 149) rfl)) (hw _ (List.mem_of_getElem? (i := 148) rfl)) (by decide) (by decide)) e2 (g := (mkF m 8 #[.val (.ref a)] [(.int (1 : Int32)), (.ref d)])) rfl (by rw [hml]; rfl) (argsL := [(.ref d), (.int (1 : Int32))]) (rest := []) (lenOf pd_14 rfl) rfl (by show 2 * 0 + _ ≤ _; exact Nat.le_of_eq rfl) (hb hby d_jdk_38_16_8) (by decide) (by decide)
  obtain ⟨r3, kr3, rfl, Nq3, Kq3, szq3, V3⟩ := hQ3
  refine OEnds.st (S' := T3.setTop (mkF m 11 #[.val (.ref a)] [(.ref r3)])) st3 ?_
  replace N0 := Fr.app N0 Nq3
  have ne_a_r3 : a ≠ r3 := Nat.ne_of_lt (Nat.lt_of_lt_of_le F_ed_a.lt szq3)
  have ne_d_r3 : d ≠ r3 := Nat.ne_of_lt (Nat.lt_of_lt_of_le E_d.lt szq3)
  have ne_x1_r3 : x1 ≠ r3 := Nat.ne_of_lt (Nat.lt_of_lt_of_le E_x1.lt szq3)
  have ge_r3 : Z.heap.size ≤ r3 := Nat.le_trans O0.1 szq3
  have sz_r3 : h0.size ≤ r3 := Nat.le_trans K0.1 szq3
  replace F_ed_a := F_ed_a.keep Kq3 nin0
  replace F_sz_a := F_sz_a.keep Kq3 nin0
  replace E_d := E_d.keep Kq3
  replace V_d := V_d.keep Kq3 nin0
  replace E_x1 := E_x1.keep Kq3
  replace O0 : Ext Z.heap h3 := ext_keep O0 Kq3 all0
  replace K0 : Keep h0 h3 [] := K0.trans Kq3 all0
  exact OEnds.ret X3 hx hret hlk rfl (Or.inr (Or.inr (Or.inr (Or.inr ⟨rfl, rfl, rfl⟩)))) (hb hby d_jdk_38_16_11) (by decide) (by decide) (by rw [e3]; exact ⟨r3, kr3, rfl, N0, K0, sz_r3, V3⟩)
-- java/util/List.of:([Ljava/lang/Object;)Ljava/util/List;
def Q_listOf1 (Z : State) (t : Addr) (kt : ClassId) (x1 : Addr) (h0 : Heap) (v : Option Value) (h : Heap) (L : List Loc) : Prop := ∃ r : Addr, v = some (.ref r) ∧ Fr Z.heap.size L ∧ Keep h0 h []
theorem ef_listOf1 (m : MethodId) (t : Addr) : entryFrame m #[(.ref t)] 2 = mkF m 0 #[.val (.ref t), .unset] [] := by first | (simp [entryFrame, mkF, argsToLocals, Value.category]; done) | rfl
theorem d_jdk_40_47_0 : decode jdk_40_method_47_code 0 = .ok (.aload_n 0, 1) := by decide +kernel
theorem d_jdk_40_47_1 : decode jdk_40_method_47_code 1 = .ok (.arraylength, 1) := by decide +kernel
theorem d_jdk_40_47_34 : decode jdk_40_method_47_code 34 = .ok (.new 96, 3) := by decide +kernel
theorem d_jdk_40_47_37 : decode jdk_40_method_47_code 37 = .ok (.dup, 1) := by decide +kernel
theorem d_jdk_40_47_38 : decode jdk_40_method_47_code 38 = .ok (.aload_n 0, 1) := by decide +kernel
theorem d_jdk_40_47_39 : decode jdk_40_method_47_code 39 = .ok (.iconst 0, 1) := by decide +kernel
theorem d_jdk_40_47_40 : decode jdk_40_method_47_code 40 = .ok (.aaload, 1) := by decide +kernel
theorem d_jdk_40_47_41 : decode jdk_40_method_47_code 41 = .ok (.invokespecial 98, 3) := by decide +kernel
theorem pd_15 : parseMethodDescriptor "(Ljava/lang/Object;)V" = some ⟨[(.object "java/lang/Object")], none⟩ := by decide +kernel
theorem d_jdk_40_47_44 : decode jdk_40_method_47_code 44 = .ok (.areturn, 1) := by decide +kernel
set_option maxRecDepth 65536 in
set_option maxHeartbeats 40000000 in
theorem rm_listOf1 (l : Launch) {Z : State} {a0 : Array Value} (hD : Wd Z a0) (t : Addr) (kt : ClassId) (x1 : Addr) {h0 : Heap} (O0 : Ext Z.heap h0) (V_t : Arv Z h0 t kt (.object "java/lang/Object") (1 : Int32) [(.ref x1)] .null) (E_x1 : Exa Z h0 x1 "java/lang/String") :
    Con l Z (⟨"java/util/List", "of", "([Ljava/lang/Object;)Ljava/util/List;"⟩ : MethodName) jdk_40_method_47_code 2 (some (.object "java/util/List")) [] ({ frames := 5, cells := 1, slots := 2, locals := 62 } : Room) #[(.ref t)] h0 (Q_listOf1 Z t kt x1 h0) := by
  refine Con.walk (plainFor_of_name pn_12) ?_
  intro p e s m below meth c T0 X0 hx hZ hby hml hown hnm hret hlk e0
  obtain ⟨hw, ⟨cz, S_CS, hcz⟩, ⟨xde, xkde, S_DE, V_DE⟩, ⟨aEM, S_EM⟩, ⟨aEL, S_EL⟩, ⟨cO, kO, mrO, mir1, mir2, mir3⟩, ⟨k0, k1, k2, k3, k4, S_K0, S_K1, S_K2, S_K3, S_K4, kn0, kn2, kn3, kn4⟩⟩ := id hD
  have N0 := Fr.nil Z.heap.size
  have K0 : Keep h0 h0 [] := Keep.refl _ _
  refine OEnds.cast (ef_listOf1 m t) ?_
  refine OEnds.st (S' := T0.setTop (mkF m 1 #[.val (.ref t), .unset] [(.ref t)])) (fun _ k => ?_) ?_
  · show Steps p.tables e below (T0.setTop (mkF m 0 #[.val (.ref t), .unset] [])) _
    refine XS.aloadN X0.here hx rfl (hb hby d_jdk_40_47_0) rfl rfl ?_
    exact k
  obtain ⟨cl_t_1, Ar_t_1, q_t_1, S_t_1, N_t_1, H_t_1, G_t_1⟩ := id V_t
  refine OEnds.st (S' := T0.setTop (mkF m 2 #[.val (.ref t), .unset] [(.int (1 : Int32))])) (fun tg kk => X0.arraylength hx (by rw [e0]; exact Ar_t_1.1) (State.isArrayOf_alike hZ.alike Ar_t_1.2.1) (g := (mkF m 1 #[.val (.ref t), .unset] [(.ref t)])) rfl rfl (hb hby d_jdk_40_47_1) tg (by rw [len_of S_t_1 N_t_1]; exact kk)) ?_
  refine OEnds.st (S' := T0.setTop (mkF m 34 #[.val (.ref t), .unset] [])) (fun _ k => ?_) ?_
  · show Steps p.tables e below (T0.setTop (mkF m 2 #[.val (.ref t), .unset] [(.int (1 : Int32))])) _
    refine XS.tswIn X0.here hx rfl (pc0 := 2) (pc' := 34) rfl (hb hby d_tsw) rfl (by decide) rfl (by decide) (by decide) ?_
    exact k
  obtain ⟨T2, h2, X2, e2, E2, A2, D2, U2, st2⟩ := newO X0 hx hZ hown (hw _ (List.mem_of_getElem? (i := 171) rfl)) (hw _ (List.mem_of_getElem? (i := 172) rfl)) (hw _ (List.mem_of_getElem? (i := 173) rfl)) e0 (g := (mkF m 34 #[.val (.ref t), .unset] [])) rfl (hb hby d_jdk_40_47_34) (by decide) (by decide)
  obtain ⟨b2, g2⟩ : ∃ z, z = h0.size := ⟨_, rfl⟩
  rw [← g2] at A2 D2 U2 st2
  refine OEnds.st (S' := T2.setTop (mkF m 37 #[.val (.ref t), .unset] [(.ref b2)])) st2 ?_
  have ne_t_b2 : t ≠ b2 := Nat.ne_of_lt (Nat.lt_of_lt_of_le V_t.lt (Nat.le_of_eq g2.symm))
  have ne_x1_b2 : x1 ≠ b2 := Nat.ne_of_lt (Nat.lt_of_lt_of_le E_x1.lt (Nat.le_of_eq g2.symm))
  have ge_b2 : Z.heap.size ≤ b2 := Nat.le_trans O0.1 (Nat.le_of_eq g2.symm)
  have sz_b2 : h0.size ≤ b2 := Nat.le_trans K0.1 (Nat.le_of_eq g2.symm)
  replace V_t := V_t.ext E2
  replace E_x1 := E_x1.ext E2
  replace O0 : Ext Z.heap h2 := ext_trans O0 E2
  replace K0 : Keep h0 h2 [] := K0.ext E2
  have F_e0_b2 : Fld Z h2 b2 "java/util/ImmutableCollections$List12" "e0" "Ljava/lang/Object;" .null := D2 (Or.inr (hw _ (List.mem_of_getElem? (i := 197) rfl))) (ty := (.object "java/lang/Object")) (by decide)
  have F_e1_b2 : Fld Z h2 b2 "java/util/ImmutableCollections$List12" "e1" "Ljava/lang/Object;" .null := D2 (Or.inr (hw _ (List.mem_of_getElem? (i := 199) rfl))) (ty := (.object "java/lang/Object")) (by decide)
  refine OEnds.st (S' := T2.setTop (mkF m 40 #[.val (.ref t), .unset] [(.int (0 : Int32)), (.ref t), (.ref b2), (.ref b2)])) (fun _ k => ?_) ?_
  · show Steps p.tables e below (T2.setTop (mkF m 37 #[.val (.ref t), .unset] [(.ref b2)])) _
    refine XS.dup X2.here hx rfl (hb hby d_jdk_40_47_37) rfl rfl ?_
    show Steps p.tables e below (T2.setTop (mkF m 38 #[.val (.ref t), .unset] [(.ref b2), (.ref b2)])) _
    refine XS.aloadN X2.here hx rfl (hb hby d_jdk_40_47_38) rfl rfl ?_
    show Steps p.tables e below (T2.setTop (mkF m 39 #[.val (.ref t), .unset] [(.ref t), (.ref b2), (.ref b2)])) _
    refine XS.iconst X2.here hx rfl (hb hby d_jdk_40_47_39) ?_
    exact k
  obtain ⟨cl_t_3, Ar_t_3, q_t_3, S_t_3, N_t_3, H_t_3, G_t_3⟩ := id V_t
  refine OEnds.st (S' := T2.setTop (mkF m 41 #[.val (.ref t), .unset] [(.ref x1), (.ref b2), (.ref b2)])) (X2.aaload hx (j := (0 : Int32)) (v := (.ref x1)) (by rw [e2]; exact Ar_t_3.1) (State.isArrayOf_alike hZ.alike Ar_t_3.2.1) rfl Ar_t_3.2.2 (inb_of S_t_3 ⟨by decide, by decide⟩) (H_t_3.at (inb_of S_t_3 ⟨by decide, by decide⟩) rfl) (g := (mkF m 40 #[.val (.ref t), .unset] [(.int (0 : Int32)), (.ref t), (.ref b2), (.ref b2)])) rfl rfl (hb hby d_jdk_40_47_40)) ?_
  obtain ⟨_, T4, h4, L4, X4, e4, hQ4, st4⟩ := specC X2 hx hZ rfl hown (hw _ (List.mem_of_getElem? (i := 235) rfl)) (hw _ (List.mem_of_getElem? (i := 236) rfl)) (hw _ (List.mem_of_getElem? (i := 237) rfl)) (by decide) (kc := 0) (ks := 0) (Con.sb (W := 1) (rm_l12a l hD b2 x1 O0 A2 F_e0_b2 F_e1_b2 ge_b2) hZ (hw _ (List.mem_of_getElem? (i := 237) rfl)) (hw _ (List.mem_of_getElem? (i := 173) rfl)) (by decide) (by decide)) e2 (a := b2) (g := (mkF m 41 #[.val (.ref t), .unset] [(.ref x1), (.ref b2), (.ref b2)])) rfl (by rw [hml]; rfl) (argsL := [(.ref x1)]) (rest := [(.ref b2)]) (lenOf pd_15 rfl) rfl (by show 2 * 0 + _ ≤ _; exact Nat.le_of_eq rfl) (hb hby d_jdk_40_47_41) (by decide) (by decide)
  obtain ⟨rfl, Nq4, Kq4⟩ := hQ4
  refine OEnds.st (S' := T4.setTop (mkF m 44 #[.val (.ref t), .unset] [(.ref b2)])) st4 ?_
  replace N0 := Fr.app N0 Nq4
  replace V_t := V_t.keep Kq4 (ninS ne_t_b2 nin0)
  replace E_x1 := E_x1.keep Kq4
  replace A2 := A2.keep Kq4
  replace O0 : Ext Z.heap h4 := ext_keep O0 Kq4 (allS ge_b2 all0)
  replace K0 : Keep h0 h4 [] := K0.trans Kq4 (allS (Or.inr sz_b2) all0)
  exact OEnds.ret X4 hx hret hlk rfl (Or.inr (Or.inr (Or.inr (Or.inr ⟨rfl, rfl, rfl⟩)))) (hb hby d_jdk_40_47_44) (by decide) (by decide) (by rw [e4]; exact ⟨b2, rfl, N0, K0⟩)
-- java/util/ImmutableCollections.listCopy:(Ljava/util/Collection;)Ljava/util/List;
def Q_listCopy1 (Z : State) (a : Addr) (d : Addr) (k : ClassId) (x1 : Addr) (h0 : Heap) (v : Option Value) (h : Heap) (L : List Loc) : Prop := ∃ r : Addr, v = some (.ref r) ∧ Fr Z.heap.size L ∧ Keep h0 h []
theorem ef_listCopy1 (m : MethodId) (a : Addr) : entryFrame m #[(.ref a)] 2 = mkF m 0 #[.val (.ref a), .unset] [] := by first | (simp [entryFrame, mkF, argsToLocals, Value.category]; done) | rfl
theorem d_jdk_56_3_44 : decode jdk_56_method_3_code 44 = .ok (.aload_n 0, 1) := by decide +kernel
theorem d_jdk_56_3_45 : decode jdk_56_method_3_code 45 = .ok (.invokeinterface 30 1, 5) := by decide +kernel
theorem d_jdk_56_3_50 : decode jdk_56_method_3_code 50 = .ok (.invokestatic 34, 3) := by decide +kernel
theorem pd_16 : parseMethodDescriptor "([Ljava/lang/Object;)Ljava/util/List;" = some ⟨[(.array (.object "java/lang/Object"))], some (.object "java/util/List")⟩ := by decide +kernel
theorem d_jdk_56_3_53 : decode jdk_56_method_3_code 53 = .ok (.areturn, 1) := by decide +kernel
set_option maxRecDepth 65536 in
set_option maxHeartbeats 40000000 in
theorem rm_listCopy1 (l : Launch) {Z : State} {a0 : Array Value} (hD : Wd Z a0) (a : Addr) (d : Addr) (k : ClassId) (x1 : Addr) {h0 : Heap} (O0 : Ext Z.heap h0) (E_a : Exa Z h0 a "java/util/ArrayList") (F_ed_a : Fld Z h0 a "java/util/ArrayList" "elementData" "[Ljava/lang/Object;" (.ref d)) (F_sz_a : Fld Z h0 a "java/util/ArrayList" "size" "I" (.int (1 : Int32))) (E_d : Exa Z h0 d "[Ljava/lang/Object;") (V_d : Arv Z h0 d k (.object "java/lang/Object") (10 : Int32) [(.ref x1), .null, .null, .null, .null, .null, .null, .null, .null, .null] .null) (E_x1 : Exa Z h0 x1 "java/lang/String") :
    Con l Z (⟨"java/util/ImmutableCollections", "listCopy", "(Ljava/util/Collection;)Ljava/util/List;"⟩ : MethodName) jdk_56_method_3_code 2 (some (.object "java/util/List")) [] ({ frames := 6, cells := 2, slots := 3, locals := 75 } : Room) #[(.ref a)] h0 (Q_listCopy1 Z a d k x1 h0) := by
  refine Con.walk (plainFor_of_name pn_11) ?_
  intro p e s m below meth c T0 X0 hx hZ hby hml hown hnm hret hlk e0
  obtain ⟨hw, ⟨cz, S_CS, hcz⟩, ⟨xde, xkde, S_DE, V_DE⟩, ⟨aEM, S_EM⟩, ⟨aEL, S_EL⟩, ⟨cO, kO, mrO, mir1, mir2, mir3⟩, ⟨k0, k1, k2, k3, k4, S_K0, S_K1, S_K2, S_K3, S_K4, kn0, kn2, kn3, kn4⟩⟩ := id hD
  have N0 := Fr.nil Z.heap.size
  have K0 : Keep h0 h0 [] := Keep.refl _ _
  refine OEnds.cast (ef_listCopy1 m a) ?_
  refine OEnds.st (S' := T0.setTop (mkF m 1 #[.val (.ref a), .unset] [(.ref a)])) (fun _ k => ?_) ?_
  · show Steps p.tables e below (T0.setTop (mkF m 0 #[.val (.ref a), .unset] [])) _
    refine XS.aloadN X0.here hx rfl (hb hby d_jdk_56_3_0) rfl rfl ?_
    exact k
  obtain ⟨T1, X1, e1, st1⟩ := instNo X0 hx hZ hown (hw _ (List.mem_of_getElem? (i := 123) rfl)) e0 E_a (no12 hw) (g := (mkF m 1 #[.val (.ref a), .unset] [(.ref a)])) rfl rfl (hb hby d_jdk_56_3_1)
  refine OEnds.st (S' := T1.setTop (mkF m 4 #[.val (.ref a), .unset] [(.int (0 : Int32))])) st1 ?_
  refine OEnds.st (S' := T1.setTop (mkF m 8 #[.val (.ref a), .unset] [(.ref a)])) (fun _ k => ?_) ?_
  · show Steps p.tables e below (T1.setTop (mkF m 4 #[.val (.ref a), .unset] [(.int (0 : Int32))])) _
    refine XS.ifNo X1.here hx rfl (hb hby d_jdk_56_3_4) rfl ((if0 _ _).trans (teq (by decide)).2) ?_
    show Steps p.tables e below (T1.setTop (mkF m 7 #[.val (.ref a), .unset] [])) _
    refine XS.aloadN X1.here hx rfl (hb hby d_jdk_56_3_7) rfl rfl ?_
    exact k
  obtain ⟨T2, X2, e2, st2⟩ := instNo X1 hx hZ hown (hw _ (List.mem_of_getElem? (i := 128) rfl)) e1 E_a (noN hw) (g := (mkF m 8 #[.val (.ref a), .unset] [(.ref a)])) rfl rfl (hb hby d_jdk_56_3_8)
  refine OEnds.st (S' := T2.setTop (mkF m 11 #[.val (.ref a), .unset] [(.int (0 : Int32))])) st2 ?_
  refine OEnds.st (S' := T2.setTop (mkF m 32 #[.val (.ref a), .unset] [(.ref a)])) (fun _ k => ?_) ?_
  · show Steps p.tables e below (T2.setTop (mkF m 11 #[.val (.ref a), .unset] [(.int (0 : Int32))])) _
    refine XS.ifYes X2.here hx rfl (pc0 := 11) (pc' := 31) rfl (hb hby d_jdk_56_3_11) rfl ((if0 _ _).trans (teq (by decide)).1) (by decide) (by decide) ?_
    show Steps p.tables e below (T2.setTop (mkF m 31 #[.val (.ref a), .unset] [])) _
    refine XS.aloadN X2.here hx rfl (hb hby d_jdk_56_3_31) rfl rfl ?_
    exact k
  obtain ⟨_, T3, h3, L3, X3, e3, hQ3, st3⟩ := faceC X2 hx hZ (xi := (⟨"java/util/Collection", "isEmpty", "()Z"⟩ : MethodName)) (y := (⟨"java/util/ArrayList", "isEmpty", "()Z"⟩ : MethodName)) hown (hw _ (List.mem_of_getElem? (i := 129) rfl)) (hw _ (List.mem_of_getElem? (i := 130) rfl)) (hw _ (List.mem_of_getElem? (i := 131) rfl)) (hw _ (List.mem_of_getElem? (i := 132) rfl)) (hw _ (List.mem_of_getElem? (i := 133) rfl)) (hw _ (List.mem_of_getElem? (i := 134) rfl)) (hw _ (List.mem_of_getElem? (i := 135) rfl)) (hw _ (List.mem_of_getElem? (i := 136) rfl)) (by decide) (kc := 0) (ks := 0) (Con.sb (W := 0) (rm_isEmp1 l hD a O0 F_sz_a) hZ (hw _ (List.mem_of_getElem? (i := 137) rfl)) (hw _ (List.mem_of_getElem? (i := 36) rfl)) (by decide) (by decide)) e2 E_a (g := (mkF m 32 #[.val (.ref a), .unset] [(.ref a)])) rfl (by rw [hml]; rfl) (argsL := []) (rest := []) (lenOf pd_10 rfl) rfl (by show 2 * 0 + _ ≤ _; exact Nat.le_of_eq rfl) (hb hby d_jdk_56_3_32) (by decide) (by decide)
  obtain ⟨rfl, Nq3, Hq3⟩ := hQ3
  refine OEnds.st (S' := T3.setTop (mkF m 37 #[.val (.ref a), .unset] [(.int (0 : Int32))])) st3 ?_
  replace N0 := Fr.app N0 Nq3
  replace e3 := e3.trans Hq3
  refine OEnds.st (S' := T3.setTop (mkF m 45 #[.val (.ref a), .unset] [(.ref a)])) (fun _ k => ?_) ?_
  · show Steps p.tables e below (T3.setTop (mkF m 37 #[.val (.ref a), .unset] [(.int (0 : Int32))])) _
    refine XS.ifYes X3.here hx rfl (pc0 := 37) (pc' := 44) rfl (hb hby d_jdk_56_3_37) rfl ((if0 _ _).trans (teq (by decide)).1) (by decide) (by decide) ?_
    show Steps p.tables e below (T3.setTop (mkF m 44 #[.val (.ref a), .unset] [])) _
    refine XS.aloadN X3.here hx rfl (hb hby d_jdk_56_3_44) rfl rfl ?_
    exact k
  obtain ⟨_, T4, h4, L4, X4, e4, hQ4, st4⟩ := faceC X3 hx hZ (xi := (⟨"java/util/Collection", "toArray", "()[Ljava/lang/Object;"⟩ : MethodName)) (y := (⟨"java/util/ArrayList", "toArray", "()[Ljava/lang/Object;"⟩ : MethodName)) hown (hw _ (List.mem_of_getElem? (i := 138) rfl)) (hw _ (List.mem_of_getElem? (i := 139) rfl)) (hw _ (List.mem_of_getElem? (i := 140) rfl)) (hw _ (List.mem_of_getElem? (i := 141) rfl)) (hw _ (List.mem_of_getElem? (i := 142) rfl)) (hw _ (List.mem_of_getElem? (i := 143) rfl)) (hw _ (List.mem_of_getElem? (i := 144) rfl)) (hw _ (List.mem_of_getElem? (i := 136) rfl)) (by decide) (kc := 1) (ks := 1) (Con.sb (W := 0) (rm_toArr1 l hD a d k x1 O0 F_ed_a F_sz_a E_d V_d E_x1) hZ (hw _ (List.mem_of_getElem? (i := 145) rfl)) (hw _ (List.mem_of_getElem? (i := 36) rfl)) (by decide) (by decide)) e3 E_a (g := (mkF m 45 #[.val (.ref a), .unset] [(.ref a)])) rfl (by rw [hml]; rfl) (argsL := []) (rest := []) (lenOf pd_6 rfl) rfl (by show 2 * 0 + _ ≤ _; exact Nat.le_of_eq rfl) (hb hby d_jdk_56_3_45) (by decide) (by decide)
  obtain ⟨t4, kt4, rfl, Nq4, Kq4, szq4, V4⟩ := hQ4
  refine OEnds.st (S' := T4.setTop (mkF m 50 #[.val (.ref a), .unset] [(.ref t4)])) st4 ?_
  replace N0 := Fr.app N0 Nq4
  have ne_a_t4 : a ≠ t4 := Nat.ne_of_lt (Nat.lt_of_lt_of_le E_a.lt szq4)
  have ne_d_t4 : d ≠ t4 := Nat.ne_of_lt (Nat.lt_of_lt_of_le E_d.lt szq4)
  have ne_x1_t4 : x1 ≠ t4 := Nat.ne_of_lt (Nat.lt_of_lt_of_le E_x1.lt szq4)
  have ge_t4 : Z.heap.size ≤ t4 := Nat.le_trans O0.1 szq4
  have sz_t4 : h0.size ≤ t4 := Nat.le_trans K0.1 szq4
  replace E_a := E_a.keep Kq4
  replace F_ed_a := F_ed_a.keep Kq4 nin0
  replace F_sz_a := F_sz_a.keep Kq4 nin0
  replace E_d := E_d.keep Kq4
  replace V_d := V_d.keep Kq4 nin0
  replace E_x1 := E_x1.keep Kq4
  replace O0 : Ext Z.heap h4 := ext_keep O0 Kq4 all0
  replace K0 : Keep h0 h4 [] := K0.trans Kq4 all0
  obtain ⟨_, T5, h5, L5, X5, e5, hQ5, st5⟩ := callC X4 hx hZ hown (hw _ (List.mem_of_getElem? (i := 168) rfl)) (hw _ (List.mem_of_getElem? (i := 169) rfl)) (hw _ (List.mem_of_getElem? (i := 117) rfl)) (hw _ (List.mem_of_getElem? (i := 170) rfl)) (by decide) (kc := 1) (ks := 2) (Con.sb (W := 0) (rm_listOf1 l hD t4 kt4 x1 O0 V4 E_x1) hZ (hw _ (List.mem_of_getElem? (i := 170) rfl)) (hw _ (List.mem_of_getElem? (i := 117) rfl)) (by decide) (by decide)) e4 (g := (mkF m 50 #[.val (.ref a), .unset] [(.ref t4)])) rfl (by rw [hml]; rfl) (argsL := [(.ref t4)]) (rest := []) (lenOf pd_16 rfl) rfl (by show 2 * 0 + _ ≤ _; exact Nat.le_of_eq rfl) (hb hby d_jdk_56_3_50) (by decide) (by decide)
  obtain ⟨r5, rfl, Nq5, Kq5⟩ := hQ5
  refine OEnds.st (S' := T5.setTop (mkF m 53 #[.val (.ref a), .unset] [(.ref r5)])) st5 ?_
  replace N0 := Fr.app N0 Nq5
  replace E_a := E_a.keep Kq5
  replace F_ed_a := F_ed_a.keep Kq5 nin0
  replace F_sz_a := F_sz_a.keep Kq5 nin0
  replace E_d := E_d.keep Kq5
  replace V_d := V_d.keep Kq5 nin0
  replace E_x1 := E_x1.keep Kq5
  replace V4 := V4.keep Kq5 nin0
  replace O0 : Ext Z.heap h5 := ext_keep O0 Kq5 all0
  replace K0 : Keep h0 h5 [] := K0.trans Kq5 all0
  exact OEnds.ret X5 hx hret hlk rfl (Or.inr (Or.inr (Or.inr (Or.inr ⟨rfl, rfl, rfl⟩)))) (hb hby d_jdk_56_3_53) (by decide) (by decide) (by rw [e5]; exact ⟨r5, rfl, N0, K0⟩)
-- java/util/List.copyOf:(Ljava/util/Collection;)Ljava/util/List;
def Q_copyOfL1 (Z : State) (a : Addr) (d : Addr) (k : ClassId) (x1 : Addr) (h0 : Heap) (v : Option Value) (h : Heap) (L : List Loc) : Prop := ∃ r : Addr, v = some (.ref r) ∧ Fr Z.heap.size L ∧ Keep h0 h []
theorem ef_copyOfL1 (m : MethodId) (a : Addr) : entryFrame m #[(.ref a)] 1 = mkF m 0 #[.val (.ref a)] [] := by first | (simp [entryFrame, mkF, argsToLocals, Value.category]; done) | rfl
set_option maxRecDepth 65536 in
set_option maxHeartbeats 40000000 in
theorem rm_copyOfL1 (l : Launch) {Z : State} {a0 : Array Value} (hD : Wd Z a0) (a : Addr) (d : Addr) (k : ClassId) (x1 : Addr) {h0 : Heap} (O0 : Ext Z.heap h0) (E_a : Exa Z h0 a "java/util/ArrayList") (F_ed_a : Fld Z h0 a "java/util/ArrayList" "elementData" "[Ljava/lang/Object;" (.ref d)) (F_sz_a : Fld Z h0 a "java/util/ArrayList" "size" "I" (.int (1 : Int32))) (E_d : Exa Z h0 d "[Ljava/lang/Object;") (V_d : Arv Z h0 d k (.object "java/lang/Object") (10 : Int32) [(.ref x1), .null, .null, .null, .null, .null, .null, .null, .null, .null] .null) (E_x1 : Exa Z h0 x1 "java/lang/String") :
    Con l Z (⟨"java/util/List", "copyOf", "(Ljava/util/Collection;)Ljava/util/List;"⟩ : MethodName) jdk_40_method_48_code 1 (some (.object "java/util/List")) [] ({ frames := 7, cells := 2, slots := 3, locals := 88 } : Room) #[(.ref a)] h0 (Q_copyOfL1 Z a d k x1 h0) := by
  refine Con.walk (plainFor_of_name pn_12) ?_
  intro p e s m below meth c T0 X0 hx hZ hby hml hown hnm hret hlk e0
  obtain ⟨hw, ⟨cz, S_CS, hcz⟩, ⟨xde, xkde, S_DE, V_DE⟩, ⟨aEM, S_EM⟩, ⟨aEL, S_EL⟩, ⟨cO, kO, mrO, mir1, mir2, mir3⟩, ⟨k0, k1, k2, k3, k4, S_K0, S_K1, S_K2, S_K3, S_K4, kn0, kn2, kn3, kn4⟩⟩ := id hD
  have N0 := Fr.nil Z.heap.size
  have K0 : Keep h0 h0 [] := Keep.refl _ _
  refine OEnds.cast (ef_copyOfL1 m a) ?_
  refine OEnds.st (S' := T0.setTop (mkF m 1 #[.val (.ref a)] [(.ref a)])) (fun _ k => ?_) ?_
  · show Steps p.tables e below (T0.setTop (mkF m 0 #[.val (.ref a)] [])) _
    refine XS.aloadN X0.here hx rfl (hb hby d_jdk_40_48_0) rfl rfl ?_
    exact k
  obtain ⟨_, T1, h1, L1, X1, e1, hQ1, st1⟩ := callC X0 hx hZ hown (hw _ (List.mem_of_getElem? (i := 119) rfl)) (hw _ (List.mem_of_getElem? (i := 120) rfl)) (hw _ (List.mem_of_getElem? (i := 121) rfl)) (hw _ (List.mem_of_getElem? (i := 122) rfl)) (by decide) (kc := 2) (ks := 3) (Con.sb (W := 0) (rm_listCopy1 l hD a d k x1 O0 E_a F_ed_a F_sz_a E_d V_d E_x1) hZ (hw _ (List.mem_of_getElem? (i := 122) rfl)) (hw _ (List.mem_of_getElem? (i := 121) rfl)) (by decide) (by decide)) e0 (g := (mkF m 1 #[.val (.ref a)] [(.ref a)])) rfl (by rw [hml]; rfl) (argsL := [(.ref a)]) (rest := []) (lenOf pd_12 rfl) rfl (by show 2 * 0 + _ ≤ _; exact Nat.le_of_eq rfl) (hb hby d_jdk_40_48_1) (by decide) (by decide)
  obtain ⟨r1, rfl, Nq1, Kq1⟩ := hQ1
  refine OEnds.st (S' := T1.setTop (mkF m 4 #[.val (.ref a)] [(.ref r1)])) st1 ?_
  replace N0 := Fr.app N0 Nq1
  replace E_a := E_a.keep Kq1
  replace F_ed_a := F_ed_a.keep Kq1 nin0
  replace F_sz_a := F_sz_a.keep Kq1 nin0
  replace E_d := E_d.keep Kq1
  replace V_d := V_d.keep Kq1 nin0
  replace E_x1 := E_x1.keep Kq1
  replace O0 : Ext Z.heap h1 := ext_keep O0 Kq1 all0
  replace K0 : Keep h0 h1 [] := K0.trans Kq1 all0
  exact OEnds.ret X1 hx hret hlk rfl (Or.inr (Or.inr (Or.inr (Or.inr ⟨rfl, rfl, rfl⟩)))) (hb hby d_jdk_40_48_4) (by decide) (by decide) (by rw [e1]; exact ⟨r1, rfl, N0, K0⟩)
-- com/example/gridtally/gridtally/determinant/Column.<init>:(Ljava/lang/String;Lcom/example/gridtally/gridtally/determinant/Column$Kind;Ljava/util/List;)V
def Q_colInit1 (Z : State) (o : Addr) (nme : Addr) (kd : Addr) (a : Addr) (d : Addr) (k : ClassId) (x1 : Addr) (h0 : Heap) (v : Option Value) (h : Heap) (L : List Loc) : Prop := v = none ∧ Fr Z.heap.size L ∧ Keep h0 h [o] ∧ Exa Z h o "com/example/gridtally/gridtally/determinant/Column" ∧ Fld Z h o "com/example/gridtally/gridtally/determinant/Column" "kind" "Lcom/example/gridtally/gridtally/determinant/Column$Kind;" (.ref kd)
theorem ef_colInit1 (m : MethodId) (o : Addr) (nme : Addr) (kd : Addr) (a : Addr) : entryFrame m #[(.ref o), (.ref nme), (.ref kd), (.ref a)] 4 = mkF m 0 #[.val (.ref o), .val (.ref nme), .val (.ref kd), .val (.ref a)] [] := by first | (simp [entryFrame, mkF, argsToLocals, Value.category]; done) | rfl
set_option maxRecDepth 65536 in
set_option maxHeartbeats 40000000 in
theorem rm_colInit1 (l : Launch) {Z : State} {a0 : Array Value} (hD : Wd Z a0) (o : Addr) (nme : Addr) (kd : Addr) (a : Addr) (d : Addr) (k : ClassId) (x1 : Addr) {h0 : Heap} (O0 : Ext Z.heap h0) (E_o : Exa Z h0 o "com/example/gridtally/gridtally/determinant/Column") (F_name_o : Fld Z h0 o "com/example/gridtally/gridtally/determinant/Column" "name" "Ljava/lang/String;" .null) (F_kind_o : Fld Z h0 o "com/example/gridtally/gridtally/determinant/Column" "kind" "Lcom/example/gridtally/gridtally/determinant/Column$Kind;" .null) (F_values_o : Fld Z h0 o "com/example/gridtally/gridtally/determinant/Column" "values" "Ljava/util/List;" .null) (ge_o : Z.heap.size ≤ o) (E_a : Exa Z h0 a "java/util/ArrayList") (F_ed_a : Fld Z h0 a "java/util/ArrayList" "elementData" "[Ljava/lang/Object;" (.ref d)) (F_sz_a : Fld Z h0 a "java/util/ArrayList" "size" "I" (.int (1 : Int32))) (E_d : Exa Z h0 d "[Ljava/lang/Object;") (V_d : Arv Z h0 d k (.object "java/lang/Object") (10 : Int32) [(.ref x1), .null, .null, .null, .null, .null, .null, .null, .null, .null] .null) (E_x1 : Exa Z h0 x1 "java/lang/String") :
    Con l Z (⟨"com/example/gridtally/gridtally/determinant/Column", "<init>", "(Ljava/lang/String;Lcom/example/gridtally/gridtally/determinant/Column$Kind;Ljava/util/List;)V"⟩ : MethodName) prog_3_method_1_code 4 none [] ({ frames := 8, cells := 2, slots := 3, locals := 100 } : Room) #[(.ref o), (.ref nme), (.ref kd), (.ref a)] h0 (Q_colInit1 Z o nme kd a d k x1 h0) := by
  refine Con.walk (plainFor_of_name pn_13) ?_
  intro p e s m below meth c T0 X0 hx hZ hby hml hown hnm hret hlk e0
  obtain ⟨hw, ⟨cz, S_CS, hcz⟩, ⟨xde, xkde, S_DE, V_DE⟩, ⟨aEM, S_EM⟩, ⟨aEL, S_EL⟩, ⟨cO, kO, mrO, mir1, mir2, mir3⟩, ⟨k0, k1, k2, k3, k4, S_K0, S_K1, S_K2, S_K3, S_K4, kn0, kn2, kn3, kn4⟩⟩ := id hD
  have N0 := Fr.nil Z.heap.size
  have K0 : Keep h0 h0 [o] := Keep.refl _ _
  refine OEnds.cast (ef_colInit1 m o nme kd a) ?_
  refine OEnds.st (S' := T0.setTop (mkF m 1 #[.val (.ref o), .val (.ref nme), .val (.ref kd), .val (.ref a)] [(.ref o)])) (fun _ k => ?_) ?_
  · show Steps p.tables e below (T0.setTop (mkF m 0 #[.val (.ref o), .val (.ref nme), .val (.ref kd), .val (.ref a)] [])) _
    refine XS.aloadN X0.here hx rfl (hb hby d_prog_3_1_0) rfl rfl ?_
    exact k
  obtain ⟨_, T1, h1, L1, X1, e1, hQ1, st1⟩ := specC X0 hx hZ rfl hown (hw _ (List.mem_of_getElem? (i := 109) rfl)) (hw _ (List.mem_of_getElem? (i := 110) rfl)) (hw _ (List.mem_of_getElem? (i := 113) rfl)) (by decide) (kc := 0) (ks := 0) (Con.sb (W := 0) (rm_recInit l hD o O0) hZ (hw _ (List.mem_of_getElem? (i := 113) rfl)) (hw _ (List.mem_of_getElem? (i := 112) rfl)) (by decide) (by decide)) e0 (a := o) (g := (mkF m 1 #[.val (.ref o), .val (.ref nme), .val (.ref kd), .val (.ref a)] [(.ref o)])) rfl (by rw [hml]; rfl) (argsL := []) (rest := []) (lenOf pd_3 rfl) rfl (by show 2 * 0 + _ ≤ _; exact Nat.le_of_eq rfl) (hb hby d_prog_3_1_1) (by decide) (by decide)
  obtain ⟨rfl, Nq1, Hq1⟩ := hQ1
  refine OEnds.st (S' := T1.setTop (mkF m 4 #[.val (.ref o), .val (.ref nme), .val (.ref kd), .val (.ref a)] [])) st1 ?_
  replace N0 := Fr.app N0 Nq1
  replace e1 := e1.trans Hq1
  refine OEnds.st (S' := T1.setTop (mkF m 5 #[.val (.ref o), .val (.ref nme), .val (.ref kd), .val (.ref a)] [(.ref a)])) (fun _ k => ?_) ?_
  · show Steps p.tables e below (T1.setTop (mkF m 4 #[.val (.ref o), .val (.ref nme), .val (.ref kd), .val (.ref a)] [])) _
    refine XS.aloadN X1.here hx rfl (hb hby d_prog_3_1_4) rfl rfl ?_
    exact k
  obtain ⟨_, T2, h2, L2, X2, e2, hQ2, st2⟩ := callC X1 hx hZ hown (hw _ (List.mem_of_getElem? (i := 115) rfl)) (hw _ (List.mem_of_getElem? (i := 116) rfl)) (hw _ (List.mem_of_getElem? (i := 117) rfl)) (hw _ (List.mem_of_getElem? (i := 118) rfl)) (by decide) (kc := 2) (ks := 3) (Con.sb (W := 0) (rm_copyOfL1 l hD a d k x1 O0 E_a F_ed_a F_sz_a E_d V_d E_x1) hZ (hw _ (List.mem_of_getElem? (i := 118) rfl)) (hw _ (List.mem_of_getElem? (i := 117) rfl)) (by decide) (by decide)) e1 (g := (mkF m 5 #[.val (.ref o), .val (.ref nme), .val (.ref kd), .val (.ref a)] [(.ref a)])) rfl (by rw [hml]; rfl) (argsL := [(.ref a)]) (rest := []) (lenOf pd_12 rfl) rfl (by show 2 * 0 + _ ≤ _; exact Nat.le_of_eq rfl) (hb hby d_prog_3_1_5) (by decide) (by decide)
  obtain ⟨r2, rfl, Nq2, Kq2⟩ := hQ2
  refine OEnds.st (S' := T2.setTop (mkF m 8 #[.val (.ref o), .val (.ref nme), .val (.ref kd), .val (.ref a)] [(.ref r2)])) st2 ?_
  replace N0 := Fr.app N0 Nq2
  replace E_o := E_o.keep Kq2
  replace F_name_o := F_name_o.keep Kq2 nin0
  replace F_kind_o := F_kind_o.keep Kq2 nin0
  replace F_values_o := F_values_o.keep Kq2 nin0
  replace E_a := E_a.keep Kq2
  replace F_ed_a := F_ed_a.keep Kq2 nin0
  replace F_sz_a := F_sz_a.keep Kq2 nin0
  replace E_d := E_d.keep Kq2
  replace V_d := V_d.keep Kq2 nin0
  replace E_x1 := E_x1.keep Kq2
  replace O0 : Ext Z.heap h2 := ext_keep O0 Kq2 all0
  replace K0 : Keep h0 h2 [o] := K0.trans Kq2 all0
  refine OEnds.st (S' := T2.setTop (mkF m 11 #[.val (.ref o), .val (.ref nme), .val (.ref kd), .val (.ref r2)] [(.ref nme), (.ref o)])) (fun _ k => ?_) ?_
  · show Steps p.tables e below (T2.setTop (mkF m 8 #[.val (.ref o), .val (.ref nme), .val (.ref kd), .val (.ref a)] [(.ref r2)])) _
    refine XS.astoreN X2.here hx rfl (hb hby d_prog_3_1_8) rfl rfl (l' := #[.val (.ref o), .val (.ref nme), .val (.ref kd), .val (.ref r2)]) rfl ?_
    show Steps p.tables e below (T2.setTop (mkF m 9 #[.val (.ref o), .val (.ref nme), .val (.ref kd), .val (.ref r2)] [])) _
    refine XS.aloadN X2.here hx rfl (hb hby d_prog_3_1_9) rfl rfl ?_
    show Steps p.tables e below (T2.setTop (mkF m 10 #[.val (.ref o), .val (.ref nme), .val (.ref kd), .val (.ref r2)] [(.ref o)])) _
    refine XS.aloadN X2.here hx rfl (hb hby d_prog_3_1_10) rfl rfl ?_
    exact k
  have ne_a_o : a ≠ o := ne_exa E_a E_o (by decide)
  have ne_d_o : d ≠ o := ne_exa E_d E_o (by decide)
  have ne_x1_o : x1 ≠ o := ne_exa E_x1 E_o (by decide)
  obtain ⟨T3, h3, X3, e3, W3, st3⟩ := putF X2 hx hZ hown (host := "") (Or.inl (hw _ (List.mem_of_getElem? (i := 200) rfl))) Via.refl e2 F_name_o E_o (Or.inr ⟨(hw _ (List.mem_of_getElem? (i := 201) rfl)), rfl, hnm⟩) (hw _ (List.mem_of_getElem? (i := 104) rfl)) (ty := (.object "java/lang/String")) (by decide) rfl rfl (g := (mkF m 11 #[.val (.ref o), .val (.ref nme), .val (.ref kd), .val (.ref r2)] [(.ref nme), (.ref o)])) rfl rfl (hb hby d_prog_3_1_11)
  refine OEnds.st (S' := T3.setTop (mkF m 14 #[.val (.ref o), .val (.ref nme), .val (.ref kd), .val (.ref r2)] [])) st3 ?_
  replace E_o := E_o.wr W3
  replace F_name_o := F_name_o.same W3
  replace F_kind_o := F_kind_o.other W3 (Or.inr (slot_ne (Or.inr (hw _ (List.mem_of_getElem? (i := 203) rfl))) (Or.inr (hw _ (List.mem_of_getElem? (i := 201) rfl))) (by decide) (t := (.object "com/example/gridtally/gridtally/determinant/Column$Kind")) (t' := (.object "java/lang/String")) (by decide) (by decide)))
  replace F_values_o := F_values_o.other W3 (Or.inr (slot_ne (Or.inr (hw _ (List.mem_of_getElem? (i := 205) rfl))) (Or.inr (hw _ (List.mem_of_getElem? (i := 201) rfl))) (by decide) (t := (.object "java/util/List")) (t' := (.object "java/lang/String")) (by decide) (by decide)))
  replace E_a := E_a.wr W3
  replace F_ed_a := F_ed_a.other W3 (Or.inl ne_a_o)
  replace F_sz_a := F_sz_a.other W3 (Or.inl ne_a_o)
  replace E_d := E_d.wr W3
  replace V_d := V_d.other W3 ne_d_o
  replace E_x1 := E_x1.wr W3
  replace O0 : Ext Z.heap h3 := ext_wr O0 W3 ge_o
  replace N0 := Fr.snoc X3 N0 ge_o
  replace K0 : Keep h0 h3 [o] := K0.wr W3 (Or.inl (List.mem_of_getElem? (i := 0) rfl))
  refine OEnds.st (S' := T3.setTop (mkF m 16 #[.val (.ref o), .val (.ref nme), .val (.ref kd), .val (.ref r2)] [(.ref kd), (.ref o)])) (fun _ k => ?_) ?_
  · show Steps p.tables e below (T3.setTop (mkF m 14 #[.val (.ref o), .val (.ref nme), .val (.ref kd), .val (.ref r2)] [])) _
    refine XS.aloadN X3.here hx rfl (hb hby d_prog_3_1_14) rfl rfl ?_
    show Steps p.tables e below (T3.setTop (mkF m 15 #[.val (.ref o), .val (.ref nme), .val (.ref kd), .val (.ref r2)] [(.ref o)])) _
    refine XS.aloadN X3.here hx rfl (hb hby d_prog_3_1_15) rfl rfl ?_
    exact k
  obtain ⟨T4, h4, X4, e4, W4, st4⟩ := putF X3 hx hZ hown (host := "") (Or.inl (hw _ (List.mem_of_getElem? (i := 202) rfl))) Via.refl e3 F_kind_o E_o (Or.inr ⟨(hw _ (List.mem_of_getElem? (i := 203) rfl)), rfl, hnm⟩) (hw _ (List.mem_of_getElem? (i := 104) rfl)) (ty := (.object "com/example/gridtally/gridtally/determinant/Column$Kind")) (by decide) rfl rfl (g := (mkF m 16 #[.val (.ref o), .val (.ref nme), .val (.ref kd), .val (.ref r2)] [(.ref kd), (.ref o)])) rfl rfl (hb hby d_prog_3_1_16)
  refine OEnds.st (S' := T4.setTop (mkF m 19 #[.val (.ref o), .val (.ref nme), .val (.ref kd), .val (.ref r2)] [])) st4 ?_
  replace E_o := E_o.wr W4
  replace F_name_o := F_name_o.other W4 (Or.inr (slot_ne (Or.inr (hw _ (List.mem_of_getElem? (i := 201) rfl))) (Or.inr (hw _ (List.mem_of_getElem? (i := 203) rfl))) (by decide) (t := (.object "java/lang/String")) (t' := (.object "com/example/gridtally/gridtally/determinant/Column$Kind")) (by decide) (by decide)))
  replace F_kind_o := F_kind_o.same W4
  replace F_values_o := F_values_o.other W4 (Or.inr (slot_ne (Or.inr (hw _ (List.mem_of_getElem? (i := 205) rfl))) (Or.inr (hw _ (List.mem_of_getElem? (i := 203) rfl))) (by decide) (t := (.object "java/util/List")) (t' := (.object "com/example/gridtally/gridtally/determinant/Column$Kind")) (by decide) (by decide)))
  replace E_a := E_a.wr W4
  replace F_ed_a := F_ed_a.other W4 (Or.inl ne_a_o)
  replace F_sz_a := F_sz_a.other W4 (Or.inl ne_a_o)
  replace E_d := E_d.wr W4
  replace V_d := V_d.other W4 ne_d_o
  replace E_x1 := E_x1.wr W4
  replace O0 : Ext Z.heap h4 := ext_wr O0 W4 ge_o
  replace N0 := Fr.snoc X4 N0 ge_o
  replace K0 : Keep h0 h4 [o] := K0.wr W4 (Or.inl (List.mem_of_getElem? (i := 0) rfl))
  refine OEnds.st (S' := T4.setTop (mkF m 21 #[.val (.ref o), .val (.ref nme), .val (.ref kd), .val (.ref r2)] [(.ref r2), (.ref o)])) (fun _ k => ?_) ?_
  · show Steps p.tables e below (T4.setTop (mkF m 19 #[.val (.ref o), .val (.ref nme), .val (.ref kd), .val (.ref r2)] [])) _
    refine XS.aloadN X4.here hx rfl (hb hby d_prog_3_1_19) rfl rfl ?_
    show Steps p.tables e below (T4.setTop (mkF m 20 #[.val (.ref o), .val (.ref nme), .val (.ref kd), .val (.ref r2)] [(.ref o)])) _
    refine XS.aloadN X4.here hx rfl (hb hby d_prog_3_1_20) rfl rfl ?_
    exact k
  obtain ⟨T5, h5, X5, e5, W5, st5⟩ := putF X4 hx hZ hown (host := "") (Or.inl (hw _ (List.mem_of_getElem? (i := 204) rfl))) Via.refl e4 F_values_o E_o (Or.inr ⟨(hw _ (List.mem_of_getElem? (i := 205) rfl)), rfl, hnm⟩) (hw _ (List.mem_of_getElem? (i := 104) rfl)) (ty := (.object "java/util/List")) (by decide) rfl rfl (g := (mkF m 21 #[.val (.ref o), .val (.ref nme), .val (.ref kd), .val (.ref r2)] [(.ref r2), (.ref o)])) rfl rfl (hb hby d_prog_3_1_21)
  refine OEnds.st (S' := T5.setTop (mkF m 24 #[.val (.ref o), .val (.ref nme), .val (.ref kd), .val (.ref r2)] [])) st5 ?_
  replace E_o := E_o.wr W5
  replace F_name_o := F_name_o.other W5 (Or.inr (slot_ne (Or.inr (hw _ (List.mem_of_getElem? (i := 201) rfl))) (Or.inr (hw _ (List.mem_of_getElem? (i := 205) rfl))) (by decide) (t := (.object "java/lang/String")) (t' := (.object "java/util/List")) (by decide) (by decide)))
  replace F_kind_o := F_kind_o.other W5 (Or.inr (slot_ne (Or.inr (hw _ (List.mem_of_getElem? (i := 203) rfl))) (Or.inr (hw _ (List.mem_of_getElem? (i := 205) rfl))) (by decide) (t := (.object "com/example/gridtally/gridtally/determinant/Column$Kind")) (t' := (.object "java/util/List")) (by decide) (by decide)))
  replace F_values_o := F_values_o.same W5
  replace E_a := E_a.wr W5
  replace F_ed_a := F_ed_a.other W5 (Or.inl ne_a_o)
  replace F_sz_a := F_sz_a.other W5 (Or.inl ne_a_o)
  replace E_d := E_d.wr W5
  replace V_d := V_d.other W5 ne_d_o
  replace E_x1 := E_x1.wr W5
  replace O0 : Ext Z.heap h5 := ext_wr O0 W5 ge_o
  replace N0 := Fr.snoc X5 N0 ge_o
  replace K0 : Keep h0 h5 [o] := K0.wr W5 (Or.inl (List.mem_of_getElem? (i := 0) rfl))
  exact OEnds.retV X5 hx hret hlk (hb hby d_prog_3_1_24) (by decide) (by decide) (by rw [e5]; exact ⟨rfl, N0, K0, E_o, F_kind_o⟩)
-- java/util/ArrayList.isEmpty:()Z
def Q_isEmp2 (Z : State) (a : Addr) (h0 : Heap) (v : Option Value) (h : Heap) (L : List Loc) : Prop := v = some (.int 0) ∧ Fr Z.heap.size L ∧ h = h0
theorem ef_isEmp2 (m : MethodId) (a : Addr) : entryFrame m #[(.ref a)] 1 = mkF m 0 #[.val (.ref a)] [] := by first | (simp [entryFrame, mkF, argsToLocals, Value.category]; done) | rfl
set_option maxRecDepth 65536 in
set_option maxHeartbeats 40000000 in
theorem rm_isEmp2 (l : Launch) {Z : State} {a0 : Array Value} (hD : Wd Z a0) (a : Addr) {h0 : Heap} (O0 : Ext Z.heap h0) (F_sz_a : Fld Z h0 a "java/util/ArrayList" "size" "I" (.int (2 : Int32))) :
    Con l Z (⟨"java/util/ArrayList", "isEmpty", "()Z"⟩ : MethodName) jdk_38_method_9_code 1 (some .boolean) [] ({ frames := 0, cells := 0, slots := 0, locals := 0 } : Room) #[(.ref a)] h0 (Q_isEmp2 Z a h0) := by
  refine Con.walk (plainFor_of_name pn_8) ?_
  intro p e s m below meth c T0 X0 hx hZ hby hml hown hnm hret hlk e0
  obtain ⟨hw, ⟨cz, S_CS, hcz⟩, ⟨xde, xkde, S_DE, V_DE⟩, ⟨aEM, S_EM⟩, ⟨aEL, S_EL⟩, ⟨cO, kO, mrO, mir1, mir2, mir3⟩, ⟨k0, k1, k2, k3, k4, S_K0, S_K1, S_K2, S_K3, S_K4, kn0, kn2, kn3, kn4⟩⟩ := id hD
  have N0 := Fr.nil Z.heap.size
  refine OEnds.cast (ef_isEmp2 m a) ?_
  refine OEnds.st (S' := T0.setTop (mkF m 1 #[.val (.ref a)] [(.ref a)])) (fun _ k => ?_) ?_
  · show Steps p.tables e below (T0.setTop (mkF m 0 #[.val (.ref a)] [])) _
    refine XS.aloadN X0.here hx rfl (hb hby d_jdk_38_9_0) rfl rfl ?_
    exact k
  obtain ⟨T1, X1, e1, st1⟩ := getF X0 hx hZ hown (host := "") (Or.inl (hw _ (List.mem_of_getElem? (i := 79) rfl))) Via.refl e0 F_sz_a (g := (mkF m 1 #[.val (.ref a)] [(.ref a)])) rfl rfl (hb hby d_jdk_38_9_1)
  refine OEnds.st (S' := T1.setTop (mkF m 4 #[.val (.ref a)] [(.int (2 : Int32))])) st1 ?_
  refine OEnds.st (S' := T1.setTop (mkF m 12 #[.val (.ref a)] [(.int (0 : Int32))])) (fun _ k => ?_) ?_
  · show Steps p.tables e below (T1.setTop (mkF m 4 #[.val (.ref a)] [(.int (2 : Int32))])) _
    refine XS.ifYes X1.here hx rfl (pc0 := 4) (pc' := 11) rfl (hb hby d_jdk_38_9_4) rfl ((if0 _ _).trans (feq (by decide)).2) (by decide) (by decide) ?_
    show Steps p.tables e below (T1.setTop (mkF m 11 #[.val (.ref a)] [])) _
    refine XS.iconst X1.here hx rfl (hb hby d_jdk_38_9_11) ?_
    exact k
  exact OEnds.ret X1 hx hret hlk (by decide) (Or.inl ⟨rfl, by simp, _, rfl⟩) (hb hby d_jdk_38_9_12) (by decide) (by decide) (by rw [e1]; exact ⟨rfl, N0, rfl⟩)
-- java/util/Arrays.copyOf:([Ljava/lang/Object;ILjava/lang/Class;)[Ljava/lang/Object;
def Q_copy3_2 (Z : State) (d : Addr) (mr : Addr) (k : ClassId) (cO : ClassId) (kO : Class) (x1 : Addr) (x2 : Addr) (h0 : Heap) (v : Option Value) (h : Heap) (L : List Loc) : Prop := ∃ (r : Addr) (kr : ClassId), v = some (.ref r) ∧ Fr Z.heap.size L ∧ Keep h0 h [] ∧ h0.size ≤ r ∧ Arv Z h r kr (.object "java/lang/Object") (2 : Int32) [(.ref x1), (.ref x2)] .null
theorem ef_copy3_2 (m : MethodId) (d : Addr) (mr : Addr) : entryFrame m #[(.ref d), (.int (2 : Int32)), (.ref mr)] 4 = mkF m 0 #[.val (.ref d), .val (.int (2 : Int32)), .val (.ref mr), .unset] [] := by first | (simp [entryFrame, mkF, argsToLocals, Value.category]; done) | rfl
set_option maxRecDepth 65536 in
set_option maxHeartbeats 40000000 in
theorem rm_copy3_2 (l : Launch) {Z : State} {a0 : Array Value} (hD : Wd Z a0) (d : Addr) (mr : Addr) (k : ClassId) (cO : ClassId) (kO : Class) (x1 : Addr) (x2 : Addr) {h0 : Heap} (O0 : Ext Z.heap h0) (E_d : Exa Z h0 d "[Ljava/lang/Object;") (V_d : Arv Z h0 d k (.object "java/lang/Object") (10 : Int32) [(.ref x1), (.ref x2), .null, .null, .null, .null, .null, .null, .null, .null] .null) (E_x1 : Exa Z h0 x1 "java/lang/String") (E_x2 : Exa Z h0 x2 "java/lang/String") (m1 : Z.vm.findClass "[Ljava/lang/Object;" = some cO) (m2 : Z.vm.classes[cO]? = some kO) (m3 : kO.mirror = some mr) :
    Con l Z (⟨"java/util/Arrays", "copyOf", "([Ljava/lang/Object;ILjava/lang/Class;)[Ljava/lang/Object;"⟩ : MethodName) jdk_65_method_120_code 4 (some (.array (.object "java/lang/Object"))) [] ({ frames := 1, cells := 1, slots := 2, locals := 18 } : Room) #[(.ref d), (.int (2 : Int32)), (.ref mr)] h0 (Q_copy3_2 Z d mr k cO kO x1 x2 h0) := by
  refine Con.walk (plainFor_of_name pn_14) ?_
  intro p e s m below meth c T0 X0 hx hZ hby hml hown hnm hret hlk e0
  obtain ⟨hw, ⟨cz, S_CS, hcz⟩, ⟨xde, xkde, S_DE, V_DE⟩, ⟨aEM, S_EM⟩, ⟨aEL, S_EL⟩, ⟨cO, kO, mrO, mir1, mir2, mir3⟩, ⟨k0, k1, k2, k3, k4, S_K0, S_K1, S_K2, S_K3, S_K4, kn0, kn2, kn3, kn4⟩⟩ := id hD
  have N0 := Fr.nil Z.heap.size
  have K0 : Keep h0 h0 [] := Keep.refl _ _
  refine OEnds.cast (ef_copy3_2 m d mr) ?_
  refine OEnds.st (S' := T0.setTop (mkF m 1 #[.val (.ref d), .val (.int (2 : Int32)), .val (.ref mr), .unset] [(.ref mr)])) (fun _ k => ?_) ?_
  · show Steps p.tables e below (T0.setTop (mkF m 0 #[.val (.ref d), .val (.int (2 : Int32)), .val (.ref mr), .unset] [])) _
    refine XS.aloadN X0.here hx rfl (hb hby d_jdk_65_120_0) rfl rfl ?_
    exact k
  obtain ⟨T1, X1, e1, st1⟩ := ldcM X0 hx hZ hown (hw _ (List.mem_of_getElem? (i := 159) rfl)) e0 m1 m2 m3 (g := (mkF m 1 #[.val (.ref d), .val (.int (2 : Int32)), .val (.ref mr), .unset] [(.ref mr)])) rfl (hb hby d_jdk_65_120_1)
  refine OEnds.st (S' := T1.setTop (mkF m 3 #[.val (.ref d), .val (.int (2 : Int32)), .val (.ref mr), .unset] [(.ref mr), (.ref mr)])) st1 ?_
  refine OEnds.st (S' := T1.setTop (mkF m 7 #[.val (.ref d), .val (.int (2 : Int32)), .val (.ref mr), .unset] [(.int (2 : Int32))])) (fun _ k => ?_) ?_
  · show Steps p.tables e below (T1.setTop (mkF m 3 #[.val (.ref d), .val (.int (2 : Int32)), .val (.ref mr), .unset] [(.ref mr), (.ref mr)])) _
    have hq3 : Jvm.Free.XT.acmp .ne ((.ref mr) : Value) ((.ref mr) : Value) = false := (Jvm.Free.XT.aa_ne_f rfl)
    refine Jvm.Free.XT.acmpNo X1.here hx rfl (hb hby d_jdk_65_120_3) rfl rfl rfl hq3 ?_
    show Steps p.tables e below (T1.setTop (mkF m 6 #[.val (.ref d), .val (.int (2 : Int32)), .val (.ref mr), .unset] [])) _
    refine XS.iloadN X1.here hx rfl (hb hby d_jdk_65_120_6) rfl ?_
    exact k
  obtain ⟨T2, h2, k2, X2, e2, E2, A2, Ex2, Ov2, st2⟩ := newRE X1 hx hZ hown (hw _ (List.mem_of_getElem? (i := 160) rfl)) (hw _ (List.mem_of_getElem? (i := 101) rfl)) e1 (g := (mkF m 7 #[.val (.ref d), .val (.int (2 : Int32)), .val (.ref mr), .unset] [(.int (2 : Int32))])) rfl (hb hby d_jdk_65_120_7) rfl (by decide) (cap := 2) (by decide) (by decide) (by decide) (by decide) (ad := "[Ljava/lang/Object;") (by decide)
  obtain ⟨b2, g2⟩ : ∃ z, z = h0.size := ⟨_, rfl⟩
  rw [← g2] at A2 Ex2 st2
  refine OEnds.st (S' := T2.setTop (mkF m 10 #[.val (.ref d), .val (.int (2 : Int32)), .val (.ref mr), .unset] [(.ref b2)])) st2 ?_
  have ne_d_b2 : d ≠ b2 := Nat.ne_of_lt (Nat.lt_of_lt_of_le E_d.lt (Nat.le_of_eq g2.symm))
  have ne_x1_b2 : x1 ≠ b2 := Nat.ne_of_lt (Nat.lt_of_lt_of_le E_x1.lt (Nat.le_of_eq g2.symm))
  have ne_x2_b2 : x2 ≠ b2 := Nat.ne_of_lt (Nat.lt_of_lt_of_le E_x2.lt (Nat.le_of_eq g2.symm))
  have ge_b2 : Z.heap.size ≤ b2 := Nat.le_trans O0.1 (Nat.le_of_eq g2.symm)
  have sz_b2 : h0.size ≤ b2 := Nat.le_trans K0.1 (Nat.le_of_eq g2.symm)
  replace E_d := E_d.ext E2
  replace V_d := V_d.ext E2
  replace E_x1 := E_x1.ext E2
  replace E_x2 := E_x2.ext E2
  replace O0 : Ext Z.heap h2 := ext_trans O0 E2
  replace K0 : Keep h0 h2 [] := K0.ext E2
  have V_b2 : Arv Z h2 b2 k2 (.object "java/lang/Object") (2 : Int32) [.null, .null] .null := (Arv.new A2 (by decide)).pad (pad_rep [] .null 2)
  refine OEnds.st (S' := T2.setTop (mkF m 30 #[.val (.ref d), .val (.int (2 : Int32)), .val (.ref mr), .val (.ref b2)] [(.ref d), (.int (0 : Int32)), (.ref b2), (.int (0 : Int32)), (.ref d)])) (fun _ k => ?_) ?_
  · show Steps p.tables e below (T2.setTop (mkF m 10 #[.val (.ref d), .val (.int (2 : Int32)), .val (.ref mr), .unset] [(.ref b2)])) _
    refine XS.goto X2.here hx rfl (pc0 := 10) (pc' := 24) rfl (hb hby d_jdk_65_120_10) (by decide) (by decide) ?_
    show Steps p.tables e below (T2.setTop (mkF m 24 #[.val (.ref d), .val (.int (2 : Int32)), .val (.ref mr), .unset] [(.ref b2)])) _
    refine XS.astoreN X2.here hx rfl (hb hby d_jdk_65_120_24) rfl rfl (l' := #[.val (.ref d), .val (.int (2 : Int32)), .val (.ref mr), .val (.ref b2)]) rfl ?_
    show Steps p.tables e below (T2.setTop (mkF m 25 #[.val (.ref d), .val (.int (2 : Int32)), .val (.ref mr), .val (.ref b2)] [])) _
    refine XS.aloadN X2.here hx rfl (hb hby d_jdk_65_120_25) rfl rfl ?_
    show Steps p.tables e below (T2.setTop (mkF m 26 #[.val (.ref d), .val (.int (2 : Int32)), .val (.ref mr), .val (.ref b2)] [(.ref d)])) _
    refine XS.iconst X2.here hx rfl (hb hby d_jdk_65_120_26) ?_
    show Steps p.tables e below (T2.setTop (mkF m 27 #[.val (.ref d), .val (.int (2 : Int32)), .val (.ref mr), .val (.ref b2)] [(.int (0 : Int32)), (.ref d)])) _
    refine XS.aloadN X2.here hx rfl (hb hby d_jdk_65_120_27) rfl rfl ?_
    show Steps p.tables e below (T2.setTop (mkF m 28 #[.val (.ref d), .val (.int (2 : Int32)), .val (.ref mr), .val (.ref b2)] [(.ref b2), (.int (0 : Int32)), (.ref d)])) _
    refine XS.iconst X2.here hx rfl (hb hby d_jdk_65_120_28) ?_
    show Steps p.tables e below (T2.setTop (mkF m 29 #[.val (.ref d), .val (.int (2 : Int32)), .val (.ref mr), .val (.ref b2)] [(.int (0 : Int32)), (.ref b2), (.int (0 : Int32)), (.ref d)])) _
    refine XS.aloadN X2.here hx rfl (hb hby d_jdk_65_120_29) rfl rfl ?_
    exact k
  obtain ⟨cl_d_3, Ar_d_3, q_d_3, S_d_3, N_d_3, H_d_3, G_d_3⟩ := id V_d
  refine OEnds.st (S' := T2.setTop (mkF m 31 #[.val (.ref d), .val (.int (2 : Int32)), .val (.ref mr), .val (.ref b2)] [(.int (10 : Int32)), (.int (0 : Int32)), (.ref b2), (.int (0 : Int32)), (.ref d)])) (fun tg kk => X2.arraylength hx (by rw [e2]; exact Ar_d_3.1) (State.isArrayOf_alike hZ.alike Ar_d_3.2.1) (g := (mkF m 30 #[.val (.ref d), .val (.int (2 : Int32)), .val (.ref mr), .val (.ref b2)] [(.ref d), (.int (0 : Int32)), (.ref b2), (.int (0 : Int32)), (.ref d)])) rfl rfl (hb hby d_jdk_65_120_30) tg (by rw [len_of S_d_3 N_d_3]; exact kk)) ?_
  refine OEnds.st (S' := T2.setTop (mkF m 32 #[.val (.ref d), .val (.int (2 : Int32)), .val (.ref mr), .val (.ref b2)] [(.int (2 : Int32)), (.int (10 : Int32)), (.int (0 : Int32)), (.ref b2), (.int (0 : Int32)), (.ref d)])) (fun _ k => ?_) ?_
  · show Steps p.tables e below (T2.setTop (mkF m 31 #[.val (.ref d), .val (.int (2 : Int32)), .val (.ref mr), .val (.ref b2)] [(.int (10 : Int32)), (.int (0 : Int32)), (.ref b2), (.int (0 : Int32)), (.ref d)])) _
    refine XS.iloadN X2.here hx rfl (hb hby d_jdk_65_120_31) rfl ?_
    exact k
  obtain ⟨_, T4, h4, L4, X4, e4, hQ4, st4⟩ := callC X2 hx hZ hown (hw _ (List.mem_of_getElem? (i := 161) rfl)) (hw _ (List.mem_of_getElem? (i := 162) rfl)) (hw _ (List.mem_of_getElem? (i := 98) rfl)) (hw _ (List.mem_of_getElem? (i := 163) rfl)) (by decide) (kc := 0) (ks := 0) (Con.sb (W := 4) (rm_mathMin l hD (10 : Int32) (2 : Int32) O0 (by decide)) hZ (hw _ (List.mem_of_getElem? (i := 163) rfl)) (hw _ (List.mem_of_getElem? (i := 98) rfl)) (by decide) (by decide)) e2 (g := (mkF m 32 #[.val (.ref d), .val (.int (2 : Int32)), .val (.ref mr), .val (.ref b2)] [(.int (2 : Int32)), (.int (10 : Int32)), (.int (0 : Int32)), (.ref b2), (.int (0 : Int32)), (.ref d)])) rfl (by rw [hml]; rfl) (argsL := [(.int (10 : Int32)), (.int (2 : Int32))]) (rest := [(.int (0 : Int32)), (.ref b2), (.int (0 : Int32)), (.ref d)]) (lenOf pd_4 rfl) rfl (by show 2 * 0 + _ ≤ _; exact Nat.le_of_eq rfl) (hb hby d_jdk_65_120_32) (by decide) (by decide)
  obtain ⟨rfl, Nq4, Hq4⟩ := hQ4
  refine OEnds.st (S' := T4.setTop (mkF m 35 #[.val (.ref d), .val (.int (2 : Int32)), .val (.ref mr), .val (.ref b2)] [(.int (2 : Int32)), (.int (0 : Int32)), (.ref b2), (.int (0 : Int32)), (.ref d)])) st4 ?_
  replace N0 := Fr.app N0 Nq4
  replace e4 := e4.trans Hq4
  obtain ⟨cl_d, Ar_d, q_d, -⟩ := id V_b2
  obtain ⟨T5, h5, L5, X5, e5, Nw5, Kq5, V5, st5⟩ := cpA X4 hx hZ hown (hw _ (List.mem_of_getElem? (i := 164) rfl)) (hw _ (List.mem_of_getElem? (i := 167) rfl)) (hw _ (List.mem_of_getElem? (i := 165) rfl)) (hw _ (List.mem_of_getElem? (i := 166) rfl)) e4 V_d V_b2 (us := [(.ref x1), (.ref x2)]) (Or.inr ⟨rfl, rfl, ⟨Sto.ofV Ar_d q_d Ov2 (Ins.of_exa E_x1 (hw _ (List.mem_of_getElem? (i := 102) rfl))), Sto.ofV Ar_d q_d Ov2 (Ins.of_exa E_x2 (hw _ (List.mem_of_getElem? (i := 102) rfl))), trivial⟩⟩) (by decide) (by decide) (by decide) (by decide) (by decide) rfl (Nat.le_of_ble_eq_true rfl) N0 ge_b2 (g := (mkF m 35 #[.val (.ref d), .val (.int (2 : Int32)), .val (.ref mr), .val (.ref b2)] [(.int (2 : Int32)), (.int (0 : Int32)), (.ref b2), (.int (0 : Int32)), (.ref d)])) rfl (by rw [hml]; rfl) rfl (hb hby d_jdk_65_120_35) (by decide) (W := 0) (by show 2 * 0 + _ ≤ _; exact Nat.le_of_eq rfl) (by decide)
  replace N0 := Nw5
  refine OEnds.st (S' := T5.setTop (mkF m 38 #[.val (.ref d), .val (.int (2 : Int32)), .val (.ref mr), .val (.ref b2)] [])) st5 ?_
  replace E_d := E_d.keep Kq5
  replace V_d := V_d.keep Kq5 (ninS ne_d_b2 nin0)
  replace E_x1 := E_x1.keep Kq5
  replace E_x2 := E_x2.keep Kq5
  replace Ex2 := Ex2.keep Kq5
  replace O0 : Ext Z.heap h5 := ext_keep O0 Kq5 (allS ge_b2 all0)
  replace K0 : Keep h0 h5 [] := K0.trans Kq5 (allS (Or.inr sz_b2) all0)
  have V_b2_5 : Arv Z h5 b2 k2 (.object "java/lang/Object") (2 : Int32) [(.ref x1), (.ref x2)] .null := V5
  refine OEnds.st (S' := T5.setTop (mkF m 39 #[.val (.ref d), .val (.int (2 : Int32)), .val (.ref mr), .val (.ref b2)] [(.ref b2)])) (fun _ k => ?_) ?_
  · show Steps p.tables e below (T5.setTop (mkF m 38 #[.val (.ref d), .val (.int (2 : Int32)), .val (.ref mr), .val (.ref b2)] [])) _
    refine XS.aloadN X5.here hx rfl (hb hby d_jdk_65_120_38) rfl rfl ?_
    exact k
  exact OEnds.ret X5 hx hret hlk rfl (Or.inr (Or.inr (Or.inr (Or.inr ⟨rfl, rfl, rfl⟩)))) (hb hby d_jdk_65_120_39) (by decide) (by decide) (by rw [e5]; exact ⟨b2, _, rfl, N0, K0, sz_b2, V_b2_5⟩)
-- java/util/Arrays.copyOf:([Ljava/lang/Object;I)[Ljava/lang/Object;
def Q_copy2_2 (Z : State) (d : Addr) (k : ClassId) (x1 : Addr) (x2 : Addr) (h0 : Heap) (v : Option Value) (h : Heap) (L : List Loc) : Prop := ∃ (r : Addr) (kr : ClassId), v = some (.ref r) ∧ Fr Z.heap.size L ∧ Keep h0 h [] ∧ h0.size ≤ r ∧ Arv Z h r kr (.object "java/lang/Object") (2 : Int32) [(.ref x1), (.ref x2)] .null
theorem ef_copy2_2 (m : MethodId) (d : Addr) : entryFrame m #[(.ref d), (.int (2 : Int32))] 2 = mkF m 0 #[.val (.ref d), .val (.int (2 : Int32))] [] := by first | (simp [entryFrame, mkF, argsToLocals, Value.category]; done) | rfl
set_option maxRecDepth 65536 in
set_option maxHeartbeats 40000000 in
theorem rm_copy2_2 (l : Launch) {Z : State} {a0 : Array Value} (hD : Wd Z a0) (d : Addr) (k : ClassId) (x1 : Addr) (x2 : Addr) {h0 : Heap} (O0 : Ext Z.heap h0) (E_d : Exa Z h0 d "[Ljava/lang/Object;") (V_d : Arv Z h0 d k (.object "java/lang/Object") (10 : Int32) [(.ref x1), (.ref x2), .null, .null, .null, .null, .null, .null, .null, .null] .null) (E_x1 : Exa Z h0 x1 "java/lang/String") (E_x2 : Exa Z h0 x2 "java/lang/String") :
    Con l Z (⟨"java/util/Arrays", "copyOf", "([Ljava/lang/Object;I)[Ljava/lang/Object;"⟩ : MethodName) jdk_65_method_119_code 2 (some (.array (.object "java/lang/Object"))) [] ({ frames := 2, cells := 1, slots := 2, locals := 33 } : Room) #[(.ref d), (.int (2 : Int32))] h0 (Q_copy2_2 Z d k x1 x2 h0) := by
  refine Con.walk (plainFor_of_name pn_14) ?_
  intro p e s m below meth c T0 X0 hx hZ hby hml hown hnm hret hlk e0
  obtain ⟨hw, ⟨cz, S_CS, hcz⟩, ⟨xde, xkde, S_DE, V_DE⟩, ⟨aEM, S_EM⟩, ⟨aEL, S_EL⟩, ⟨cO, kO, mrO, mir1, mir2, mir3⟩, ⟨k0, k1, k2, k3, k4, S_K0, S_K1, S_K2, S_K3, S_K4, kn0, kn2, kn3, kn4⟩⟩ := id hD
  have N0 := Fr.nil Z.heap.size
  have K0 : Keep h0 h0 [] := Keep.refl _ _
  refine OEnds.cast (ef_copy2_2 m d) ?_
  refine OEnds.st (S' := T0.setTop (mkF m 3 #[.val (.ref d), .val (.int (2 : Int32))] [(.ref d), (.int (2 : Int32)), (.ref d)])) (fun _ k => ?_) ?_
  · show Steps p.tables e below (T0.setTop (mkF m 0 #[.val (.ref d), .val (.int (2 : Int32))] [])) _
    refine XS.aloadN X0.here hx rfl (hb hby d_jdk_65_119_0) rfl rfl ?_
    show Steps p.tables e below (T0.setTop (mkF m 1 #[.val (.ref d), .val (.int (2 : Int32))] [(.ref d)])) _
    refine XS.iloadN X0.here hx rfl (hb hby d_jdk_65_119_1) rfl ?_
    show Steps p.tables e below (T0.setTop (mkF m 2 #[.val (.ref d), .val (.int (2 : Int32))] [(.int (2 : Int32)), (.ref d)])) _
    refine XS.aloadN X0.here hx rfl (hb hby d_jdk_65_119_2) rfl rfl ?_
    exact k
  obtain ⟨T1, X1, e1, st1⟩ := gclsM X0 hx hZ hown (hw _ (List.mem_of_getElem? (i := 150) rfl)) (hw _ (List.mem_of_getElem? (i := 151) rfl)) (hw _ (List.mem_of_getElem? (i := 153) rfl)) (hw _ (List.mem_of_getElem? (i := 152) rfl)) (hw _ (List.mem_of_getElem? (i := 154) rfl)) e0 E_d mir1 mir2 mir3 (g := (mkF m 3 #[.val (.ref d), .val (.int (2 : Int32))] [(.ref d), (.int (2 : Int32)), (.ref d)])) rfl (by rw [hml]; rfl) rfl (hb hby d_jdk_65_119_3) (by decide) (W := 2) (by show 2 * 0 + _ ≤ _; exact Nat.le_of_eq rfl) (by decide)
  refine OEnds.st (S' := T1.setTop (mkF m 6 #[.val (.ref d), .val (.int (2 : Int32))] [(.ref mrO), (.int (2 : Int32)), (.ref d)])) st1 ?_
  obtain ⟨_, T2, h2, L2, X2, e2, hQ2, st2⟩ := callC X1 hx hZ hown (hw _ (List.mem_of_getElem? (i := 156) rfl)) (hw _ (List.mem_of_getElem? (i := 157) rfl)) (hw _ (List.mem_of_getElem? (i := 148) rfl)) (hw _ (List.mem_of_getElem? (i := 158) rfl)) (by decide) (kc := 1) (ks := 2) (Con.sb (W := 0) (rm_copy3_2 l hD d mrO k cO kO x1 x2 O0 E_d V_d E_x1 E_x2 mir1 mir2 mir3) hZ (hw _ (List.mem_of_getElem? (i := 158) rfl)) (hw _ (List.mem_of_getElem? (i := 148) rfl)) (by decide) (by decide)) e1 (g := (mkF m 6 #[.val (.ref d), .val (.int (2 : Int32))] [(.ref mrO), (.int (2 : Int32)), (.ref d)])) rfl (by rw [hml]; rfl) (argsL := [(.ref d), (.int (2 : Int32)), (.ref mrO)]) (rest := []) (lenOf pd_13 rfl) rfl (by show 2 * 0 + _ ≤ _; exact Nat.le_of_eq rfl) (hb hby d_jdk_65_119_6) (by decide) (by decide)
  obtain ⟨r2, kr2, rfl, Nq2, Kq2, szq2, V2⟩ := hQ2
  refine OEnds.st (S' := T2.setTop (mkF m 9 #[.val (.ref d), .val (.int (2 : Int32))] [(.ref r2)])) st2 ?_
  replace N0 := Fr.app N0 Nq2
  have ne_d_r2 : d ≠ r2 := Nat.ne_of_lt (Nat.lt_of_lt_of_le E_d.lt szq2)
  have ne_x1_r2 : x1 ≠ r2 := Nat.ne_of_lt (Nat.lt_of_lt_of_le E_x1.lt szq2)
  have ne_x2_r2 : x2 ≠ r2 := Nat.ne_of_lt (Nat.lt_of_lt_of_le E_x2.lt szq2)
  have ge_r2 : Z.heap.size ≤ r2 := Nat.le_trans O0.1 szq2
  have sz_r2 : h0.size ≤ r2 := Nat.le_trans K0.1 szq2
  replace E_d := E_d.keep Kq2
  replace V_d := V_d.keep Kq2 nin0
  replace E_x1 := E_x1.keep Kq2
  replace E_x2 := E_x2.keep Kq2
  replace O0 : Ext Z.heap h2 := ext_keep O0 Kq2 all0
  replace K0 : Keep h0 h2 [] := K0.trans Kq2 all0
  exact OEnds.ret X2 hx hret hlk rfl (Or.inr (Or.inr (Or.inr (Or.inr ⟨rfl, rfl, rfl⟩)))) (hb hby d_jdk_65_119_9) (by decide) (by decide) (by rw [e2]; exact ⟨r2, kr2, rfl, N0, K0, sz_r2, V2⟩)
-- java/util/ArrayList.toArray:()[Ljava/lang/Object;
def Q_toArr2 (Z : State) (a : Addr) (d : Addr) (k : ClassId) (x1 : Addr) (x2 : Addr) (h0 : Heap) (v : Option Value) (h : Heap) (L : List Loc) : Prop := ∃ (r : Addr) (kr : ClassId), v = some (.ref r) ∧ Fr Z.heap.size L ∧ Keep h0 h [] ∧ h0.size ≤ r ∧ Arv Z h r kr (.object "java/lang/Object") (2 : Int32) [(.ref x1), (.ref x2)] .null
theorem ef_toArr2 (m : MethodId) (a : Addr) : entryFrame m #[(.ref a)] 1 = mkF m 0 #[.val (.ref a)] [] := by first | (simp [entryFrame, mkF, argsToLocals, Value.category]; done) | rfl
set_option maxRecDepth 65536 in
set_option maxHeartbeats 40000000 in
theorem rm_toArr2 (l : Launch) {Z : State} {a0 : Array Value} (hD : Wd Z a0) (a : Addr) (d : Addr) (k : ClassId) (x1 : Addr) (x2 : Addr) {h0 : Heap} (O0 : Ext Z.heap h0) (F_ed_a : Fld Z h0 a "java/util/ArrayList" "elementData" "[Ljava/lang/Object;" (.ref d)) (F_sz_a : Fld Z h0 a "java/util/ArrayList" "size" "I" (.int (2 : Int32))) (E_d : Exa Z h0 d "[Ljava/lang/Object;") (V_d : Arv Z h0 d k (.object "java/lang/Object") (10 : Int32) [(.ref x1), (.ref x2), .null, .null, .null, .null, .null, .null, .null, .null] .null) (E_x1 : Exa Z h0 x1 "java/lang/String") (E_x2 : Exa Z h0 x2 "java/lang/String") :
    Con l Z (⟨"java/util/ArrayList", "toArray", "()[Ljava/lang/Object;"⟩ : MethodName) jdk_38_method_16_code 1 (some (.array (.object "java/lang/Object"))) [] ({ frames := 3, cells := 1, slots := 2, locals := 46 } : Room) #[(.ref a)] h0 (Q_toArr2 Z a d k x1 x2 h0) := by
  refine Con.walk (plainFor_of_name pn_8) ?_
  intro p e s m below meth c T0 X0 hx hZ hby hml hown hnm hret hlk e0
  obtain ⟨hw, ⟨cz, S_CS, hcz⟩, ⟨xde, xkde, S_DE, V_DE⟩, ⟨aEM, S_EM⟩, ⟨aEL, S_EL⟩, ⟨cO, kO, mrO, mir1, mir2, mir3⟩, ⟨k0, k1, k2, k3, k4, S_K0, S_K1, S_K2, S_K3, S_K4, kn0, kn2, kn3, kn4⟩⟩ := id hD
  have N0 := Fr.nil Z.heap.size
  have K0 : Keep h0 h0 [] := Keep.refl _ _
  refine OEnds.cast (ef_toArr2 m a) ?_
  refine OEnds.st (S' := T0.setTop (mkF m 1 #[.val (.ref a)] [(.ref a)])) (fun _ k => ?_) ?_
  · show Steps p.tables e below (T0.setTop (mkF m 0 #[.val (.ref a)] [])) _
    refine XS.aloadN X0.here hx rfl (hb hby d_jdk_38_16_0) rfl rfl ?_
    exact k
  obtain ⟨T1, X1, e1, st1⟩ := getF X0 hx hZ hown (host := "") (Or.inl (hw _ (List.mem_of_getElem? (i := 56) rfl))) Via.refl e0 F_ed_a (g := (mkF m 1 #[.val (.ref a)] [(.ref a)])) rfl rfl (hb hby d_jdk_38_16_1)
  refine OEnds.st (S' := T1.setTop (mkF m 4 #[.val (.ref a)] [(.ref d)])) st1 ?_
  refine OEnds.st (S' := T1.setTop (mkF m 5 #[.val (.ref a)] [(.ref a), (.ref d)])) (fun _ k => ?_) ?_
  · show Steps p.tables e below (T1.setTop (mkF m 4 #[.val (.ref a)] [(.ref d)])) _
    refine XS.aloadN X1.here hx rfl (hb hby d_jdk_38_16_4) rfl rfl ?_
    exact k
  obtain ⟨T2, X2, e2, st2⟩ := getF X1 hx hZ hown (host := "") (Or.inl (hw _ (List.mem_of_getElem? (i := 79) rfl))) Via.refl e1 F_sz_a (g := (mkF m 5 #[.val (.ref a)] [(.ref a), (.ref d)])) rfl rfl (hb hby d_jdk_38_16_5)
  refine OEnds.st (S' := T2.setTop (mkF m 8 #[.val (.ref a)] [(.int (2 : Int32)), (.ref d)])) st2 ?_
  obtain ⟨_, T3, h3, L3, X3, e3, hQ3, st3⟩ := callC X2 hx hZ hown (hw _ (List.mem_of_getElem? (i := 146) rfl)) (hw _ (List.mem_of_getElem? (i := 147) rfl)) (hw _ (List.mem_of_getElem? (i := 148) rfl)) (hw _ (List.mem_of_getElem? (i := 149) rfl)) (by decide) (kc := 1) (ks := 2) (Con.sb (W := 0) (rm_copy2_2 l hD d k x1 x2 O0 E_d V_d E_x1 E_x2) hZ (hw _ (List.mem_of_getElem? (i := 149) rfl)) (hw _ (List.mem_of_getElem? (i := 148) rfl)) (by decide) (by decide)) e2 (g := (mkF m 8 #[.val (.ref a)] [(.int (2 : Int32)), (.ref d)])) rfl (by rw [hml]; rfl) (argsL := [(.ref d), (.int (2 : Int32))]) (rest := []) (lenOf pd_14 rfl) rfl (by show 2 * 0 + _ ≤ _; exact Nat.le_of_eq rfl) (hb hby d_jdk_38_16_8) (by decide) (by decide)
  obtain ⟨r3, kr3, rfl, Nq3, Kq3, szq3, V3⟩ := hQ3
  refine OEnds.st (S' := T3.setTop (mkF m 11 #[.val (.ref a)] [(.ref r3)])) st3 ?_
  replace N0 := Fr.app N0 Nq3
  have ne_a_r3 : a ≠ r3 := Nat.ne_of_lt (Nat.lt_of_lt_of_le F_ed_a.lt szq3)
  have ne_d_r3 : d ≠ r3 := Nat.ne_of_lt (Nat.lt_of_lt_of_le E_d.lt szq3)
  have ne_x1_r3 : x1 ≠ r3 := Nat.ne_of_lt (Nat.lt_of_lt_of_le E_x1.lt szq3)
  have ne_x2_r3 : x2 ≠ r3 := Nat.ne_of_lt (Nat.lt_of_lt_of_le E_x2.lt szq3)
  have ge_r3 : Z.heap.size ≤ r3 := Nat.le_trans O0.1 szq3
  have sz_r3 : h0.size ≤ r3 := Nat.le_trans K0.1 szq3
  replace F_ed_a := F_ed_a.keep Kq3 nin0
  replace F_sz_a := F_sz_a.keep Kq3 nin0
  replace E_d := E_d.keep Kq3
  replace V_d := V_d.keep Kq3 nin0
  replace E_x1 := E_x1.keep Kq3
  replace E_x2 := E_x2.keep Kq3
  replace O0 : Ext Z.heap h3 := ext_keep O0 Kq3 all0
  replace K0 : Keep h0 h3 [] := K0.trans Kq3 all0
  exact OEnds.ret X3 hx hret hlk rfl (Or.inr (Or.inr (Or.inr (Or.inr ⟨rfl, rfl, rfl⟩)))) (hb hby d_jdk_38_16_11) (by decide) (by decide) (by rw [e3]; exact ⟨r3, kr3, rfl, N0, K0, sz_r3, V3⟩)
-- java/util/List.of:([Ljava/lang/Object;)Ljava/util/List;
def Q_listOf2 (Z : State) (t : Addr) (kt : ClassId) (x1 : Addr) (x2 : Addr) (h0 : Heap) (v : Option Value) (h : Heap) (L : List Loc) : Prop := ∃ r : Addr, v = some (.ref r) ∧ Fr Z.heap.size L ∧ Keep h0 h []
theorem ef_listOf2 (m : MethodId) (t : Addr) : entryFrame m #[(.ref t)] 2 = mkF m 0 #[.val (.ref t), .unset] [] := by first | (simp [entryFrame, mkF, argsToLocals, Value.category]; done) | rfl
theorem d_jdk_40_47_45 : decode jdk_40_method_47_code 45 = .ok (.new 96, 3) := by decide +kernel
theorem d_jdk_40_47_48 : decode jdk_40_method_47_code 48 = .ok (.dup, 1) := by decide +kernel
theorem d_jdk_40_47_49 : decode jdk_40_method_47_code 49 = .ok (.aload_n 0, 1) := by decide +kernel
theorem d_jdk_40_47_50 : decode jdk_40_method_47_code 50 = .ok (.iconst 0, 1) := by decide +kernel
theorem d_jdk_40_47_51 : decode jdk_40_method_47_code 51 = .ok (.aaload, 1) := by decide +kernel
theorem d_jdk_40_47_52 : decode jdk_40_method_47_code 52 = .ok (.aload_n 0, 1) := by decide +kernel
theorem d_jdk_40_47_53 : decode jdk_40_method_47_code 53 = .ok (.iconst 1, 1) := by decide +kernel
theorem d_jdk_40_47_54 : decode jdk_40_method_47_code 54 = .ok (.aaload, 1) := by decide +kernel
theorem d_jdk_40_47_55 : decode jdk_40_method_47_code 55 = .ok (.invokespecial 100, 3) := by decide +kernel
theorem pd_17 : parseMethodDescriptor "(Ljava/lang/Object;Ljava/lang/Object;)V" = some ⟨[(.object "java/lang/Object"), (.object "java/lang/Object")], none⟩ := by decide +kernel
theorem d_jdk_40_47_58 : decode jdk_40_method_47_code 58 = .ok (.areturn, 1) := by decide +kernel
set_option maxRecDepth 65536 in
set_option maxHeartbeats 40000000 in
theorem rm_listOf2 (l : Launch) {Z : State} {a0 : Array Value} (hD : Wd Z a0) (t : Addr) (kt : ClassId) (x1 : Addr) (x2 : Addr) {h0 : Heap} (O0 : Ext Z.heap h0) (V_t : Arv Z h0 t kt (.object "java/lang/Object") (2 : Int32) [(.ref x1), (.ref x2)] .null) (E_x1 : Exa Z h0 x1 "java/lang/String") (E_x2 : Exa Z h0 x2 "java/lang/String") :
    Con l Z (⟨"java/util/List", "of", "([Ljava/lang/Object;)Ljava/util/List;"⟩ : MethodName) jdk_40_method_47_code 2 (some (.object "java/util/List")) [] ({ frames := 5, cells := 1, slots := 2, locals := 63 } : Room) #[(.ref t)] h0 (Q_listOf2 Z t kt x1 x2 h0) := by
  refine Con.walk (plainFor_of_name pn_12) ?_
  intro p e s m below meth c T0 X0 hx hZ hby hml hown hnm hret hlk e0
  obtain ⟨hw, ⟨cz, S_CS, hcz⟩, ⟨xde, xkde, S_DE, V_DE⟩, ⟨aEM, S_EM⟩, ⟨aEL, S_EL⟩, ⟨cO, kO, mrO, mir1, mir2, mir3⟩, ⟨k0, k1, k2, k3, k4, S_K0, S_K1, S_K2, S_K3, S_K4, kn0, kn2, kn3, kn4⟩⟩ := id hD
  have N0 := Fr.nil Z.heap.size
  have K0 : Keep h0 h0 [] := Keep.refl _ _
  refine OEnds.cast (ef_listOf2 m t) ?_
  refine OEnds.st (S' := T0.setTop (mkF m 1 #[.val (.ref t), .unset] [(.ref t)])) (fun _ k => ?_) ?_
  · show Steps p.tables e below (T0.setTop (mkF m 0 #[.val (.ref t), .unset] [])) _
    refine XS.aloadN X0.here hx rfl (hb hby d_jdk_40_47_0) rfl rfl ?_
    exact k
  obtain ⟨cl_t_1, Ar_t_1, q_t_1, S_t_1, N_t_1, H_t_1, G_t_1⟩ := id V_t
  refine OEnds.st (S' := T0.setTop (mkF m 2 #[.val (.ref t), .unset] [(.int (2 : Int32))])) (fun tg kk => X0.arraylength hx (by rw [e0]; exact Ar_t_1.1) (State.isArrayOf_alike hZ.alike Ar_t_1.2.1) (g := (mkF m 1 #[.val (.ref t), .unset] [(.ref t)])) rfl rfl (hb hby d_jdk_40_47_1) tg (by rw [len_of S_t_1 N_t_1]; exact kk)) ?_
  refine OEnds.st (S' := T0.setTop (mkF m 45 #[.val (.ref t), .unset] [])) (fun _ k => ?_) ?_
  · show Steps p.tables e below (T0.setTop (mkF m 2 #[.val (.ref t), .unset] [(.int (2 : Int32))])) _
    refine XS.tswIn X0.here hx rfl (pc0 := 2) (pc' := 45) rfl (hb hby d_tsw) rfl (by decide) rfl (by decide) (by decide) ?_
    exact k
  obtain ⟨T2, h2, X2, e2, E2, A2, D2, U2, st2⟩ := newO X0 hx hZ hown (hw _ (List.mem_of_getElem? (i := 171) rfl)) (hw _ (List.mem_of_getElem? (i := 172) rfl)) (hw _ (List.mem_of_getElem? (i := 173) rfl)) e0 (g := (mkF m 45 #[.val (.ref t), .unset] [])) rfl (hb hby d_jdk_40_47_45) (by decide) (by decide)
  obtain ⟨b2, g2⟩ : ∃ z, z = h0.size := ⟨_, rfl⟩
  rw [← g2] at A2 D2 U2 st2
  refine OEnds.st (S' := T2.setTop (mkF m 48 #[.val (.ref t), .unset] [(.ref b2)])) st2 ?_
  have ne_t_b2 : t ≠ b2 := Nat.ne_of_lt (Nat.lt_of_lt_of_le V_t.lt (Nat.le_of_eq g2.symm))
  have ne_x1_b2 : x1 ≠ b2 := Nat.ne_of_lt (Nat.lt_of_lt_of_le E_x1.lt (Nat.le_of_eq g2.symm))
  have ne_x2_b2 : x2 ≠ b2 := Nat.ne_of_lt (Nat.lt_of_lt_of_le E_x2.lt (Nat.le_of_eq g2.symm))
  have ge_b2 : Z.heap.size ≤ b2 := Nat.le_trans O0.1 (Nat.le_of_eq g2.symm)
  have sz_b2 : h0.size ≤ b2 := Nat.le_trans K0.1 (Nat.le_of_eq g2.symm)
  replace V_t := V_t.ext E2
  replace E_x1 := E_x1.ext E2
  replace E_x2 := E_x2.ext E2
  replace O0 : Ext Z.heap h2 := ext_trans O0 E2
  replace K0 : Keep h0 h2 [] := K0.ext E2
  have F_e0_b2 : Fld Z h2 b2 "java/util/ImmutableCollections$List12" "e0" "Ljava/lang/Object;" .null := D2 (Or.inr (hw _ (List.mem_of_getElem? (i := 197) rfl))) (ty := (.object "java/lang/Object")) (by decide)
  have F_e1_b2 : Fld Z h2 b2 "java/util/ImmutableCollections$List12" "e1" "Ljava/lang/Object;" .null := D2 (Or.inr (hw _ (List.mem_of_getElem? (i := 199) rfl))) (ty := (.object "java/lang/Object")) (by decide)
  refine OEnds.st (S' := T2.setTop (mkF m 51 #[.val (.ref t), .unset] [(.int (0 : Int32)), (.ref t), (.ref b2), (.ref b2)])) (fun _ k => ?_) ?_
  · show Steps p.tables e below (T2.setTop (mkF m 48 #[.val (.ref t), .unset] [(.ref b2)])) _
    refine XS.dup X2.here hx rfl (hb hby d_jdk_40_47_48) rfl rfl ?_
    show Steps p.tables e below (T2.setTop (mkF m 49 #[.val (.ref t), .unset] [(.ref b2), (.ref b2)])) _
    refine XS.aloadN X2.here hx rfl (hb hby d_jdk_40_47_49) rfl rfl ?_
    show Steps p.tables e below (T2.setTop (mkF m 50 #[.val (.ref t), .unset] [(.ref t), (.ref b2), (.ref b2)])) _
    refine XS.iconst X2.here hx rfl (hb hby d_jdk_40_47_50) ?_
    exact k
  obtain ⟨cl_t_3, Ar_t_3, q_t_3, S_t_3, N_t_3, H_t_3, G_t_3⟩ := id V_t
  refine OEnds.st (S' := T2.setTop (mkF m 52 #[.val (.ref t), .unset] [(.ref x1), (.ref b2), (.ref b2)])) (X2.aaload hx (j := (0 : Int32)) (v := (.ref x1)) (by rw [e2]; exact Ar_t_3.1) (State.isArrayOf_alike hZ.alike Ar_t_3.2.1) rfl Ar_t_3.2.2 (inb_of S_t_3 ⟨by decide, by decide⟩) (H_t_3.at (inb_of S_t_3 ⟨by decide, by decide⟩) rfl) (g := (mkF m 51 #[.val (.ref t), .unset] [(.int (0 : Int32)), (.ref t), (.ref b2), (.ref b2)])) rfl rfl (hb hby d_jdk_40_47_51)) ?_
  refine OEnds.st (S' := T2.setTop (mkF m 54 #[.val (.ref t), .unset] [(.int (1 : Int32)), (.ref t), (.ref x1), (.ref b2), (.ref b2)])) (fun _ k => ?_) ?_
  · show Steps p.tables e below (T2.setTop (mkF m 52 #[.val (.ref t), .unset] [(.ref x1), (.ref b2), (.ref b2)])) _
    refine XS.aloadN X2.here hx rfl (hb hby d_jdk_40_47_52) rfl rfl ?_
    show Steps p.tables e below (T2.setTop (mkF m 53 #[.val (.ref t), .unset] [(.ref t), (.ref x1), (.ref b2), (.ref b2)])) _
    refine XS.iconst X2.here hx rfl (hb hby d_jdk_40_47_53) ?_
    exact k
  obtain ⟨cl_t_4, Ar_t_4, q_t_4, S_t_4, N_t_4, H_t_4, G_t_4⟩ := id V_t
  refine OEnds.st (S' := T2.setTop (mkF m 55 #[.val (.ref t), .unset] [(.ref x2), (.ref x1), (.ref b2), (.ref b2)])) (X2.aaload hx (j := (1 : Int32)) (v := (.ref x2)) (by rw [e2]; exact Ar_t_4.1) (State.isArrayOf_alike hZ.alike Ar_t_4.2.1) rfl Ar_t_4.2.2 (inb_of S_t_4 ⟨by decide, by decide⟩) (H_t_4.at (inb_of S_t_4 ⟨by decide, by decide⟩) rfl) (g := (mkF m 54 #[.val (.ref t), .unset] [(.int (1 : Int32)), (.ref t), (.ref x1), (.ref b2), (.ref b2)])) rfl rfl (hb hby d_jdk_40_47_54)) ?_
  obtain ⟨_, T5, h5, L5, X5, e5, hQ5, st5⟩ := specC X2 hx hZ rfl hown (hw _ (List.mem_of_getElem? (i := 174) rfl)) (hw _ (List.mem_of_getElem? (i := 175) rfl)) (hw _ (List.mem_of_getElem? (i := 177) rfl)) (by decide) (kc := 0) (ks := 0) (Con.sb (W := 1) (rm_l12b l hD b2 x1 x2 O0 A2 F_e0_b2 F_e1_b2 ge_b2) hZ (hw _ (List.mem_of_getElem? (i := 177) rfl)) (hw _ (List.mem_of_getElem? (i := 173) rfl)) (by decide) (by decide)) e2 (a := b2) (g := (mkF m 55 #[.val (.ref t), .unset] [(.ref x2), (.ref x1), (.ref b2), (.ref b2)])) rfl (by rw [hml]; rfl) (argsL := [(.ref x1), (.ref x2)]) (rest := [(.ref b2)]) (lenOf pd_17 rfl) rfl (by show 2 * 0 + _ ≤ _; exact Nat.le_of_eq rfl) (hb hby d_jdk_40_47_55) (by decide) (by decide)
  obtain ⟨rfl, Nq5, Kq5⟩ := hQ5
  refine OEnds.st (S' := T5.setTop (mkF m 58 #[.val (.ref t), .unset] [(.ref b2)])) st5 ?_
  replace N0 := Fr.app N0 Nq5
  replace V_t := V_t.keep Kq5 (ninS ne_t_b2 nin0)
  replace E_x1 := E_x1.keep Kq5
  replace E_x2 := E_x2.keep Kq5
  replace A2 := A2.keep Kq5
  replace O0 : Ext Z.heap h5 := ext_keep O0 Kq5 (allS ge_b2 all0)
  replace K0 : Keep h0 h5 [] := K0.trans Kq5 (allS (Or.inr sz_b2) all0)
  exact OEnds.ret X5 hx hret hlk rfl (Or.inr (Or.inr (Or.inr (Or.inr ⟨rfl, rfl, rfl⟩)))) (hb hby d_jdk_40_47_58) (by decide) (by decide) (by rw [e5]; exact ⟨b2, rfl, N0, K0⟩)
-- java/util/ImmutableCollections.listCopy:(Ljava/util/Collection;)Ljava/util/List;
def Q_listCopy2 (Z : State) (a : Addr) (d : Addr) (k : ClassId) (x1 : Addr) (x2 : Addr) (h0 : Heap) (v : Option Value) (h : Heap) (L : List Loc) : Prop := ∃ r : Addr, v = some (.ref r) ∧ Fr Z.heap.size L ∧ Keep h0 h []
theorem ef_listCopy2 (m : MethodId) (a : Addr) : entryFrame m #[(.ref a)] 2 = mkF m 0 #[.val (.ref a), .unset] [] := by first | (simp [entryFrame, mkF, argsToLocals, Value.category]; done) | rfl
set_option maxRecDepth 65536 in
set_option maxHeartbeats 40000000 in
theorem rm_listCopy2 (l : Launch) {Z : State} {a0 : Array Value} (hD : Wd Z a0) (a : Addr) (d : Addr) (k : ClassId) (x1 : Addr) (x2 : Addr) {h0 : Heap} (O0 : Ext Z.heap h0) (E_a : Exa Z h0 a "java/util/ArrayList") (F_ed_a : Fld Z h0 a "java/util/ArrayList" "elementData" "[Ljava/lang/Object;" (.ref d)) (F_sz_a : Fld Z h0 a "java/util/ArrayList" "size" "I" (.int (2 : Int32))) (E_d : Exa Z h0 d "[Ljava/lang/Object;") (V_d : Arv Z h0 d k (.object "java/lang/Object") (10 : Int32) [(.ref x1), (.ref x2), .null, .null, .null, .null, .null, .null, .null, .null] .null) (E_x1 : Exa Z h0 x1 "java/lang/String") (E_x2 : Exa Z h0 x2 "java/lang/String") :
    Con l Z (⟨"java/util/ImmutableCollections", "listCopy", "(Ljava/util/Collection;)Ljava/util/List;"⟩ : MethodName) jdk_56_method_3_code 2 (some (.object "java/util/List")) [] ({ frames := 6, cells := 2, slots := 4, locals := 76 } : Room) #[(.ref a)] h0 (Q_listCopy2 Z a d k x1 x2 h0) := by
  refine Con.walk (plainFor_of_name pn_11) ?_
  intro p e s m below meth c T0 X0 hx hZ hby hml hown hnm hret hlk e0
  obtain ⟨hw, ⟨cz, S_CS, hcz⟩, ⟨xde, xkde, S_DE, V_DE⟩, ⟨aEM, S_EM⟩, ⟨aEL, S_EL⟩, ⟨cO, kO, mrO, mir1, mir2, mir3⟩, ⟨k0, k1, k2, k3, k4, S_K0, S_K1, S_K2, S_K3, S_K4, kn0, kn2, kn3, kn4⟩⟩ := id hD
  have N0 := Fr.nil Z.heap.size
  have K0 : Keep h0 h0 [] := Keep.refl _ _
  refine OEnds.cast (ef_listCopy2 m a) ?_
  refine OEnds.st (S' := T0.setTop (mkF m 1 #[.val (.ref a), .unset] [(.ref a)])) (fun _ k => ?_) ?_
  · show Steps p.tables e below (T0.setTop (mkF m 0 #[.val (.ref a), .unset] [])) _
    refine XS.aloadN X0.here hx rfl (hb hby d_jdk_56_3_0) rfl rfl ?_
    exact k
  obtain ⟨T1, X1, e1, st1⟩ := instNo X0 hx hZ hown (hw _ (List.mem_of_getElem? (i := 123) rfl)) e0 E_a (no12 hw) (g := (mkF m 1 #[.val (.ref a), .unset] [(.ref a)])) rfl rfl (hb hby d_jdk_56_3_1)
  refine OEnds.st (S' := T1.setTop (mkF m 4 #[.val (.ref a), .unset] [(.int (0 : Int32))])) st1 ?_
  refine OEnds.st (S' := T1.setTop (mkF m 8 #[.val (.ref a), .unset] [(.ref a)])) (fun _ k => ?_) ?_
  · show Steps p.tables e below (T1.setTop (mkF m 4 #[.val (.ref a), .unset] [(.int (0 : Int32))])) _
    refine XS.ifNo X1.here hx rfl (hb hby d_jdk_56_3_4) rfl ((if0 _ _).trans (teq (by decide)).2) ?_
    show Steps p.tables e below (T1.setTop (mkF m 7 #[.val (.ref a), .unset] [])) _
    refine XS.aloadN X1.here hx rfl (hb hby d_jdk_56_3_7) rfl rfl ?_
    exact k
  obtain ⟨T2, X2, e2, st2⟩ := instNo X1 hx hZ hown (hw _ (List.mem_of_getElem? (i := 128) rfl)) e1 E_a (noN hw) (g := (mkF m 8 #[.val (.ref a), .unset] [(.ref a)])) rfl rfl (hb hby d_jdk_56_3_8)
  refine OEnds.st (S' := T2.setTop (mkF m 11 #[.val (.ref a), .unset] [(.int (0 : Int32))])) st2 ?_
  refine OEnds.st (S' := T2.setTop (mkF m 32 #[.val (.ref a), .unset] [(.ref a)])) (fun _ k => ?_) ?_
  · show Steps p.tables e below (T2.setTop (mkF m 11 #[.val (.ref a), .unset] [(.int (0 : Int32))])) _
    refine XS.ifYes X2.here hx rfl (pc0 := 11) (pc' := 31) rfl (hb hby d_jdk_56_3_11) rfl ((if0 _ _).trans (teq (by decide)).1) (by decide) (by decide) ?_
    show Steps p.tables e below (T2.setTop (mkF m 31 #[.val (.ref a), .unset] [])) _
    refine XS.aloadN X2.here hx rfl (hb hby d_jdk_56_3_31) rfl rfl ?_
    exact k
  obtain ⟨_, T3, h3, L3, X3, e3, hQ3, st3⟩ := faceC X2 hx hZ (xi := (⟨"java/util/Collection", "isEmpty", "()Z"⟩ : MethodName)) (y := (⟨"java/util/ArrayList", "isEmpty", "()Z"⟩ : MethodName)) hown (hw _ (List.mem_of_getElem? (i := 129) rfl)) (hw _ (List.mem_of_getElem? (i := 130) rfl)) (hw _ (List.mem_of_getElem? (i := 131) rfl)) (hw _ (List.mem_of_getElem? (i := 132) rfl)) (hw _ (List.mem_of_getElem? (i := 133) rfl)) (hw _ (List.mem_of_getElem? (i := 134) rfl)) (hw _ (List.mem_of_getElem? (i := 135) rfl)) (hw _ (List.mem_of_getElem? (i := 136) rfl)) (by decide) (kc := 0) (ks := 0) (Con.sb (W := 0) (rm_isEmp2 l hD a O0 F_sz_a) hZ (hw _ (List.mem_of_getElem? (i := 137) rfl)) (hw _ (List.mem_of_getElem? (i := 36) rfl)) (by decide) (by decide)) e2 E_a (g := (mkF m 32 #[.val (.ref a), .unset] [(.ref a)])) rfl (by rw [hml]; rfl) (argsL := []) (rest := []) (lenOf pd_10 rfl) rfl (by show 2 * 0 + _ ≤ _; exact Nat.le_of_eq rfl) (hb hby d_jdk_56_3_32) (by decide) (by decide)
  obtain ⟨rfl, Nq3, Hq3⟩ := hQ3
  refine OEnds.st (S' := T3.setTop (mkF m 37 #[.val (.ref a), .unset] [(.int (0 : Int32))])) st3 ?_
  replace N0 := Fr.app N0 Nq3
  replace e3 := e3.trans Hq3
  refine OEnds.st (S' := T3.setTop (mkF m 45 #[.val (.ref a), .unset] [(.ref a)])) (fun _ k => ?_) ?_
  · show Steps p.tables e below (T3.setTop (mkF m 37 #[.val (.ref a), .unset] [(.int (0 : Int32))])) _
    refine XS.ifYes X3.here hx rfl (pc0 := 37) (pc' := 44) rfl (hb hby d_jdk_56_3_37) rfl ((if0 _ _).trans (teq (by decide)).1) (by decide) (by decide) ?_
    show Steps p.tables e below (T3.setTop (mkF m 44 #[.val (.ref a), .unset] [])) _
    refine XS.aloadN X3.here hx rfl (hb hby d_jdk_56_3_44) rfl rfl ?_
    exact k
  obtain ⟨_, T4, h4, L4, X4, e4, hQ4, st4⟩ := faceC X3 hx hZ (xi := (⟨"java/util/Collection", "toArray", "()[Ljava/lang/Object;"⟩ : MethodName)) (y := (⟨"java/util/ArrayList", "toArray", "()[Ljava/lang/Object;"⟩ : MethodName)) hown (hw _ (List.mem_of_getElem? (i := 138) rfl)) (hw _ (List.mem_of_getElem? (i := 139) rfl)) (hw _ (List.mem_of_getElem? (i := 140) rfl)) (hw _ (List.mem_of_getElem? (i := 141) rfl)) (hw _ (List.mem_of_getElem? (i := 142) rfl)) (hw _ (List.mem_of_getElem? (i := 143) rfl)) (hw _ (List.mem_of_getElem? (i := 144) rfl)) (hw _ (List.mem_of_getElem? (i := 136) rfl)) (by decide) (kc := 1) (ks := 2) (Con.sb (W := 0) (rm_toArr2 l hD a d k x1 x2 O0 F_ed_a F_sz_a E_d V_d E_x1 E_x2) hZ (hw _ (List.mem_of_getElem? (i := 145) rfl)) (hw _ (List.mem_of_getElem? (i := 36) rfl)) (by decide) (by decide)) e3 E_a (g := (mkF m 45 #[.val (.ref a), .unset] [(.ref a)])) rfl (by rw [hml]; rfl) (argsL := []) (rest := []) (lenOf pd_6 rfl) rfl (by show 2 * 0 + _ ≤ _; exact Nat.le_of_eq rfl) (hb hby d_jdk_56_3_45) (by decide) (by decide)
  obtain ⟨t4, kt4, rfl, Nq4, Kq4, szq4, V4⟩ := hQ4
  refine OEnds.st (S' := T4.setTop (mkF m 50 #[.val (.ref a), .unset] [(.ref t4)])) st4 ?_
  replace N0 := Fr.app N0 Nq4
  have ne_a_t4 : a ≠ t4 := Nat.ne_of_lt (Nat.lt_of_lt_of_le E_a.lt szq4)
  have ne_d_t4 : d ≠ t4 := Nat.ne_of_lt (Nat.lt_of_lt_of_le E_d.lt szq4)
  have ne_x1_t4 : x1 ≠ t4 := Nat.ne_of_lt (Nat.lt_of_lt_of_le E_x1.lt szq4)
  have ne_x2_t4 : x2 ≠ t4 := Nat.ne_of_lt (Nat.lt_of_lt_of_le E_x2.lt szq4)
  have ge_t4 : Z.heap.size ≤ t4 := Nat.le_trans O0.1 szq4
  have sz_t4 : h0.size ≤ t4 := Nat.le_trans K0.1 szq4
  replace E_a := E_a.keep Kq4
  replace F_ed_a := F_ed_a.keep Kq4 nin0
  replace F_sz_a := F_sz_a.keep Kq4 nin0
  replace E_d := E_d.keep Kq4
  replace V_d := V_d.keep Kq4 nin0
  replace E_x1 := E_x1.keep Kq4
  replace E_x2 := E_x2.keep Kq4
  replace O0 : Ext Z.heap h4 := ext_keep O0 Kq4 all0
  replace K0 : Keep h0 h4 [] := K0.trans Kq4 all0
  obtain ⟨_, T5, h5, L5, X5, e5, hQ5, st5⟩ := callC X4 hx hZ hown (hw _ (List.mem_of_getElem? (i := 168) rfl)) (hw _ (List.mem_of_getElem? (i := 169) rfl)) (hw _ (List.mem_of_getElem? (i := 117) rfl)) (hw _ (List.mem_of_getElem? (i := 170) rfl)) (by decide) (kc := 1) (ks := 2) (Con.sb (W := 0) (rm_listOf2 l hD t4 kt4 x1 x2 O0 V4 E_x1 E_x2) hZ (hw _ (List.mem_of_getElem? (i := 170) rfl)) (hw _ (List.mem_of_getElem? (i := 117) rfl)) (by decide) (by decide)) e4 (g := (mkF m 50 #[.val (.ref a), .unset] [(.ref t4)])) rfl (by rw [hml]; rfl) (argsL := [(.ref t4)]) (rest := []) (lenOf pd_16 rfl) rfl (by show 2 * 0 + _ ≤ _; exact Nat.le_of_eq rfl) (hb hby d_jdk_56_3_50) (by decide) (by decide)
  obtain ⟨r5, rfl, Nq5, Kq5⟩ := hQ5
  refine OEnds.st (S' := T5.setTop (mkF m 53 #[.val (.ref a), .unset] [(.ref r5)])) st5 ?_
  replace N0 := Fr.app N0 Nq5
  replace E_a := E_a.keep Kq5
  replace F_ed_a := F_ed_a.keep Kq5 nin0
  replace F_sz_a := F_sz_a.keep Kq5 nin0
  replace E_d := E_d.keep Kq5
  replace V_d := V_d.keep Kq5 nin0
  replace E_x1 := E_x1.keep Kq5
  replace E_x2 := E_x2.keep Kq5
  replace V4 := V4.keep Kq5 nin0
  replace O0 : Ext Z.heap h5 := ext_keep O0 Kq5 all0
  replace K0 : Keep h0 h5 [] := K0.trans Kq5 all0
  exact OEnds.ret X5 hx hret hlk rfl (Or.inr (Or.inr (Or.inr (Or.inr ⟨rfl, rfl, rfl⟩)))) (hb hby d_jdk_56_3_53) (by decide) (by decide) (by rw [e5]; exact ⟨r5, rfl, N0, K0⟩)
-- java/util/List.copyOf:(Ljava/util/Collection;)Ljava/util/List;
def Q_copyOfL2 (Z : State) (a : Addr) (d : Addr) (k : ClassId) (x1 : Addr) (x2 : Addr) (h0 : Heap) (v : Option Value) (h : Heap) (L : List Loc) : Prop := ∃ r : Addr, v = some (.ref r) ∧ Fr Z.heap.size L ∧ Keep h0 h []
theorem ef_copyOfL2 (m : MethodId) (a : Addr) : entryFrame m #[(.ref a)] 1 = mkF m 0 #[.val (.ref a)] [] := by first | (simp [entryFrame, mkF, argsToLocals, Value.category]; done) | rfl
set_option maxRecDepth 65536 in
set_option maxHeartbeats 40000000 in
theorem rm_copyOfL2 (l : Launch) {Z : State} {a0 : Array Value} (hD : Wd Z a0) (a : Addr) (d : Addr) (k : ClassId) (x1 : Addr) (x2 : Addr) {h0 : Heap} (O0 : Ext Z.heap h0) (E_a : Exa Z h0 a "java/util/ArrayList") (F_ed_a : Fld Z h0 a "java/util/ArrayList" "elementData" "[Ljava/lang/Object;" (.ref d)) (F_sz_a : Fld Z h0 a "java/util/ArrayList" "size" "I" (.int (2 : Int32))) (E_d : Exa Z h0 d "[Ljava/lang/Object;") (V_d : Arv Z h0 d k (.object "java/lang/Object") (10 : Int32) [(.ref x1), (.ref x2), .null, .null, .null, .null, .null, .null, .null, .null] .null) (E_x1 : Exa Z h0 x1 "java/lang/String") (E_x2 : Exa Z h0 x2 "java/lang/String") :
    Con l Z (⟨"java/util/List", "copyOf", "(Ljava/util/Collection;)Ljava/util/List;"⟩ : MethodName) jdk_40_method_48_code 1 (some (.object "java/util/List")) [] ({ frames := 7, cells := 2, slots := 4, locals := 89 } : Room) #[(.ref a)] h0 (Q_copyOfL2 Z a d k x1 x2 h0) := by
  refine Con.walk (plainFor_of_name pn_12) ?_
  intro p e s m below meth c T0 X0 hx hZ hby hml hown hnm hret hlk e0
  obtain ⟨hw, ⟨cz, S_CS, hcz⟩, ⟨xde, xkde, S_DE, V_DE⟩, ⟨aEM, S_EM⟩, ⟨aEL, S_EL⟩, ⟨cO, kO, mrO, mir1, mir2, mir3⟩, ⟨k0, k1, k2, k3, k4, S_K0, S_K1, S_K2, S_K3, S_K4, kn0, kn2, kn3, kn4⟩⟩ := id hD
  have N0 := Fr.nil Z.heap.size
  have K0 : Keep h0 h0 [] := Keep.refl _ _
  refine OEnds.cast (ef_copyOfL2 m a) ?_
  refine OEnds.st (S' := T0.setTop (mkF m 1 #[.val (.ref a)] [(.ref a)])) (fun _ k => ?_) ?_
  · show Steps p.tables e below (T0.setTop (mkF m 0 #[.val (.ref a)] [])) _
    refine XS.aloadN X0.here hx rfl (hb hby d_jdk_40_48_0) rfl rfl ?_
    exact k
  obtain ⟨_, T1, h1, L1, X1, e1, hQ1, st1⟩ := callC X0 hx hZ hown (hw _ (List.mem_of_getElem? (i := 119) rfl)) (hw _ (List.mem_of_getElem? (i := 120) rfl)) (hw _ (List.mem_of_getElem? (i := 121) rfl)) (hw _ (List.mem_of_getElem? (i := 122) rfl)) (by decide) (kc := 2) (ks := 4) (Con.sb (W := 0) (rm_listCopy2 l hD a d k x1 x2 O0 E_a F_ed_a F_sz_a E_d V_d E_x1 E_x2) hZ (hw _ (List.mem_of_getElem? (i := 122) rfl)) (hw _ (List.mem_of_getElem? (i := 121) rfl)) (by decide) (by decide)) e0 (g := (mkF m 1 #[.val (.ref a)] [(.ref a)])) rfl (by rw [hml]; rfl) (argsL := [(.ref a)]) (rest := []) (lenOf pd_12 rfl) rfl (by show 2 * 0 + _ ≤ _; exact Nat.le_of_eq rfl) (hb hby d_jdk_40_48_1) (by decide) (by decide)
  obtain ⟨r1, rfl, Nq1, Kq1⟩ := hQ1
  refine OEnds.st (S' := T1.setTop (mkF m 4 #[.val (.ref a)] [(.ref r1)])) st1 ?_
  replace N0 := Fr.app N0 Nq1
  replace E_a := E_a.keep Kq1
  replace F_ed_a := F_ed_a.keep Kq1 nin0
  replace F_sz_a := F_sz_a.keep Kq1 nin0
  replace E_d := E_d.keep Kq1
  replace V_d := V_d.keep Kq1 nin0
  replace E_x1 := E_x1.keep Kq1
  replace E_x2 := E_x2.keep Kq1
  replace O0 : Ext Z.heap h1 := ext_keep O0 Kq1 all0
  replace K0 : Keep h0 h1 [] := K0.trans Kq1 all0
  exact OEnds.ret X1 hx hret hlk rfl (Or.inr (Or.inr (Or.inr (Or.inr ⟨rfl, rfl, rfl⟩)))) (hb hby d_jdk_40_48_4) (by decide) (by decide) (by rw [e1]; exact ⟨r1, rfl, N0, K0⟩)
-- com/example/gridtally/gridtally/determinant/Column.<init>:(Ljava/lang/String;Lcom/example/gridtally/gridtally/determinant/Column$Kind;Ljava/util/List;)V
def Q_colInit2 (Z : State) (o : Addr) (nme : Addr) (kd : Addr) (a : Addr) (d : Addr) (k : ClassId) (x1 : Addr) (x2 : Addr) (h0 : Heap) (v : Option Value) (h : Heap) (L : List Loc) : Prop := v = none ∧ Fr Z.heap.size L ∧ Keep h0 h [o] ∧ Exa Z h o "com/example/gridtally/gridtally/determinant/Column" ∧ Fld Z h o "com/example/gridtally/gridtally/determinant/Column" "kind" "Lcom/example/gridtally/gridtally/determinant/Column$Kind;" (.ref kd)
theorem ef_colInit2 (m : MethodId) (o : Addr) (nme : Addr) (kd : Addr) (a : Addr) : entryFrame m #[(.ref o), (.ref nme), (.ref kd), (.ref a)] 4 = mkF m 0 #[.val (.ref o), .val (.ref nme), .val (.ref kd), .val (.ref a)] [] := by first | (simp [entryFrame, mkF, argsToLocals, Value.category]; done) | rfl
set_option maxRecDepth 65536 in
set_option maxHeartbeats 40000000 in
theorem rm_colInit2 (l : Launch) {Z : State} {a0 : Array Value} (hD : Wd Z a0) (o : Addr) (nme : Addr) (kd : Addr) (a : Addr) (d : Addr) (k : ClassId) (x1 : Addr) (x2 : Addr) {h0 : Heap} (O0 : Ext Z.heap h0) (E_o : Exa Z h0 o "com/example/gridtally/gridtally/determinant/Column") (F_name_o : Fld Z h0 o "com/example/gridtally/gridtally/determinant/Column" "name" "Ljava/lang/String;" .null) (F_kind_o : Fld Z h0 o "com/example/gridtally/gridtally/determinant/Column" "kind" "Lcom/example/gridtally/gridtally/determinant/Column$Kind;" .null) (F_values_o : Fld Z h0 o "com/example/gridtally/gridtally/determinant/Column" "values" "Ljava/util/List;" .null) (ge_o : Z.heap.size ≤ o) (E_a : Exa Z h0 a "java/util/ArrayList") (F_ed_a : Fld Z h0 a "java/util/ArrayList" "elementData" "[Ljava/lang/Object;" (.ref d)) (F_sz_a : Fld Z h0 a "java/util/ArrayList" "size" "I" (.int (2 : Int32))) (E_d : Exa Z h0 d "[Ljava/lang/Object;") (V_d : Arv Z h0 d k (.object "java/lang/Object") (10 : Int32) [(.ref x1), (.ref x2), .null, .null, .null, .null, .null, .null, .null, .null] .null) (E_x1 : Exa Z h0 x1 "java/lang/String") (E_x2 : Exa Z h0 x2 "java/lang/String") :
    Con l Z (⟨"com/example/gridtally/gridtally/determinant/Column", "<init>", "(Ljava/lang/String;Lcom/example/gridtally/gridtally/determinant/Column$Kind;Ljava/util/List;)V"⟩ : MethodName) prog_3_method_1_code 4 none [] ({ frames := 8, cells := 2, slots := 4, locals := 101 } : Room) #[(.ref o), (.ref nme), (.ref kd), (.ref a)] h0 (Q_colInit2 Z o nme kd a d k x1 x2 h0) := by
  refine Con.walk (plainFor_of_name pn_13) ?_
  intro p e s m below meth c T0 X0 hx hZ hby hml hown hnm hret hlk e0
  obtain ⟨hw, ⟨cz, S_CS, hcz⟩, ⟨xde, xkde, S_DE, V_DE⟩, ⟨aEM, S_EM⟩, ⟨aEL, S_EL⟩, ⟨cO, kO, mrO, mir1, mir2, mir3⟩, ⟨k0, k1, k2, k3, k4, S_K0, S_K1, S_K2, S_K3, S_K4, kn0, kn2, kn3, kn4⟩⟩ := id hD
  have N0 := Fr.nil Z.heap.size
  have K0 : Keep h0 h0 [o] := Keep.refl _ _
  refine OEnds.cast (ef_colInit2 m o nme kd a) ?_
  refine OEnds.st (S' := T0.setTop (mkF m 1 #[.val (.ref o), .val (.ref nme), .val (.ref kd), .val (.ref a)] [(.ref o)])) (fun _ k => ?_) ?_
  · show Steps p.tables e below (T0.setTop (mkF m 0 #[.val (.ref o), .val (.ref nme), .val (.ref kd), .val (.ref a)] [])) _
    refine XS.aloadN X0.here hx rfl (hb hby d_prog_3_1_0) rfl rfl ?_
    exact k
  obtain ⟨_, T1, h1, L1, X1, e1, hQ1, st1⟩ := specC X0 hx hZ rfl hown (hw _ (List.mem_of_getElem? (i := 109) rfl)) (hw _ (List.mem_of_getElem? (i := 110) rfl)) (hw _ (List.mem_of_getElem? (i := 113) rfl)) (by decide) (kc := 0) (ks := 0) (Con.sb (W := 0) (rm_recInit l hD o O0) hZ (hw _ (List.mem_of_getElem? (i := 113) rfl)) (hw _ (List.mem_of_getElem? (i := 112) rfl)) (by decide) (by decide)) e0 (a := o) (g := (mkF m 1 #[.val (.ref o), .val (.ref nme), .val (.ref kd), .val (.ref a)] [(.ref o)])) rfl (by rw [hml]; rfl) (argsL := []) (rest := []) (lenOf pd_3 rfl) rfl (by show 2 * 0 + _ ≤ _; exact Nat.le_of_eq rfl) (hb hby d_prog_3_1_1) (by decide) (by decide)
  obtain ⟨rfl, Nq1, Hq1⟩ := hQ1
  refine OEnds.st (S' := T1.setTop (mkF m 4 #[.val (.ref o), .val (.ref nme), .val (.ref kd), .val (.ref a)] [])) st1 ?_
  replace N0 := Fr.app N0 Nq1
  replace e1 := e1.trans Hq1
  refine OEnds.st (S' := T1.setTop (mkF m 5 #[.val (.ref o), .val (.ref nme), .val (.ref kd), .val (.ref a)] [(.ref a)])) (fun _ k => ?_) ?_
  · show Steps p.tables e below (T1.setTop (mkF m 4 #[.val (.ref o), .val (.ref nme), .val (.ref kd), .val (.ref a)] [])) _
    refine XS.aloadN X1.here hx rfl (hb hby d_prog_3_1_4) rfl rfl ?_
    exact k
  obtain ⟨_, T2, h2, L2, X2, e2, hQ2, st2⟩ := callC X1 hx hZ hown (hw _ (List.mem_of_getElem? (i := 115) rfl)) (hw _ (List.mem_of_getElem? (i := 116) rfl)) (hw _ (List.mem_of_getElem? (i := 117) rfl)) (hw _ (List.mem_of_getElem? (i := 118) rfl)) (by decide) (kc := 2) (ks := 4) (Con.sb (W := 0) (rm_copyOfL2 l hD a d k x1 x2 O0 E_a F_ed_a F_sz_a E_d V_d E_x1 E_x2) hZ (hw _ (List.mem_of_getElem? (i := 118) rfl)) (hw _ (List.mem_of_getElem? (i := 117) rfl)) (by decide) (by decide)) e1 (g := (mkF m 5 #[.val (.ref o), .val (.ref nme), .val (.ref kd), .val (.ref a)] [(.ref a)])) rfl (by rw [hml]; rfl) (argsL := [(.ref a)]) (rest := []) (lenOf pd_12 rfl) rfl (by show 2 * 0 + _ ≤ _; exact Nat.le_of_eq rfl) (hb hby d_prog_3_1_5) (by decide) (by decide)
  obtain ⟨r2, rfl, Nq2, Kq2⟩ := hQ2
  refine OEnds.st (S' := T2.setTop (mkF m 8 #[.val (.ref o), .val (.ref nme), .val (.ref kd), .val (.ref a)] [(.ref r2)])) st2 ?_
  replace N0 := Fr.app N0 Nq2
  replace E_o := E_o.keep Kq2
  replace F_name_o := F_name_o.keep Kq2 nin0
  replace F_kind_o := F_kind_o.keep Kq2 nin0
  replace F_values_o := F_values_o.keep Kq2 nin0
  replace E_a := E_a.keep Kq2
  replace F_ed_a := F_ed_a.keep Kq2 nin0
  replace F_sz_a := F_sz_a.keep Kq2 nin0
  replace E_d := E_d.keep Kq2
  replace V_d := V_d.keep Kq2 nin0
  replace E_x1 := E_x1.keep Kq2
  replace E_x2 := E_x2.keep Kq2
  replace O0 : Ext Z.heap h2 := ext_keep O0 Kq2 all0
  replace K0 : Keep h0 h2 [o] := K0.trans Kq2 all0
  refine OEnds.st (S' := T2.setTop (mkF m 11 #[.val (.ref o), .val (.ref nme), .val (.ref kd), .val (.ref r2)] [(.ref nme), (.ref o)])) (fun _ k => ?_) ?_
  · show Steps p.tables e below (T2.setTop (mkF m 8 #[.val (.ref o), .val (.ref nme), .val (.ref kd), .val (.ref a)] [(.ref r2)])) _
    refine XS.astoreN X2.here hx rfl (hb hby d_prog_3_1_8) rfl rfl (l' := #[.val (.ref o), .val (.ref nme), .val (.ref kd), .val (.ref r2)]) rfl ?_
    show Steps p.tables e below (T2.setTop (mkF m 9 #[.val (.ref o), .val (.ref nme), .val (.ref kd), .val (.ref r2)] [])) _
    refine XS.aloadN X2.here hx rfl (hb hby d_prog_3_1_9) rfl rfl ?_
    show Steps p.tables e below (T2.setTop (mkF m 10 #[.val (.ref o), .val (.ref nme), .val (.ref kd), .val (.ref r2)] [(.ref o)])) _
    refine XS.aloadN X2.here hx rfl (hb hby d_prog_3_1_10) rfl rfl ?_
    exact k
  have ne_a_o : a ≠ o := ne_exa E_a E_o (by decide)
  have ne_d_o : d ≠ o := ne_exa E_d E_o (by decide)
  have ne_x1_o : x1 ≠ o := ne_exa E_x1 E_o (by decide)
  have ne_x2_o : x2 ≠ o := ne_exa E_x2 E_o (by decide)
  obtain ⟨T3, h3, X3, e3, W3, st3⟩ := putF X2 hx hZ hown (host := "") (Or.inl (hw _ (List.mem_of_getElem? (i := 200) rfl))) Via.refl e2 F_name_o E_o (Or.inr ⟨(hw _ (List.mem_of_getElem? (i := 201) rfl)), rfl, hnm⟩) (hw _ (List.mem_of_getElem? (i := 104) rfl)) (ty := (.object "java/lang/String")) (by decide) rfl rfl (g := (mkF m 11 #[.val (.ref o), .val (.ref nme), .val (.ref kd), .val (.ref r2)] [(.ref nme), (.ref o)])) rfl rfl (hb hby d_prog_3_1_11)
  refine OEnds.st (S' := T3.setTop (mkF m 14 #[.val (.ref o), .val (.ref nme), .val (.ref kd), .val (.ref r2)] [])) st3 ?_
  replace E_o := E_o.wr W3
  replace F_name_o := F_name_o.same W3
  replace F_kind_o := F_kind_o.other W3 (Or.inr (slot_ne (Or.inr (hw _ (List.mem_of_getElem? (i := 203) rfl))) (Or.inr (hw _ (List.mem_of_getElem? (i := 201) rfl))) (by decide) (t := (.object "com/example/gridtally/gridtally/determinant/Column$Kind")) (t' := (.object "java/lang/String")) (by decide) (by decide)))
  replace F_values_o := F_values_o.other W3 (Or.inr (slot_ne (Or.inr (hw _ (List.mem_of_getElem? (i := 205) rfl))) (Or.inr (hw _ (List.mem_of_getElem? (i := 201) rfl))) (by decide) (t := (.object "java/util/List")) (t' := (.object "java/lang/String")) (by decide) (by decide)))
  replace E_a := E_a.wr W3
  replace F_ed_a := F_ed_a.other W3 (Or.inl ne_a_o)
  replace F_sz_a := F_sz_a.other W3 (Or.inl ne_a_o)
  replace E_d := E_d.wr W3
  replace V_d := V_d.other W3 ne_d_o
  replace E_x1 := E_x1.wr W3
  replace E_x2 := E_x2.wr W3
  replace O0 : Ext Z.heap h3 := ext_wr O0 W3 ge_o
  replace N0 := Fr.snoc X3 N0 ge_o
  replace K0 : Keep h0 h3 [o] := K0.wr W3 (Or.inl (List.mem_of_getElem? (i := 0) rfl))
  refine OEnds.st (S' := T3.setTop (mkF m 16 #[.val (.ref o), .val (.ref nme), .val (.ref kd), .val (.ref r2)] [(.ref kd), (.ref o)])) (fun _ k => ?_) ?_
  · show Steps p.tables e below (T3.setTop (mkF m 14 #[.val (.ref o), .val (.ref nme), .val (.ref kd), .val (.ref r2)] [])) _
    refine XS.aloadN X3.here hx rfl (hb hby d_prog_3_1_14) rfl rfl ?_
    show Steps p.tables e below (T3.setTop (mkF m 15 #[.val (.ref o), .val (.ref nme), .val (.ref kd), .val (.ref r2)] [(.ref o)])) _
    refine XS.aloadN X3.here hx rfl (hb hby d_prog_3_1_15) rfl rfl ?_
    exact k
  obtain ⟨T4, h4, X4, e4, W4, st4⟩ := putF X3 hx hZ hown (host := "") (Or.inl (hw _ (List.mem_of_getElem? (i := 202) rfl))) Via.refl e3 F_kind_o E_o (Or.inr ⟨(hw _ (List.mem_of_getElem? (i := 203) rfl)), rfl, hnm⟩) (hw _ (List.mem_of_getElem? (i := 104) rfl)) (ty := (.object "com/example/gridtally/gridtally/determinant/Column$Kind")) (by decide) rfl rfl (g := (mkF m 16 #[.val (.ref o), .val (.ref nme), .val (.ref kd), .val (.ref r2)] [(.ref kd), (.ref o)])) rfl rfl (hb hby d_prog_3_1_16)
  refine OEnds.st (S' := T4.setTop (mkF m 19 #[.val (.ref o), .val (.ref nme), .val (.ref kd), .val (.ref r2)] [])) st4 ?_
  replace E_o := E_o.wr W4
  replace F_name_o := F_name_o.other W4 (Or.inr (slot_ne (Or.inr (hw _ (List.mem_of_getElem? (i := 201) rfl))) (Or.inr (hw _ (List.mem_of_getElem? (i := 203) rfl))) (by decide) (t := (.object "java/lang/String")) (t' := (.object "com/example/gridtally/gridtally/determinant/Column$Kind")) (by decide) (by decide)))
  replace F_kind_o := F_kind_o.same W4
  replace F_values_o := F_values_o.other W4 (Or.inr (slot_ne (Or.inr (hw _ (List.mem_of_getElem? (i := 205) rfl))) (Or.inr (hw _ (List.mem_of_getElem? (i := 203) rfl))) (by decide) (t := (.object "java/util/List")) (t' := (.object "com/example/gridtally/gridtally/determinant/Column$Kind")) (by decide) (by decide)))
  replace E_a := E_a.wr W4
  replace F_ed_a := F_ed_a.other W4 (Or.inl ne_a_o)
  replace F_sz_a := F_sz_a.other W4 (Or.inl ne_a_o)
  replace E_d := E_d.wr W4
  replace V_d := V_d.other W4 ne_d_o
  replace E_x1 := E_x1.wr W4
  replace E_x2 := E_x2.wr W4
  replace O0 : Ext Z.heap h4 := ext_wr O0 W4 ge_o
  replace N0 := Fr.snoc X4 N0 ge_o
  replace K0 : Keep h0 h4 [o] := K0.wr W4 (Or.inl (List.mem_of_getElem? (i := 0) rfl))
  refine OEnds.st (S' := T4.setTop (mkF m 21 #[.val (.ref o), .val (.ref nme), .val (.ref kd), .val (.ref r2)] [(.ref r2), (.ref o)])) (fun _ k => ?_) ?_
  · show Steps p.tables e below (T4.setTop (mkF m 19 #[.val (.ref o), .val (.ref nme), .val (.ref kd), .val (.ref r2)] [])) _
    refine XS.aloadN X4.here hx rfl (hb hby d_prog_3_1_19) rfl rfl ?_
    show Steps p.tables e below (T4.setTop (mkF m 20 #[.val (.ref o), .val (.ref nme), .val (.ref kd), .val (.ref r2)] [(.ref o)])) _
    refine XS.aloadN X4.here hx rfl (hb hby d_prog_3_1_20) rfl rfl ?_
    exact k
  obtain ⟨T5, h5, X5, e5, W5, st5⟩ := putF X4 hx hZ hown (host := "") (Or.inl (hw _ (List.mem_of_getElem? (i := 204) rfl))) Via.refl e4 F_values_o E_o (Or.inr ⟨(hw _ (List.mem_of_getElem? (i := 205) rfl)), rfl, hnm⟩) (hw _ (List.mem_of_getElem? (i := 104) rfl)) (ty := (.object "java/util/List")) (by decide) rfl rfl (g := (mkF m 21 #[.val (.ref o), .val (.ref nme), .val (.ref kd), .val (.ref r2)] [(.ref r2), (.ref o)])) rfl rfl (hb hby d_prog_3_1_21)
  refine OEnds.st (S' := T5.setTop (mkF m 24 #[.val (.ref o), .val (.ref nme), .val (.ref kd), .val (.ref r2)] [])) st5 ?_
  replace E_o := E_o.wr W5
  replace F_name_o := F_name_o.other W5 (Or.inr (slot_ne (Or.inr (hw _ (List.mem_of_getElem? (i := 201) rfl))) (Or.inr (hw _ (List.mem_of_getElem? (i := 205) rfl))) (by decide) (t := (.object "java/lang/String")) (t' := (.object "java/util/List")) (by decide) (by decide)))
  replace F_kind_o := F_kind_o.other W5 (Or.inr (slot_ne (Or.inr (hw _ (List.mem_of_getElem? (i := 203) rfl))) (Or.inr (hw _ (List.mem_of_getElem? (i := 205) rfl))) (by decide) (t := (.object "com/example/gridtally/gridtally/determinant/Column$Kind")) (t' := (.object "java/util/List")) (by decide) (by decide)))
  replace F_values_o := F_values_o.same W5
  replace E_a := E_a.wr W5
  replace F_ed_a := F_ed_a.other W5 (Or.inl ne_a_o)
  replace F_sz_a := F_sz_a.other W5 (Or.inl ne_a_o)
  replace E_d := E_d.wr W5
  replace V_d := V_d.other W5 ne_d_o
  replace E_x1 := E_x1.wr W5
  replace E_x2 := E_x2.wr W5
  replace O0 : Ext Z.heap h5 := ext_wr O0 W5 ge_o
  replace N0 := Fr.snoc X5 N0 ge_o
  replace K0 : Keep h0 h5 [o] := K0.wr W5 (Or.inl (List.mem_of_getElem? (i := 0) rfl))
  exact OEnds.retV X5 hx hret hlk (hb hby d_prog_3_1_24) (by decide) (by decide) (by rw [e5]; exact ⟨rfl, N0, K0, E_o, F_kind_o⟩)
-- java/util/ArrayList.isEmpty:()Z
def Q_isEmp3 (Z : State) (a : Addr) (h0 : Heap) (v : Option Value) (h : Heap) (L : List Loc) : Prop := v = some (.int 0) ∧ Fr Z.heap.size L ∧ h = h0
theorem ef_isEmp3 (m : MethodId) (a : Addr) : entryFrame m #[(.ref a)] 1 = mkF m 0 #[.val (.ref a)] [] := by first | (simp [entryFrame, mkF, argsToLocals, Value.category]; done) | rfl
set_option maxRecDepth 65536 in
set_option maxHeartbeats 40000000 in
theorem rm_isEmp3 (l : Launch) {Z : State} {a0 : Array Value} (hD : Wd Z a0) (a : Addr) {h0 : Heap} (O0 : Ext Z.heap h0) (F_sz_a : Fld Z h0 a "java/util/ArrayList" "size" "I" (.int (3 : Int32))) :
    Con l Z (⟨"java/util/ArrayList", "isEmpty", "()Z"⟩ : MethodName) jdk_38_method_9_code 1 (some .boolean) [] ({ frames := 0, cells := 0, slots := 0, locals := 0 } : Room) #[(.ref a)] h0 (Q_isEmp3 Z a h0) := by
  refine Con.walk (plainFor_of_name pn_8) ?_
  intro p e s m below meth c T0 X0 hx hZ hby hml hown hnm hret hlk e0
  obtain ⟨hw, ⟨cz, S_CS, hcz⟩, ⟨xde, xkde, S_DE, V_DE⟩, ⟨aEM, S_EM⟩, ⟨aEL, S_EL⟩, ⟨cO, kO, mrO, mir1, mir2, mir3⟩, ⟨k0, k1, k2, k3, k4, S_K0, S_K1, S_K2, S_K3, S_K4, kn0, kn2, kn3, kn4⟩⟩ := id hD
  have N0 := Fr.nil Z.heap.size
  refine OEnds.cast (ef_isEmp3 m a) ?_
  refine OEnds.st (S' := T0.setTop (mkF m 1 #[.val (.ref a)] [(.ref a)])) (fun _ k => ?_) ?_
  · show Steps p.tables e below (T0.setTop (mkF m 0 #[.val (.ref a)] [])) _
    refine XS.aloadN X0.here hx rfl (hb hby d_jdk_38_9_0) rfl rfl ?_
    exact k
  obtain ⟨T1, X1, e1, st1⟩ := getF X0 hx hZ hown (host := "") (Or.inl (hw _ (List.mem_of_getElem? (i := 79) rfl))) Via.refl e0 F_sz_a (g := (mkF m 1 #[.val (.ref a)] [(.ref a)])) rfl rfl (hb hby d_jdk_38_9_1)
  refine OEnds.st (S' := T1.setTop (mkF m 4 #[.val (.ref a)] [(.int (3 : Int32))])) st1 ?_
  refine OEnds.st (S' := T1.setTop (mkF m 12 #[.val (.ref a)] [(.int (0 : Int32))])) (fun _ k => ?_) ?_
  · show Steps p.tables e below (T1.setTop (mkF m 4 #[.val (.ref a)] [(.int (3 : Int32))])) _
    refine XS.ifYes X1.here hx rfl (pc0 := 4) (pc' := 11) rfl (hb hby d_jdk_38_9_4) rfl ((if0 _ _).trans (feq (by decide)).2) (by decide) (by decide) ?_
    show Steps p.tables e below (T1.setTop (mkF m 11 #[.val (.ref a)] [])) _
    refine XS.iconst X1.here hx rfl (hb hby d_jdk_38_9_11) ?_
    exact k
  exact OEnds.ret X1 hx hret hlk (by decide) (Or.inl ⟨rfl, by simp, _, rfl⟩) (hb hby d_jdk_38_9_12) (by decide) (by decide) (by rw [e1]; exact ⟨rfl, N0, rfl⟩)
-- java/util/Arrays.copyOf:([Ljava/lang/Object;ILjava/lang/Class;)[Ljava/lang/Object;
def Q_copy3_3 (Z : State) (d : Addr) (mr : Addr) (k : ClassId) (cO : ClassId) (kO : Class) (x1 : Addr) (x2 : Addr) (x3 : Addr) (h0 : Heap) (v : Option Value) (h : Heap) (L : List Loc) : Prop := ∃ (r : Addr) (kr : ClassId), v = some (.ref r) ∧ Fr Z.heap.size L ∧ Keep h0 h [] ∧ h0.size ≤ r ∧ Arv Z h r kr (.object "java/lang/Object") (3 : Int32) [(.ref x1), (.ref x2), (.ref x3)] .null
theorem ef_copy3_3 (m : MethodId) (d : Addr) (mr : Addr) : entryFrame m #[(.ref d), (.int (3 : Int32)), (.ref mr)] 4 = mkF m 0 #[.val (.ref d), .val (.int (3 : Int32)), .val (.ref mr), .unset] [] := by first | (simp [entryFrame, mkF, argsToLocals, Value.category]; done) | rfl
set_option maxRecDepth 65536 in
set_option maxHeartbeats 40000000 in
theorem rm_copy3_3 (l : Launch) {Z : State} {a0 : Array Value} (hD : Wd Z a0) (d : Addr) (mr : Addr) (k : ClassId) (cO : ClassId) (kO : Class) (x1 : Addr) (x2 : Addr) (x3 : Addr) {h0 : Heap} (O0 : Ext Z.heap h0) (E_d : Exa Z h0 d "[Ljava/lang/Object;") (V_d : Arv Z h0 d k (.object "java/lang/Object") (10 : Int32) [(.ref x1), (.ref x2), (.ref x3), .null, .null, .null, .null, .null, .null, .null] .null) (E_x1 : Exa Z h0 x1 "java/lang/String") (E_x2 : Exa Z h0 x2 "java/lang/String") (E_x3 : Exa Z h0 x3 "java/lang/String") (m1 : Z.vm.findClass "[Ljava/lang/Object;" = some cO) (m2 : Z.vm.classes[cO]? = some kO) (m3 : kO.mirror = some mr) :
    Con l Z (⟨"java/util/Arrays", "copyOf", "([Ljava/lang/Object;ILjava/lang/Class;)[Ljava/lang/Object;"⟩ : MethodName) jdk_65_method_120_code 4 (some (.array (.object "java/lang/Object"))) [] ({ frames := 1, cells := 1, slots := 3, locals := 18 } : Room) #[(.ref d), (.int (3 : Int32)), (.ref mr)] h0 (Q_copy3_3 Z d mr k cO kO x1 x2 x3 h0) := by
  refine Con.walk (plainFor_of_name pn_14) ?_
  intro p e s m below meth c T0 X0 hx hZ hby hml hown hnm hret hlk e0
  obtain ⟨hw, ⟨cz, S_CS, hcz⟩, ⟨xde, xkde, S_DE, V_DE⟩, ⟨aEM, S_EM⟩, ⟨aEL, S_EL⟩, ⟨cO, kO, mrO, mir1, mir2, mir3⟩, ⟨k0, k1, k2, k3, k4, S_K0, S_K1, S_K2, S_K3, S_K4, kn0, kn2, kn3, kn4⟩⟩ := id hD
  have N0 := Fr.nil Z.heap.size
  have K0 : Keep h0 h0 [] := Keep.refl _ _
  refine OEnds.cast (ef_copy3_3 m d mr) ?_
  refine OEnds.st (S' := T0.setTop (mkF m 1 #[.val (.ref d), .val (.int (3 : Int32)), .val (.ref mr), .unset] [(.ref mr)])) (fun _ k => ?_) ?_
  · show Steps p.tables e below (T0.setTop (mkF m 0 #[.val (.ref d), .val (.int (3 : Int32)), .val (.ref mr), .unset] [])) _
    refine XS.aloadN X0.here hx rfl (hb hby d_jdk_65_120_0) rfl rfl ?_
    exact k
  obtain ⟨T1, X1, e1, st1⟩ := ldcM X0 hx hZ hown (hw _ (List.mem_of_getElem? (i := 159) rfl)) e0 m1 m2 m3 (g := (mkF m 1 #[.val (.ref d), .val (.int (3 : Int32)), .val (.ref mr), .unset] [(.ref mr)])) rfl (hb hby d_jdk_65_120_1)
  refine OEnds.st (S' := T1.setTop (mkF m 3 #[.val (.ref d), .val (.int (3 : Int32)), .val (.ref mr), .unset] [(.ref mr), (.ref mr)])) st1 ?_
  refine OEnds.st (S' := T1.setTop (mkF m 7 #[.val (.ref d), .val (.int (3 : Int32)), .val (.ref mr), .unset] [(.int (3 : Int32))])) (fun _ k => ?_) ?_
  · show Steps p.tables e below (T1.setTop (mkF m 3 #[.val (.ref d), .val (.int (3 : Int32)), .val (.ref mr), .unset] [(.ref mr), (.ref mr)])) _
    have hq3 : Jvm.Free.XT.acmp .ne ((.ref mr) : Value) ((.ref mr) : Value) = false := (Jvm.Free.XT.aa_ne_f rfl)
    refine Jvm.Free.XT.acmpNo X1.here hx rfl (hb hby d_jdk_65_120_3) rfl rfl rfl hq3 ?_
    show Steps p.tables e below (T1.setTop (mkF m 6 #[.val (.ref d), .val (.int (3 : Int32)), .val (.ref mr), .unset] [])) _
    refine XS.iloadN X1.here hx rfl (hb hby d_jdk_65_120_6) rfl ?_
    exact k
  obtain ⟨T2, h2, k2, X2, e2, E2, A2, Ex2, Ov2, st2⟩ := newRE X1 hx hZ hown (hw _ (List.mem_of_getElem? (i := 160) rfl)) (hw _ (List.mem_of_getElem? (i := 101) rfl)) e1 (g := (mkF m 7 #[.val (.ref d), .val (.int (3 : Int32)), .val (.ref mr), .unset] [(.int (3 : Int32))])) rfl (hb hby d_jdk_65_120_7) rfl (by decide) (cap := 3) (by decide) (by decide) (by decide) (by decide) (ad := "[Ljava/lang/Object;") (by decide)
  obtain ⟨b2, g2⟩ : ∃ z, z = h0.size := ⟨_, rfl⟩
  rw [← g2] at A2 Ex2 st2
  refine OEnds.st (S' := T2.setTop (mkF m 10 #[.val (.ref d), .val (.int (3 : Int32)), .val (.ref mr), .unset] [(.ref b2)])) st2 ?_
  have ne_d_b2 : d ≠ b2 := Nat.ne_of_lt (Nat.lt_of_lt_of_le E_d.lt (Nat.le_of_eq g2.symm))
  have ne_x1_b2 : x1 ≠ b2 := Nat.ne_of_lt (Nat.lt_of_lt_of_le E_x1.lt (Nat.le_of_eq g2.symm))
  have ne_x2_b2 : x2 ≠ b2 := Nat.ne_of_lt (Nat.lt_of_lt_of_le E_x2.lt (Nat.le_of_eq g2.symm))
  have ne_x3_b2 : x3 ≠ b2 := Nat.ne_of_lt (Nat.lt_of_lt_of_le E_x3.lt (Nat.le_of_eq g2.symm))
  have ge_b2 : Z.heap.size ≤ b2 := Nat.le_trans O0.1 (Nat.le_of_eq g2.symm)
  have sz_b2 : h0.size ≤ b2 := Nat.le_trans K0.1 (Nat.le_of_eq g2.symm)
  replace E_d := E_d.ext E2
  replace V_d := V_d.ext E2
  replace E_x1 := E_x1.ext E2
  replace E_x2 := E_x2.ext E2
  replace E_x3 := E_x3.ext E2
  replace O0 : Ext Z.heap h2 := ext_trans O0 E2
  replace K0 : Keep h0 h2 [] := K0.ext E2
  have V_b2 : Arv Z h2 b2 k2 (.object "java/lang/Object") (3 : Int32) [.null, .null, .null] .null := (Arv.new A2 (by decide)).pad (pad_rep [] .null 3)
  refine OEnds.st (S' := T2.setTop (mkF m 30 #[.val (.ref d), .val (.int (3 : Int32)), .val (.ref mr), .val (.ref b2)] [(.ref d), (.int (0 : Int32)), (.ref b2), (.int (0 : Int32)), (.ref d)])) (fun _ k => ?_) ?_
  · show Steps p.tables e below (T2.setTop (mkF m 10 #[.val (.ref d), .val (.int (3 : Int32)), .val (.ref mr), .unset] [(.ref b2)])) _
    refine XS.goto X2.here hx rfl (pc0 := 10) (pc' := 24) rfl (hb hby d_jdk_65_120_10) (by decide) (by decide) ?_
    show Steps p.tables e below (T2.setTop (mkF m 24 #[.val (.ref d), .val (.int (3 : Int32)), .val (.ref mr), .unset] [(.ref b2)])) _
    refine XS.astoreN X2.here hx rfl (hb hby d_jdk_65_120_24) rfl rfl (l' := #[.val (.ref d), .val (.int (3 : Int32)), .val (.ref mr), .val (.ref b2)]) rfl ?_
    show Steps p.tables e below (T2.setTop (mkF m 25 #[.val (.ref d), .val (.int (3 : Int32)), .val (.ref mr), .val (.ref b2)] [])) _
    refine XS.aloadN X2.here hx rfl (hb hby d_jdk_65_120_25) rfl rfl ?_
    show Steps p.tables e below (T2.setTop (mkF m 26 #[.val (.ref d), .val (.int (3 : Int32)), .val (.ref mr), .val (.ref b2)] [(.ref d)])) _
    refine XS.iconst X2.here hx rfl (hb hby d_jdk_65_120_26) ?_
    show Steps p.tables e below (T2.setTop (mkF m 27 #[.val (.ref d), .val (.int (3 : Int32)), .val (.ref mr), .val (.ref b2)] [(.int (0 : Int32)), (.ref d)])) _
    refine XS.aloadN X2.here hx rfl (hb hby d_jdk_65_120_27) rfl rfl ?_
    show Steps p.tables e below (T2.setTop (mkF m 28 #[.val (.ref d), .val (.int (3 : Int32)), .val (.ref mr), .val (.ref b2)] [(.ref b2), (.int (0 : Int32)), (.ref d)])) _
    refine XS.iconst X2.here hx rfl (hb hby d_jdk_65_120_28) ?_
    show Steps p.tables e below (T2.setTop (mkF m 29 #[.val (.ref d), .val (.int (3 : Int32)), .val (.ref mr), .val (.ref b2)] [(.int (0 : Int32)), (.ref b2), (.int (0 : Int32)), (.ref d)])) _
    refine XS.aloadN X2.here hx rfl (hb hby d_jdk_65_120_29) rfl rfl ?_
    exact k
  obtain ⟨cl_d_3, Ar_d_3, q_d_3, S_d_3, N_d_3, H_d_3, G_d_3⟩ := id V_d
  refine OEnds.st (S' := T2.setTop (mkF m 31 #[.val (.ref d), .val (.int (3 : Int32)), .val (.ref mr), .val (.ref b2)] [(.int (10 : Int32)), (.int (0 : Int32)), (.ref b2), (.int (0 : Int32)), (.ref d)])) (fun tg kk => X2.arraylength hx (by rw [e2]; exact Ar_d_3.1) (State.isArrayOf_alike hZ.alike Ar_d_3.2.1) (g := (mkF m 30 #[.val (.ref d), .val (.int (3 : Int32)), .val (.ref mr), .val (.ref b2)] [(.ref d), (.int (0 : Int32)), (.ref b2), (.int (0 : Int32)), (.ref d)])) rfl rfl (hb hby d_jdk_65_120_30) tg (by rw [len_of S_d_3 N_d_3]; exact kk)) ?_
  refine OEnds.st (S' := T2.setTop (mkF m 32 #[.val (.ref d), .val (.int (3 : Int32)), .val (.ref mr), .val (.ref b2)] [(.int (3 : Int32)), (.int (10 : Int32)), (.int (0 : Int32)), (.ref b2), (.int (0 : Int32)), (.ref d)])) (fun _ k => ?_) ?_
  · show Steps p.tables e below (T2.setTop (mkF m 31 #[.val (.ref d), .val (.int (3 : Int32)), .val (.ref mr), .val (.ref b2)] [(.int (10 : Int32)), (.int (0 : Int32)), (.ref b2), (.int (0 : Int32)), (.ref d)])) _
    refine XS.iloadN X2.here hx rfl (hb hby d_jdk_65_120_31) rfl ?_
    exact k
  obtain ⟨_, T4, h4, L4, X4, e4, hQ4, st4⟩ := callC X2 hx hZ hown (hw _ (List.mem_of_getElem? (i := 161) rfl)) (hw _ (List.mem_of_getElem? (i := 162) rfl)) (hw _ (List.mem_of_getElem? (i := 98) rfl)) (hw _ (List.mem_of_getElem? (i := 163) rfl)) (by decide) (kc := 0) (ks := 0) (Con.sb (W := 4) (rm_mathMin l hD (10 : Int32) (3 : Int32) O0 (by decide)) hZ (hw _ (List.mem_of_getElem? (i := 163) rfl)) (hw _ (List.mem_of_getElem? (i := 98) rfl)) (by decide) (by decide)) e2 (g := (mkF m 32 #[.val (.ref d), .val (.int (3 : Int32)), .val (.ref mr), .val (.ref b2)] [(.int (3 : Int32)), (.int (10 : Int32)), (.int (0 : Int32)), (.ref b2), (.int (0 : Int32)), (.ref d)])) rfl (by rw [hml]; rfl) (argsL := [(.int (10 : Int32)), (.int (3 : Int32))]) (rest := [(.int (0 : Int32)), (.ref b2), (.int (0 : Int32)), (.ref d)]) (lenOf pd_4 rfl) rfl (by show 2 * 0 + _ ≤ _; exact Nat.le_of_eq rfl) (hb hby d_jdk_65_120_32) (by decide) (by decide)
  obtain ⟨rfl, Nq4, Hq4⟩ := hQ4
  refine OEnds.st (S' := T4.setTop (mkF m 35 #[.val (.ref d), .val (.int (3 : Int32)), .val (.ref mr), .val (.ref b2)] [(.int (3 : Int32)), (.int (0 : Int32)), (.ref b2), (.int (0 : Int32)), (.ref d)])) st4 ?_
  replace N0 := Fr.app N0 Nq4
  replace e4 := e4.trans Hq4
  obtain ⟨cl_d, Ar_d, q_d, -⟩ := id V_b2
  obtain ⟨T5, h5, L5, X5, e5, Nw5, Kq5, V5, st5⟩ := cpA X4 hx hZ hown (hw _ (List.mem_of_getElem? (i := 164) rfl)) (hw _ (List.mem_of_getElem? (i := 167) rfl)) (hw _ (List.mem_of_getElem? (i := 165) rfl)) (hw _ (List.mem_of_getElem? (i := 166) rfl)) e4 V_d V_b2 (us := [(.ref x1), (.ref x2), (.ref x3)]) (Or.inr ⟨rfl, rfl, ⟨Sto.ofV Ar_d q_d Ov2 (Ins.of_exa E_x1 (hw _ (List.mem_of_getElem? (i := 102) rfl))), Sto.ofV Ar_d q_d Ov2 (Ins.of_exa E_x2 (hw _ (List.mem_of_getElem? (i := 102) rfl))), Sto.ofV Ar_d q_d Ov2 (Ins.of_exa E_x3 (hw _ (List.mem_of_getElem? (i := 102) rfl))), trivial⟩⟩) (by decide) (by decide) (by decide) (by decide) (by decide) rfl (Nat.le_of_ble_eq_true rfl) N0 ge_b2 (g := (mkF m 35 #[.val (.ref d), .val (.int (3 : Int32)), .val (.ref mr), .val (.ref b2)] [(.int (3 : Int32)), (.int (0 : Int32)), (.ref b2), (.int (0 : Int32)), (.ref d)])) rfl (by rw [hml]; rfl) rfl (hb hby d_jdk_65_120_35) (by decide) (W := 0) (by show 2 * 0 + _ ≤ _; exact Nat.le_of_eq rfl) (by decide)
  replace N0 := Nw5
  refine OEnds.st (S' := T5.setTop (mkF m 38 #[.val (.ref d), .val (.int (3 : Int32)), .val (.ref mr), .val (.ref b2)] [])) st5 ?_
  replace E_d := E_d.keep Kq5
  replace V_d := V_d.keep Kq5 (ninS ne_d_b2 nin0)
  replace E_x1 := E_x1.keep Kq5
  replace E_x2 := E_x2.keep Kq5
  replace E_x3 := E_x3.keep Kq5
  replace Ex2 := Ex2.keep Kq5
  replace O0 : Ext Z.heap h5 := ext_keep O0 Kq5 (allS ge_b2 all0)
  replace K0 : Keep h0 h5 [] := K0.trans Kq5 (allS (Or.inr sz_b2) all0)
  have V_b2_5 : Arv Z h5 b2 k2 (.object "java/lang/Object") (3 : Int32) [(.ref x1), (.ref x2), (.ref x3)] .null := V5
  refine OEnds.st (S' := T5.setTop (mkF m 39 #[.val (.ref d), .val (.int (3 : Int32)), .val (.ref mr), .val (.ref b2)] [(.ref b2)])) (fun _ k => ?_) ?_
  · show Steps p.tables e below (T5.setTop (mkF m 38 #[.val (.ref d), .val (.int (3 : Int32)), .val (.ref mr), .val (.ref b2)] [])) _
    refine XS.aloadN X5.here hx rfl (hb hby d_jdk_65_120_38) rfl rfl ?_
    exact k
  exact OEnds.ret X5 hx hret hlk rfl (Or.inr (Or.inr (Or.inr (Or.inr ⟨rfl, rfl, rfl⟩)))) (hb hby d_jdk_65_120_39) (by decide) (by decide) (by rw [e5]; exact ⟨b2, _, rfl, N0, K0, sz_b2, V_b2_5⟩)
-- java/util/Arrays.copyOf:([Ljava/lang/Object;I)[Ljava/lang/Object;
def Q_copy2_3 (Z : State) (d : Addr) (k : ClassId) (x1 : Addr) (x2 : Addr) (x3 : Addr) (h0 : Heap) (v : Option Value) (h : Heap) (L : List Loc) : Prop := ∃ (r : Addr) (kr : ClassId), v = some (.ref r) ∧ Fr Z.heap.size L ∧ Keep h0 h [] ∧ h0.size ≤ r ∧ Arv Z h r kr (.object "java/lang/Object") (3 : Int32) [(.ref x1), (.ref x2), (.ref x3)] .null
theorem ef_copy2_3 (m : MethodId) (d : Addr) : entryFrame m #[(.ref d), (.int (3 : Int32))] 2 = mkF m 0 #[.val (.ref d), .val (.int (3 : Int32))] [] := by first | (simp [entryFrame, mkF, argsToLocals, Value.category]; done) | rfl
set_option maxRecDepth 65536 in
set_option maxHeartbeats 40000000 in
theorem rm_copy2_3 (l : Launch) {Z : State} {a0 : Array Value} (hD : Wd Z a0) (d : Addr) (k : ClassId) (x1 : Addr) (x2 : Addr) (x3 : Addr) {h0 : Heap} (O0 : Ext Z.heap h0) (E_d : Exa Z h0 d "[Ljava/lang/Object;") (V_d : Arv Z h0 d k (.object "java/lang/Object") (10 : Int32) [(.ref x1), (.ref x2), (.ref x3), .null, .null, .null, .null, .null, .null, .null] .null) (E_x1 : Exa Z h0 x1 "java/lang/String") (E_x2 : Exa Z h0 x2 "java/lang/String") (E_x3 : Exa Z h0 x3 "java/lang/String") :
    Con l Z (⟨"java/util/Arrays", "copyOf", "([Ljava/lang/Object;I)[Ljava/lang/Object;"⟩ : MethodName) jdk_65_method_119_code 2 (some (.array (.object "java/lang/Object"))) [] ({ frames := 2, cells := 1, slots := 3, locals := 33 } : Room) #[(.ref d), (.int (3 : Int32))] h0 (Q_copy2_3 Z d k x1 x2 x3 h0) := by
  refine Con.walk (plainFor_of_name pn_14) ?_
  intro p e s m below meth c T0 X0 hx hZ hby hml hown hnm hret hlk e0
  obtain ⟨hw, ⟨cz, S_CS, hcz⟩, ⟨xde, xkde, S_DE, V_DE⟩, ⟨aEM, S_EM⟩, ⟨aEL, S_EL⟩, ⟨cO, kO, mrO, mir1, mir2, mir3⟩, ⟨k0, k1, k2, k3, k4, S_K0, S_K1, S_K2, S_K3, S_K4, kn0, kn2, kn3, kn4⟩⟩ := id hD
  have N0 := Fr.nil Z.heap.size
  have K0 : Keep h0 h0 [] := Keep.refl _ _
  refine OEnds.cast (ef_copy2_3 m d) ?_
  refine OEnds.st (S' := T0.setTop (mkF m 3 #[.val (.ref d), .val (.int (3 : Int32))] [(.ref d), (.int (3 : Int32)), (.ref d)])) (fun _ k => ?_) ?_
  · show Steps p.tables e below (T0.setTop (mkF m 0 #[.val (.ref d), .val (.int (3 : Int32))] [])) _
    refine XS.aloadN X0.here hx rfl (hb hby d_jdk_65_119_0) rfl rfl ?_
    show Steps p.tables e below (T0.setTop (mkF m 1 #[.val (.ref d), .val (.int (3 : Int32))] [(.ref d)])) _
    refine XS.iloadN X0.here hx rfl (hb hby d_jdk_65_119_1) rfl ?_
    show Steps p.tables e below (T0.setTop (mkF m 2 #[.val (.ref d), .val (.int (3 : Int32))] [(.int (3 : Int32)), (.ref d)])) _
    refine XS.aloadN X0.here hx rfl (hb hby d_jdk_65_119_2) rfl rfl ?_
    exact k
  obtain ⟨T1, X1, e1, st1⟩ := gclsM X0 hx hZ hown (hw _ (List.mem_of_getElem? (i := 150) rfl)) (hw _ (List.mem_of_getElem? (i := 151) rfl)) (hw _ (List.mem_of_getElem? (i := 153) rfl)) (hw _ (List.mem_of_getElem? (i := 152) rfl)) (hw _ (List.mem_of_getElem? (i := 154) rfl)) e0 E_d mir1 mir2 mir3 (g := (mkF m 3 #[.val (.ref d), .val (.int (3 : Int32))] [(.ref d), (.int (3 : Int32)), (.ref d)])) rfl (by rw [hml]; rfl) rfl (hb hby d_jdk_65_119_3) (by decide) (W := 2) (by show 2 * 0 + _ ≤ _; exact Nat.le_of_eq rfl) (by decide)
  refine OEnds.st (S' := T1.setTop (mkF m 6 #[.val (.ref d), .val (.int (3 : Int32))] [(.ref mrO), (.int (3 : Int32)), (.ref d)])) st1 ?_
  obtain ⟨_, T2, h2, L2, X2, e2, hQ2, st2⟩ := callC X1 hx hZ hown (hw _ (List.mem_of_getElem? (i := 156) rfl)) (hw _ (List.mem_of_getElem? (i := 157) rfl)) (hw _ (List.mem_of_getElem? (i := 148) rfl)) (hw _ (List.mem_of_getElem? (i := 158) rfl)) (by decide) (kc := 1) (ks := 3) (Con.sb (W := 0) (rm_copy3_3 l hD d mrO k cO kO x1 x2 x3 O0 E_d V_d E_x1 E_x2 E_x3 mir1 mir2 mir3) hZ (hw _ (List.mem_of_getElem? (i := 158) rfl)) (hw _ (List.mem_of_getElem? (i := 148) rfl)) (by decide) (by decide)) e1 (g := (mkF m 6 #[.val (.ref d), .val (.int (3 : Int32))] [(.ref mrO), (.int (3 : Int32)), (.ref d)])) rfl (by rw [hml]; rfl) (argsL := [(.ref d), (.int (3 : Int32)), (.ref mrO)]) (rest := []) (lenOf pd_13 rfl) rfl (by show 2 * 0 + _ ≤ _; exact Nat.le_of_eq rfl) (hb hby d_jdk_65_119_6) (by decide) (by decide)
  obtain ⟨r2, kr2, rfl, Nq2, Kq2, szq2, V2⟩ := hQ2
  refine OEnds.st (S' := T2.setTop (mkF m 9 #[.val (.ref d), .val (.int (3 : Int32))] [(.ref r2)])) st2 ?_
  replace N0 := Fr.app N0 Nq2
  have ne_d_r2 : d ≠ r2 := Nat.ne_of_lt (Nat.lt_of_lt_of_le E_d.lt szq2)
  have ne_x1_r2 : x1 ≠ r2 := Nat.ne_of_lt (Nat.lt_of_lt_of_le E_x1.lt szq2)
  have ne_x2_r2 : x2 ≠ r2 := Nat.ne_of_lt (Nat.lt_of_lt_of_le E_x2.lt szq2)
  have ne_x3_r2 : x3 ≠ r2 := Nat.ne_of_lt (Nat.lt_of_lt_of_le E_x3.lt szq2)
  have ge_r2 : Z.heap.size ≤ r2 := Nat.le_trans O0.1 szq2
  have sz_r2 : h0.size ≤ r2 := Nat.le_trans K0.1 szq2
  replace E_d := E_d.keep Kq2
  replace V_d := V_d.keep Kq2 nin0
  replace E_x1 := E_x1.keep Kq2
  replace E_x2 := E_x2.keep Kq2
  replace E_x3 := E_x3.keep Kq2
  replace O0 : Ext Z.heap h2 := ext_keep O0 Kq2 all0
  replace K0 : Keep h0 h2 [] := K0.trans Kq2 all0
  exact OEnds.ret X2 hx hret hlk rfl (Or.inr (Or.inr (Or.inr (Or.inr ⟨rfl, rfl, rfl⟩)))) (hb hby d_jdk_65_119_9) (by decide) (by decide) (by rw [e2]; exact ⟨r2, kr2, rfl, N0, K0, sz_r2, V2⟩)
-- java/util/ArrayList.toArray:()[Ljava/lang/Object;
def Q_toArr3 (Z : State) (a : Addr) (d : Addr) (k : ClassId) (x1 : Addr) (x2 : Addr) (x3 : Addr) (h0 : Heap) (v : Option Value) (h : Heap) (L : List Loc) : Prop := ∃ (r : Addr) (kr : ClassId), v = some (.ref r) ∧ Fr Z.heap.size L ∧ Keep h0 h [] ∧ h0.size ≤ r ∧ Arv Z h r kr (.object "java/lang/Object") (3 : Int32) [(.ref x1), (.ref x2), (.ref x3)] .null
theorem ef_toArr3 (m : MethodId) (a : Addr) : entryFrame m #[(.ref a)] 1 = mkF m 0 #[.val (.ref a)] [] := by first | (simp [entryFrame, mkF, argsToLocals, Value.category]; done) | rfl
set_option maxRecDepth 65536 in
set_option maxHeartbeats 40000000 in
theorem rm_toArr3 (l : Launch) {Z : State} {a0 : Array Value} (hD : Wd Z a0) (a : Addr) (d : Addr) (k : ClassId) (x1 : Addr) (x2 : Addr) (x3 : Addr) {h0 : Heap} (O0 : Ext Z.heap h0) (F_ed_a : Fld Z h0 a "java/util/ArrayList" "elementData" "[Ljava/lang/Object;" (.ref d)) (F_sz_a : Fld Z h0 a "java/util/ArrayList" "size" "I" (.int (3 : Int32))) (E_d : Exa Z h0 d "[Ljava/lang/Object;") (V_d : Arv Z h0 d k (.object "java/lang/Object") (10 : Int32) [(.ref x1), (.ref x2), (.ref x3), .null, .null, .null, .null, .null, .null, .null] .null) (E_x1 : Exa Z h0 x1 "java/lang/String") (E_x2 : Exa Z h0 x2 "java/lang/String") (E_x3 : Exa Z h0 x3 "java/lang/String") :
    Con l Z (⟨"java/util/ArrayList", "toArray", "()[Ljava/lang/Object;"⟩ : MethodName) jdk_38_method_16_code 1 (some (.array (.object "java/lang/Object"))) [] ({ frames := 3, cells := 1, slots := 3, locals := 46 } : Room) #[(.ref a)] h0 (Q_toArr3 Z a d k x1 x2 x3 h0) := by
  refine Con.walk (plainFor_of_name pn_8) ?_
  intro p e s m below meth c T0 X0 hx hZ hby hml hown hnm hret hlk e0
  obtain ⟨hw, ⟨cz, S_CS, hcz⟩, ⟨xde, xkde, S_DE, V_DE⟩, ⟨aEM, S_EM⟩, ⟨aEL, S_EL⟩, ⟨cO, kO, mrO, mir1, mir2, mir3⟩, ⟨k0, k1, k2, k3, k4, S_K0, S_K1, S_K2, S_K3, S_K4, kn0, kn2, kn3, kn4⟩⟩ := id hD
  have N0 := Fr.nil Z.heap.size
  have K0 : Keep h0 h0 [] := Keep.refl _ _
  refine OEnds.cast (ef_toArr3 m a) ?_
  refine OEnds.st (S' := T0.setTop (mkF m 1 #[.val (.ref a)] [(.ref a)])) (fun _ k => ?_) ?_
  · show Steps p.tables e below (T0.setTop (mkF m 0 #[.val (.ref a)] [])) _
    refine XS.aloadN X0.here hx rfl (hb hby d_jdk_38_16_0) rfl rfl ?_
    exact k
  obtain ⟨T1, X1, e1, st1⟩ := getF X0 hx hZ hown (host := "") (Or.inl (hw _ (List.mem_of_getElem? (i := 56) rfl))) Via.refl e0 F_ed_a (g := (mkF m 1 #[.val (.ref a)] [(.ref a)])) rfl rfl (hb hby d_jdk_38_16_1)
  refine OEnds.st (S' := T1.setTop (mkF m 4 #[.val (.ref a)] [(.ref d)])) st1 ?_
  refine OEnds.st (S' := T1.setTop (mkF m 5 #[.val (.ref a)] [(.ref a), (.ref d)])) (fun _ k => ?_) ?_
  · show Steps p.tables e below (T1.setTop (mkF m 4 #[.val (.ref a)] [(.ref d)])) _
    refine XS.aloadN X1.here hx rfl (hb hby d_jdk_38_16_4) rfl rfl ?_
    exact k
  obtain ⟨T2, X2, e2, st2⟩ := getF X1 hx hZ hown (host := "") (Or.inl (hw _ (List.mem_of_getElem? (i := 79) rfl))) Via.refl e1 F_sz_a (g := (mkF m 5 #[.val (.ref a)] [(.ref a), (.ref d)])) rfl rfl (hb hby d_jdk_38_16_5)
  refine OEnds.st (S' := T2.setTop (mkF m 8 #[.val (.ref a)] [(.int (3 : Int32)), (.ref d)])) st2 ?_
  obtain ⟨_, T3, h3, L3, X3, e3, hQ3, st3⟩ := callC X2 hx hZ hown (hw _ (List.mem_of_getElem? (i := 146) rfl)) (hw _ (List.mem_of_getElem? (i := 147) rfl)) (hw _ (List.mem_of_getElem? (i := 148) rfl)) (hw _ (List.mem_of_getElem? (i := 149) rfl)) (by decide) (kc := 1) (ks := 3) (Con.sb (W := 0) (rm_copy2_3 l hD d k x1 x2 x3 O0 E_d V_d E_x1 E_x2 E_x3) hZ (hw _ (List.mem_of_getElem? (i := 149) rfl)) (hw _ (List.mem_of_getElem? (i := 148) rfl)) (by decide) (by decide)) e2 (g := (mkF m 8 #[.val (.ref a)] [(.int (3 : Int32)), (.ref d)])) rfl (by rw [hml]; rfl) (argsL := [(.ref d), (.int (3 : Int32))]) (rest := []) (lenOf pd_14 rfl) rfl (by show 2 * 0 + _ ≤ _; exact Nat.le_of_eq rfl) (hb hby d_jdk_38_16_8) (by decide) (by decide)
  obtain ⟨r3, kr3, rfl, Nq3, Kq3, szq3, V3⟩ := hQ3
  refine OEnds.st (S' := T3.setTop (mkF m 11 #[.val (.ref a)] [(.ref r3)])) st3 ?_
  replace N0 := Fr.app N0 Nq3
  have ne_a_r3 : a ≠ r3 := Nat.ne_of_lt (Nat.lt_of_lt_of_le F_ed_a.lt szq3)
  have ne_d_r3 : d ≠ r3 := Nat.ne_of_lt (Nat.lt_of_lt_of_le E_d.lt szq3)
  have ne_x1_r3 : x1 ≠ r3 := Nat.ne_of_lt (Nat.lt_of_lt_of_le E_x1.lt szq3)
  have ne_x2_r3 : x2 ≠ r3 := Nat.ne_of_lt (Nat.lt_of_lt_of_le E_x2.lt szq3)
  have ne_x3_r3 : x3 ≠ r3 := Nat.ne_of_lt (Nat.lt_of_lt_of_le E_x3.lt szq3)
  have ge_r3 : Z.heap.size ≤ r3 := Nat.le_trans O0.1 szq3
  have sz_r3 : h0.size ≤ r3 := Nat.le_trans K0.1 szq3
  replace F_ed_a := F_ed_a.keep Kq3 nin0
  replace F_sz_a := F_sz_a.keep Kq3 nin0
  replace E_d := E_d.keep Kq3
  replace V_d := V_d.keep Kq3 nin0
  replace E_x1 := E_x1.keep Kq3
  replace E_x2 := E_x2.keep Kq3
  replace E_x3 := E_x3.keep Kq3
  replace O0 : Ext Z.heap h3 := ext_keep O0 Kq3 all0
  replace K0 : Keep h0 h3 [] := K0.trans Kq3 all0
  exact OEnds.ret X3 hx hret hlk rfl (Or.inr (Or.inr (Or.inr (Or.inr ⟨rfl, rfl, rfl⟩)))) (hb hby d_jdk_38_16_11) (by decide) (by decide) (by rw [e3]; exact ⟨r3, kr3, rfl, N0, K0, sz_r3, V3⟩)
-- java/util/List.of:([Ljava/lang/Object;)Ljava/util/List;
def Q_listOf3 (Z : State) (t : Addr) (kt : ClassId) (x1 : Addr) (x2 : Addr) (x3 : Addr) (h0 : Heap) (v : Option Value) (h : Heap) (L : List Loc) : Prop := ∃ r : Addr, v = some (.ref r) ∧ Fr Z.heap.size L ∧ Keep h0 h []
theorem ef_listOf3 (m : MethodId) (t : Addr) : entryFrame m #[(.ref t)] 2 = mkF m 0 #[.val (.ref t), .unset] [] := by first | (simp [entryFrame, mkF, argsToLocals, Value.category]; done) | rfl
theorem d_jdk_40_47_59 : decode jdk_40_method_47_code 59 = .ok (.aload_n 0, 1) := by decide +kernel
theorem d_jdk_40_47_60 : decode jdk_40_method_47_code 60 = .ok (.invokestatic 109, 3) := by decide +kernel
theorem d_jdk_40_47_63 : decode jdk_40_method_47_code 63 = .ok (.areturn, 1) := by decide +kernel
set_option maxRecDepth 65536 in
set_option maxHeartbeats 40000000 in
theorem rm_listOf3 (l : Launch) {Z : State} {a0 : Array Value} (hD : Wd Z a0) (t : Addr) (kt : ClassId) (x1 : Addr) (x2 : Addr) (x3 : Addr) {h0 : Heap} (O0 : Ext Z.heap h0) (V_t : Arv Z h0 t kt (.object "java/lang/Object") (3 : Int32) [(.ref x1), (.ref x2), (.ref x3)] .null) (E_x1 : Exa Z h0 x1 "java/lang/String") (E_x2 : Exa Z h0 x2 "java/lang/String") (E_x3 : Exa Z h0 x3 "java/lang/String") :
    Con l Z (⟨"java/util/List", "of", "([Ljava/lang/Object;)Ljava/util/List;"⟩ : MethodName) jdk_40_method_47_code 2 (some (.object "java/util/List")) [] ({ frames := 6, cells := 2, slots := 5, locals := 77 } : Room) #[(.ref t)] h0 (Q_listOf3 Z t kt x1 x2 x3 h0) := by
  refine Con.walk (plainFor_of_name pn_12) ?_
  intro p e s m below meth c T0 X0 hx hZ hby hml hown hnm hret hlk e0
  obtain ⟨hw, ⟨cz, S_CS, hcz⟩, ⟨xde, xkde, S_DE, V_DE⟩, ⟨aEM, S_EM⟩, ⟨aEL, S_EL⟩, ⟨cO, kO, mrO, mir1, mir2, mir3⟩, ⟨k0, k1, k2, k3, k4, S_K0, S_K1, S_K2, S_K3, S_K4, kn0, kn2, kn3, kn4⟩⟩ := id hD
  have N0 := Fr.nil Z.heap.size
  have K0 : Keep h0 h0 [] := Keep.refl _ _
  refine OEnds.cast (ef_listOf3 m t) ?_
  refine OEnds.st (S' := T0.setTop (mkF m 1 #[.val (.ref t), .unset] [(.ref t)])) (fun _ k => ?_) ?_
  · show Steps p.tables e below (T0.setTop (mkF m 0 #[.val (.ref t), .unset] [])) _
    refine XS.aloadN X0.here hx rfl (hb hby d_jdk_40_47_0) rfl rfl ?_
    exact k
  obtain ⟨cl_t_1, Ar_t_1, q_t_1, S_t_1, N_t_1, H_t_1, G_t_1⟩ := id V_t
  refine OEnds.st (S' := T0.setTop (mkF m 2 #[.val (.ref t), .unset] [(.int (3 : Int32))])) (fun tg kk => X0.arraylength hx (by rw [e0]; exact Ar_t_1.1) (State.isArrayOf_alike hZ.alike Ar_t_1.2.1) (g := (mkF m 1 #[.val (.ref t), .unset] [(.ref t)])) rfl rfl (hb hby d_jdk_40_47_1) tg (by rw [len_of S_t_1 N_t_1]; exact kk)) ?_
  refine OEnds.st (S' := T0.setTop (mkF m 60 #[.val (.ref t), .unset] [(.ref t)])) (fun _ k => ?_) ?_
  · show Steps p.tables e below (T0.setTop (mkF m 2 #[.val (.ref t), .unset] [(.int (3 : Int32))])) _
    refine XS.tswOut X0.here hx rfl (pc0 := 2) (pc' := 59) rfl (hb hby d_tsw) rfl (by decide) (by decide) (by decide) ?_
    show Steps p.tables e below (T0.setTop (mkF m 59 #[.val (.ref t), .unset] [])) _
    refine XS.aloadN X0.here hx rfl (hb hby d_jdk_40_47_59) rfl rfl ?_
    exact k
  obtain ⟨_, T2, h2, L2, X2, e2, hQ2, st2⟩ := callC X0 hx hZ hown (hw _ (List.mem_of_getElem? (i := 214) rfl)) (hw _ (List.mem_of_getElem? (i := 215) rfl)) (hw _ (List.mem_of_getElem? (i := 121) rfl)) (hw _ (List.mem_of_getElem? (i := 216) rfl)) (by decide) (kc := 2) (ks := 5) (Con.sb (W := 0) (rm_lfa l hD t kt x1 x2 x3 O0 V_t E_x1 E_x2 E_x3) hZ (hw _ (List.mem_of_getElem? (i := 216) rfl)) (hw _ (List.mem_of_getElem? (i := 121) rfl)) (by decide) (by decide)) e0 (g := (mkF m 60 #[.val (.ref t), .unset] [(.ref t)])) rfl (by rw [hml]; rfl) (argsL := [(.ref t)]) (rest := []) (lenOf pd_16 rfl) rfl (by show 2 * 0 + _ ≤ _; exact Nat.le_of_eq rfl) (hb hby d_jdk_40_47_60) (by decide) (by decide)
  obtain ⟨r2, rfl, Nq2, Kq2⟩ := hQ2
  refine OEnds.st (S' := T2.setTop (mkF m 63 #[.val (.ref t), .unset] [(.ref r2)])) st2 ?_
  replace N0 := Fr.app N0 Nq2
  replace V_t := V_t.keep Kq2 nin0
  replace E_x1 := E_x1.keep Kq2
  replace E_x2 := E_x2.keep Kq2
  replace E_x3 := E_x3.keep Kq2
  replace O0 : Ext Z.heap h2 := ext_keep O0 Kq2 all0
  replace K0 : Keep h0 h2 [] := K0.trans Kq2 all0
  exact OEnds.ret X2 hx hret hlk rfl (Or.inr (Or.inr (Or.inr (Or.inr ⟨rfl, rfl, rfl⟩)))) (hb hby d_jdk_40_47_63) (by decide) (by decide) (by rw [e2]; exact ⟨r2, rfl, N0, K0⟩)
-- java/util/ImmutableCollections.listCopy:(Ljava/util/Collection;)Ljava/util/List;
def Q_listCopy3 (Z : State) (a : Addr) (d : Addr) (k : ClassId) (x1 : Addr) (x2 : Addr) (x3 : Addr) (h0 : Heap) (v : Option Value) (h : Heap) (L : List Loc) : Prop := ∃ r : Addr, v = some (.ref r) ∧ Fr Z.heap.size L ∧ Keep h0 h []
theorem ef_listCopy3 (m : MethodId) (a : Addr) : entryFrame m #[(.ref a)] 2 = mkF m 0 #[.val (.ref a), .unset] [] := by first | (simp [entryFrame, mkF, argsToLocals, Value.category]; done) | rfl
set_option maxRecDepth 65536 in
set_option maxHeartbeats 40000000 in
theorem rm_listCopy3 (l : Launch) {Z : State} {a0 : Array Value} (hD : Wd Z a0) (a : Addr) (d : Addr) (k : ClassId) (x1 : Addr) (x2 : Addr) (x3 : Addr) {h0 : Heap} (O0 : Ext Z.heap h0) (E_a : Exa Z h0 a "java/util/ArrayList") (F_ed_a : Fld Z h0 a "java/util/ArrayList" "elementData" "[Ljava/lang/Object;" (.ref d)) (F_sz_a : Fld Z h0 a "java/util/ArrayList" "size" "I" (.int (3 : Int32))) (E_d : Exa Z h0 d "[Ljava/lang/Object;") (V_d : Arv Z h0 d k (.object "java/lang/Object") (10 : Int32) [(.ref x1), (.ref x2), (.ref x3), .null, .null, .null, .null, .null, .null, .null] .null) (E_x1 : Exa Z h0 x1 "java/lang/String") (E_x2 : Exa Z h0 x2 "java/lang/String") (E_x3 : Exa Z h0 x3 "java/lang/String") :
    Con l Z (⟨"java/util/ImmutableCollections", "listCopy", "(Ljava/util/Collection;)Ljava/util/List;"⟩ : MethodName) jdk_56_method_3_code 2 (some (.object "java/util/List")) [] ({ frames := 7, cells := 3, slots := 8, locals := 90 } : Room) #[(.ref a)] h0 (Q_listCopy3 Z a d k x1 x2 x3 h0) := by
  refine Con.walk (plainFor_of_name pn_11) ?_
  intro p e s m below meth c T0 X0 hx hZ hby hml hown hnm hret hlk e0
  obtain ⟨hw, ⟨cz, S_CS, hcz⟩, ⟨xde, xkde, S_DE, V_DE⟩, ⟨aEM, S_EM⟩, ⟨aEL, S_EL⟩, ⟨cO, kO, mrO, mir1, mir2, mir3⟩, ⟨k0, k1, k2, k3, k4, S_K0, S_K1, S_K2, S_K3, S_K4, kn0, kn2, kn3, kn4⟩⟩ := id hD
  have N0 := Fr.nil Z.heap.size
  have K0 : Keep h0 h0 [] := Keep.refl _ _
  refine OEnds.cast (ef_listCopy3 m a) ?_
  refine OEnds.st (S' := T0.setTop (mkF m 1 #[.val (.ref a), .unset] [(.ref a)])) (fun _ k => ?_) ?_
  · show Steps p.tables e below (T0.setTop (mkF m 0 #[.val (.ref a), .unset] [])) _
    refine XS.aloadN X0.here hx rfl (hb hby d_jdk_56_3_0) rfl rfl ?_
    exact k
  obtain ⟨T1, X1, e1, st1⟩ := instNo X0 hx hZ hown (hw _ (List.mem_of_getElem? (i := 123) rfl)) e0 E_a (no12 hw) (g := (mkF m 1 #[.val (.ref a), .unset] [(.ref a)])) rfl rfl (hb hby d_jdk_56_3_1)
  refine OEnds.st (S' := T1.setTop (mkF m 4 #[.val (.ref a), .unset] [(.int (0 : Int32))])) st1 ?_
  refine OEnds.st (S' := T1.setTop (mkF m 8 #[.val (.ref a), .unset] [(.ref a)])) (fun _ k => ?_) ?_
  · show Steps p.tables e below (T1.setTop (mkF m 4 #[.val (.ref a), .unset] [(.int (0 : Int32))])) _
    refine XS.ifNo X1.here hx rfl (hb hby d_jdk_56_3_4) rfl ((if0 _ _).trans (teq (by decide)).2) ?_
    show Steps p.tables e below (T1.setTop (mkF m 7 #[.val (.ref a), .unset] [])) _
    refine XS.aloadN X1.here hx rfl (hb hby d_jdk_56_3_7) rfl rfl ?_
    exact k
  obtain ⟨T2, X2, e2, st2⟩ := instNo X1 hx hZ hown (hw _ (List.mem_of_getElem? (i := 128) rfl)) e1 E_a (noN hw) (g := (mkF m 8 #[.val (.ref a), .unset] [(.ref a)])) rfl rfl (hb hby d_jdk_56_3_8)
  refine OEnds.st (S' := T2.setTop (mkF m 11 #[.val (.ref a), .unset] [(.int (0 : Int32))])) st2 ?_
  refine OEnds.st (S' := T2.setTop (mkF m 32 #[.val (.ref a), .unset] [(.ref a)])) (fun _ k => ?_) ?_
  · show Steps p.tables e below (T2.setTop (mkF m 11 #[.val (.ref a), .unset] [(.int (0 : Int32))])) _
    refine XS.ifYes X2.here hx rfl (pc0 := 11) (pc' := 31) rfl (hb hby d_jdk_56_3_11) rfl ((if0 _ _).trans (teq (by decide)).1) (by decide) (by decide) ?_
    show Steps p.tables e below (T2.setTop (mkF m 31 #[.val (.ref a), .unset] [])) _
    refine XS.aloadN X2.here hx rfl (hb hby d_jdk_56_3_31) rfl rfl ?_
    exact k
  obtain ⟨_, T3, h3, L3, X3, e3, hQ3, st3⟩ := faceC X2 hx hZ (xi := (⟨"java/util/Collection", "isEmpty", "()Z"⟩ : MethodName)) (y := (⟨"java/util/ArrayList", "isEmpty", "()Z"⟩ : MethodName)) hown (hw _ (List.mem_of_getElem? (i := 129) rfl)) (hw _ (List.mem_of_getElem? (i := 130) rfl)) (hw _ (List.mem_of_getElem? (i := 131) rfl)) (hw _ (List.mem_of_getElem? (i := 132) rfl)) (hw _ (List.mem_of_getElem? (i := 133) rfl)) (hw _ (List.mem_of_getElem? (i := 134) rfl)) (hw _ (List.mem_of_getElem? (i := 135) rfl)) (hw _ (List.mem_of_getElem? (i := 136) rfl)) (by decide) (kc := 0) (ks := 0) (Con.sb (W := 0) (rm_isEmp3 l hD a O0 F_sz_a) hZ (hw _ (List.mem_of_getElem? (i := 137) rfl)) (hw _ (List.mem_of_getElem? (i := 36) rfl)) (by decide) (by decide)) e2 E_a (g := (mkF m 32 #[.val (.ref a), .unset] [(.ref a)])) rfl (by rw [hml]; rfl) (argsL := []) (rest := []) (lenOf pd_10 rfl) rfl (by show 2 * 0 + _ ≤ _; exact Nat.le_of_eq rfl) (hb hby d_jdk_56_3_32) (by decide) (by decide)
  obtain ⟨rfl, Nq3, Hq3⟩ := hQ3
  refine OEnds.st (S' := T3.setTop (mkF m 37 #[.val (.ref a), .unset] [(.int (0 : Int32))])) st3 ?_
  replace N0 := Fr.app N0 Nq3
  replace e3 := e3.trans Hq3
  refine OEnds.st (S' := T3.setTop (mkF m 45 #[.val (.ref a), .unset] [(.ref a)])) (fun _ k => ?_) ?_
  · show Steps p.tables e below (T3.setTop (mkF m 37 #[.val (.ref a), .unset] [(.int (0 : Int32))])) _
    refine XS.ifYes X3.here hx rfl (pc0 := 37) (pc' := 44) rfl (hb hby d_jdk_56_3_37) rfl ((if0 _ _).trans (teq (by decide)).1) (by decide) (by decide) ?_
    show Steps p.tables e below (T3.setTop (mkF m 44 #[.val (.ref a), .unset] [])) _
    refine XS.aloadN X3.here hx rfl (hb hby d_jdk_56_3_44) rfl rfl ?_
    exact k
  obtain ⟨_, T4, h4, L4, X4, e4, hQ4, st4⟩ := faceC X3 hx hZ (xi := (⟨"java/util/Collection", "toArray", "()[Ljava/lang/Object;"⟩ : MethodName)) (y := (⟨"java/util/ArrayList", "toArray", "()[Ljava/lang/Object;"⟩ : MethodName)) hown (hw _ (List.mem_of_getElem? (i := 138) rfl)) (hw _ (List.mem_of_getElem? (i := 139) rfl)) (hw _ (List.mem_of_getElem? (i := 140) rfl)) (hw _ (List.mem_of_getElem? (i := 141) rfl)) (hw _ (List.mem_of_getElem? (i := 142) rfl)) (hw _ (List.mem_of_getElem? (i := 143) rfl)) (hw _ (List.mem_of_getElem? (i := 144) rfl)) (hw _ (List.mem_of_getElem? (i := 136) rfl)) (by decide) (kc := 1) (ks := 3) (Con.sb (W := 0) (rm_toArr3 l hD a d k x1 x2 x3 O0 F_ed_a F_sz_a E_d V_d E_x1 E_x2 E_x3) hZ (hw _ (List.mem_of_getElem? (i := 145) rfl)) (hw _ (List.mem_of_getElem? (i := 36) rfl)) (by decide) (by decide)) e3 E_a (g := (mkF m 45 #[.val (.ref a), .unset] [(.ref a)])) rfl (by rw [hml]; rfl) (argsL := []) (rest := []) (lenOf pd_6 rfl) rfl (by show 2 * 0 + _ ≤ _; exact Nat.le_of_eq rfl) (hb hby d_jdk_56_3_45) (by decide) (by decide)
  obtain ⟨t4, kt4, rfl, Nq4, Kq4, szq4, V4⟩ := hQ4
  refine OEnds.st (S' := T4.setTop (mkF m 50 #[.val (.ref a), .unset] [(.ref t4)])) st4 ?_
  replace N0 := Fr.app N0 Nq4
  have ne_a_t4 : a ≠ t4 := Nat.ne_of_lt (Nat.lt_of_lt_of_le E_a.lt szq4)
  have ne_d_t4 : d ≠ t4 := Nat.ne_of_lt (Nat.lt_of_lt_of_le E_d.lt szq4)
  have ne_x1_t4 : x1 ≠ t4 := Nat.ne_of_lt (Nat.lt_of_lt_of_le E_x1.lt szq4)
  have ne_x2_t4 : x2 ≠ t4 := Nat.ne_of_lt (Nat.lt_of_lt_of_le E_x2.lt szq4)
  have ne_x3_t4 : x3 ≠ t4 := Nat.ne_of_lt (Nat.lt_of_lt_of_le E_x3.lt szq4)
  have ge_t4 : Z.heap.size ≤ t4 := Nat.le_trans O0.1 szq4
  have sz_t4 : h0.size ≤ t4 := Nat.le_trans K0.1 szq4
  replace E_a := E_a.keep Kq4
  replace F_ed_a := F_ed_a.keep Kq4 nin0
  replace F_sz_a := F_sz_a.keep Kq4 nin0
  replace E_d := E_d.keep Kq4
  replace V_d := V_d.keep Kq4 nin0
  replace E_x1 := E_x1.keep Kq4
  replace E_x2 := E_x2.keep Kq4
  replace E_x3 := E_x3.keep Kq4
  replace O0 : Ext Z.heap h4 := ext_keep O0 Kq4 all0
  replace K0 : Keep h0 h4 [] := K0.trans Kq4 all0
  obtain ⟨_, T5, h5, L5, X5, e5, hQ5, st5⟩ := callC X4 hx hZ hown (hw _ (List.mem_of_getElem? (i := 168) rfl)) (hw _ (List.mem_of_getElem? (i := 169) rfl)) (hw _ (List.mem_of_getElem? (i := 117) rfl)) (hw _ (List.mem_of_getElem? (i := 170) rfl)) (by decide) (kc := 2) (ks := 5) (Con.sb (W := 0) (rm_listOf3 l hD t4 kt4 x1 x2 x3 O0 V4 E_x1 E_x2 E_x3) hZ (hw _ (List.mem_of_getElem? (i := 170) rfl)) (hw _ (List.mem_of_getElem? (i := 117) rfl)) (by decide) (by decide)) e4 (g := (mkF m 50 #[.val (.ref a), .unset] [(.ref t4)])) rfl (by rw [hml]; rfl) (argsL := [(.ref t4)]) (rest := []) (lenOf pd_16 rfl) rfl (by show 2 * 0 + _ ≤ _; exact Nat.le_of_eq rfl) (hb hby d_jdk_56_3_50) (by decide) (by decide)
  obtain ⟨r5, rfl, Nq5, Kq5⟩ := hQ5
  refine OEnds.st (S' := T5.setTop (mkF m 53 #[.val (.ref a), .unset] [(.ref r5)])) st5 ?_
  replace N0 := Fr.app N0 Nq5
  replace E_a := E_a.keep Kq5
  replace F_ed_a := F_ed_a.keep Kq5 nin0
  replace F_sz_a := F_sz_a.keep Kq5 nin0
  replace E_d := E_d.keep Kq5
  replace V_d := V_d.keep Kq5 nin0
  replace E_x1 := E_x1.keep Kq5
  replace E_x2 := E_x2.keep Kq5
  replace E_x3 := E_x3.keep Kq5
  replace V4 := V4.keep Kq5 nin0
  replace O0 : Ext Z.heap h5 := ext_keep O0 Kq5 all0
  replace K0 : Keep h0 h5 [] := K0.trans Kq5 all0
  exact OEnds.ret X5 hx hret hlk rfl (Or.inr (Or.inr (Or.inr (Or.inr ⟨rfl, rfl, rfl⟩)))) (hb hby d_jdk_56_3_53) (by decide) (by decide) (by rw [e5]; exact ⟨r5, rfl, N0, K0⟩)
-- java/util/List.copyOf:(Ljava/util/Collection;)Ljava/util/List;
def Q_copyOfL3 (Z : State) (a : Addr) (d : Addr) (k : ClassId) (x1 : Addr) (x2 : Addr) (x3 : Addr) (h0 : Heap) (v : Option Value) (h : Heap) (L : List Loc) : Prop := ∃ r : Addr, v = some (.ref r) ∧ Fr Z.heap.size L ∧ Keep h0 h []
theorem ef_copyOfL3 (m : MethodId) (a : Addr) : entryFrame m #[(.ref a)] 1 = mkF m 0 #[.val (.ref a)] [] := by first | (simp [entryFrame, mkF, argsToLocals, Value.category]; done) | rfl
set_option maxRecDepth 65536 in
set_option maxHeartbeats 40000000 in
theorem rm_copyOfL3 (l : Launch) {Z : State} {a0 : Array Value} (hD : Wd Z a0) (a : Addr) (d : Addr) (k : ClassId) (x1 : Addr) (x2 : Addr) (x3 : Addr) {h0 : Heap} (O0 : Ext Z.heap h0) (E_a : Exa Z h0 a "java/util/ArrayList") (F_ed_a : Fld Z h0 a "java/util/ArrayList" "elementData" "[Ljava/lang/Object;" (.ref d)) (F_sz_a : Fld Z h0 a "java/util/ArrayList" "size" "I" (.int (3 : Int32))) (E_d : Exa Z h0 d "[Ljava/lang/Object;") (V_d : Arv Z h0 d k (.object "java/lang/Object") (10 : Int32) [(.ref x1), (.ref x2), (.ref x3), .null, .null, .null, .null, .null, .null, .null] .null) (E_x1 : Exa Z h0 x1 "java/lang/String") (E_x2 : Exa Z h0 x2 "java/lang/String") (E_x3 : Exa Z h0 x3 "java/lang/String") :
    Con l Z (⟨"java/util/List", "copyOf", "(Ljava/util/Collection;)Ljava/util/List;"⟩ : MethodName) jdk_40_method_48_code 1 (some (.object "java/util/List")) [] ({ frames := 8, cells := 3, slots := 8, locals := 103 } : Room) #[(.ref a)] h0 (Q_copyOfL3 Z a d k x1 x2 x3 h0) := by
  refine Con.walk (plainFor_of_name pn_12) ?_
  intro p e s m below meth c T0 X0 hx hZ hby hml hown hnm hret hlk e0
  obtain ⟨hw, ⟨cz, S_CS, hcz⟩, ⟨xde, xkde, S_DE, V_DE⟩, ⟨aEM, S_EM⟩, ⟨aEL, S_EL⟩, ⟨cO, kO, mrO, mir1, mir2, mir3⟩, ⟨k0, k1, k2, k3, k4, S_K0, S_K1, S_K2, S_K3, S_K4, kn0, kn2, kn3, kn4⟩⟩ := id hD
  have N0 := Fr.nil Z.heap.size
  have K0 : Keep h0 h0 [] := Keep.refl _ _
  refine OEnds.cast (ef_copyOfL3 m a) ?_
  refine OEnds.st (S' := T0.setTop (mkF m 1 #[.val (.ref a)] [(.ref a)])) (fun _ k => ?_) ?_
  · show Steps p.tables e below (T0.setTop (mkF m 0 #[.val (.ref a)] [])) _
    refine XS.aloadN X0.here hx rfl (hb hby d_jdk_40_48_0) rfl rfl ?_
    exact k
  obtain ⟨_, T1, h1, L1, X1, e1, hQ1, st1⟩ := callC X0 hx hZ hown (hw _ (List.mem_of_getElem? (i := 119) rfl)) (hw _ (List.mem_of_getElem? (i := 120) rfl)) (hw _ (List.mem_of_getElem? (i := 121) rfl)) (hw _ (List.mem_of_getElem? (i := 122) rfl)) (by decide) (kc := 3) (ks := 8) (Con.sb (W := 0) (rm_listCopy3 l hD a d k x1 x2 x3 O0 E_a F_ed_a F_sz_a E_d V_d E_x1 E_x2 E_x3) hZ (hw _ (List.mem_of_getElem? (i := 122) rfl)) (hw _ (List.mem_of_getElem? (i := 121) rfl)) (by decide) (by decide)) e0 (g := (mkF m 1 #[.val (.ref a)] [(.ref a)])) rfl (by rw [hml]; rfl) (argsL := [(.ref a)]) (rest := []) (lenOf pd_12 rfl) rfl (by show 2 * 0 + _ ≤ _; exact Nat.le_of_eq rfl) (hb hby d_jdk_40_48_1) (by decide) (by decide)
  obtain ⟨r1, rfl, Nq1, Kq1⟩ := hQ1
  refine OEnds.st (S' := T1.setTop (mkF m 4 #[.val (.ref a)] [(.ref r1)])) st1 ?_
  replace N0 := Fr.app N0 Nq1
  replace E_a := E_a.keep Kq1
  replace F_ed_a := F_ed_a.keep Kq1 nin0
  replace F_sz_a := F_sz_a.keep Kq1 nin0
  replace E_d := E_d.keep Kq1
  replace V_d := V_d.keep Kq1 nin0
  replace E_x1 := E_x1.keep Kq1
  replace E_x2 := E_x2.keep Kq1
  replace E_x3 := E_x3.keep Kq1
  replace O0 : Ext Z.heap h1 := ext_keep O0 Kq1 all0
  replace K0 : Keep h0 h1 [] := K0.trans Kq1 all0
  exact OEnds.ret X1 hx hret hlk rfl (Or.inr (Or.inr (Or.inr (Or.inr ⟨rfl, rfl, rfl⟩)))) (hb hby d_jdk_40_48_4) (by decide) (by decide) (by rw [e1]; exact ⟨r1, rfl, N0, K0⟩)
-- com/example/gridtally/gridtally/determinant/Column.<init>:(Ljava/lang/String;Lcom/example/gridtally/gridtally/determinant/Column$Kind;Ljava/util/List;)V
def Q_colInit3 (Z : State) (o : Addr) (nme : Addr) (kd : Addr) (a : Addr) (d : Addr) (k : ClassId) (x1 : Addr) (x2 : Addr) (x3 : Addr) (h0 : Heap) (v : Option Value) (h : Heap) (L : List Loc) : Prop := v = none ∧ Fr Z.heap.size L ∧ Keep h0 h [o] ∧ Exa Z h o "com/example/gridtally/gridtally/determinant/Column" ∧ Fld Z h o "com/example/gridtally/gridtally/determinant/Column" "kind" "Lcom/example/gridtally/gridtally/determinant/Column$Kind;" (.ref kd)
theorem ef_colInit3 (m : MethodId) (o : Addr) (nme : Addr) (kd : Addr) (a : Addr) : entryFrame m #[(.ref o), (.ref nme), (.ref kd), (.ref a)] 4 = mkF m 0 #[.val (.ref o), .val (.ref nme), .val (.ref kd), .val (.ref a)] [] := by first | (simp [entryFrame, mkF, argsToLocals, Value.category]; done) | rfl
set_option maxRecDepth 65536 in
set_option maxHeartbeats 40000000 in
theorem rm_colInit3 (l : Launch) {Z : State} {a0 : Array Value} (hD : Wd Z a0) (o : Addr) (nme : Addr) (kd : Addr) (a : Addr) (d : Addr) (k : ClassId) (x1 : Addr) (x2 : Addr) (x3 : Addr) {h0 : Heap} (O0 : Ext Z.heap h0) (E_o : Exa Z h0 o "com/example/gridtally/gridtally/determinant/Column") (F_name_o : Fld Z h0 o "com/example/gridtally/gridtally/determinant/Column" "name" "Ljava/lang/String;" .null) (F_kind_o : Fld Z h0 o "com/example/gridtally/gridtally/determinant/Column" "kind" "Lcom/example/gridtally/gridtally/determinant/Column$Kind;" .null) (F_values_o : Fld Z h0 o "com/example/gridtally/gridtally/determinant/Column" "values" "Ljava/util/List;" .null) (ge_o : Z.heap.size ≤ o) (E_a : Exa Z h0 a "java/util/ArrayList") (F_ed_a : Fld Z h0 a "java/util/ArrayList" "elementData" "[Ljava/lang/Object;" (.ref d)) (F_sz_a : Fld Z h0 a "java/util/ArrayList" "size" "I" (.int (3 : Int32))) (E_d : Exa Z h0 d "[Ljava/lang/Object;") (V_d : Arv Z h0 d k (.object "java/lang/Object") (10 : Int32) [(.ref x1), (.ref x2), (.ref x3), .null, .null, .null, .null, .null, .null, .null] .null) (E_x1 : Exa Z h0 x1 "java/lang/String") (E_x2 : Exa Z h0 x2 "java/lang/String") (E_x3 : Exa Z h0 x3 "java/lang/String") :
    Con l Z (⟨"com/example/gridtally/gridtally/determinant/Column", "<init>", "(Ljava/lang/String;Lcom/example/gridtally/gridtally/determinant/Column$Kind;Ljava/util/List;)V"⟩ : MethodName) prog_3_method_1_code 4 none [] ({ frames := 9, cells := 3, slots := 8, locals := 115 } : Room) #[(.ref o), (.ref nme), (.ref kd), (.ref a)] h0 (Q_colInit3 Z o nme kd a d k x1 x2 x3 h0) := by
  refine Con.walk (plainFor_of_name pn_13) ?_
  intro p e s m below meth c T0 X0 hx hZ hby hml hown hnm hret hlk e0
  obtain ⟨hw, ⟨cz, S_CS, hcz⟩, ⟨xde, xkde, S_DE, V_DE⟩, ⟨aEM, S_EM⟩, ⟨aEL, S_EL⟩, ⟨cO, kO, mrO, mir1, mir2, mir3⟩, ⟨k0, k1, k2, k3, k4, S_K0, S_K1, S_K2, S_K3, S_K4, kn0, kn2, kn3, kn4⟩⟩ := id hD
  have N0 := Fr.nil Z.heap.size
  have K0 : Keep h0 h0 [o] := Keep.refl _ _
  refine OEnds.cast (ef_colInit3 m o nme kd a) ?_
  refine OEnds.st (S' := T0.setTop (mkF m 1 #[.val (.ref o), .val (.ref nme), .val (.ref kd), .val (.ref a)] [(.ref o)])) (fun _ k => ?_) ?_
  · show Steps p.tables e below (T0.setTop (mkF m 0 #[.val (.ref o), .val (.ref nme), .val (.ref kd), .val (.ref a)] [])) _
    refine XS.aloadN X0.here hx rfl (hb hby d_prog_3_1_0) rfl rfl ?_
    exact k
  obtain ⟨_, T1, h1, L1, X1, e1, hQ1, st1⟩ := specC X0 hx hZ rfl hown (hw _ (List.mem_of_getElem? (i := 109) rfl)) (hw _ (List.mem_of_getElem? (i := 110) rfl)) (hw _ (List.mem_of_getElem? (i := 113) rfl)) (by decide) (kc := 0) (ks := 0) (Con.sb (W := 0) (rm_recInit l hD o O0) hZ (hw _ (List.mem_of_getElem? (i := 113) rfl)) (hw _ (List.mem_of_getElem? (i := 112) rfl)) (by decide) (by decide)) e0 (a := o) (g := (mkF m 1 #[.val (.ref o), .val (.ref nme), .val (.ref kd), .val (.ref a)] [(.ref o)])) rfl (by rw [hml]; rfl) (argsL := []) (rest := []) (lenOf pd_3 rfl) rfl (by show 2 * 0 + _ ≤ _; exact Nat.le_of_eq rfl) (hb hby d_prog_3_1_1) (by decide) (by decide)
  obtain ⟨rfl, Nq1, Hq1⟩ := hQ1
  refine OEnds.st (S' := T1.setTop (mkF m 4 #[.val (.ref o), .val (.ref nme), .val (.ref kd), .val (.ref a)] [])) st1 ?_
  replace N0 := Fr.app N0 Nq1
  replace e1 := e1.trans Hq1
  refine OEnds.st (S' := T1.setTop (mkF m 5 #[.val (.ref o), .val (.ref nme), .val (.ref kd), .val (.ref a)] [(.ref a)])) (fun _ k => ?_) ?_
  · show Steps p.tables e below (T1.setTop (mkF m 4 #[.val (.ref o), .val (.ref nme), .val (.ref kd), .val (.ref a)] [])) _
    refine XS.aloadN X1.here hx rfl (hb hby d_prog_3_1_4) rfl rfl ?_
    exact k
  obtain ⟨_, T2, h2, L2, X2, e2, hQ2, st2⟩ := callC X1 hx hZ hown (hw _ (List.mem_of_getElem? (i := 115) rfl)) (hw _ (List.mem_of_getElem? (i := 116) rfl)) (hw _ (List.mem_of_getElem? (i := 117) rfl)) (hw _ (List.mem_of_getElem? (i := 118) rfl)) (by decide) (kc := 3) (ks := 8) (Con.sb (W := 0) (rm_copyOfL3 l hD a d k x1 x2 x3 O0 E_a F_ed_a F_sz_a E_d V_d E_x1 E_x2 E_x3) hZ (hw _ (List.mem_of_getElem? (i := 118) rfl)) (hw _ (List.mem_of_getElem? (i := 117) rfl)) (by decide) (by decide)) e1 (g := (mkF m 5 #[.val (.ref o), .val (.ref nme), .val (.ref kd), .val (.ref a)] [(.ref a)])) rfl (by rw [hml]; rfl) (argsL := [(.ref a)]) (rest := []) (lenOf pd_12 rfl) rfl (by show 2 * 0 + _ ≤ _; exact Nat.le_of_eq rfl) (hb hby d_prog_3_1_5) (by decide) (by decide)
  obtain ⟨r2, rfl, Nq2, Kq2⟩ := hQ2
  refine OEnds.st (S' := T2.setTop (mkF m 8 #[.val (.ref o), .val (.ref nme), .val (.ref kd), .val (.ref a)] [(.ref r2)])) st2 ?_
  replace N0 := Fr.app N0 Nq2
  replace E_o := E_o.keep Kq2
  replace F_name_o := F_name_o.keep Kq2 nin0
  replace F_kind_o := F_kind_o.keep Kq2 nin0
  replace F_values_o := F_values_o.keep Kq2 nin0
  replace E_a := E_a.keep Kq2
  replace F_ed_a := F_ed_a.keep Kq2 nin0
  replace F_sz_a := F_sz_a.keep Kq2 nin0
  replace E_d := E_d.keep Kq2
  replace V_d := V_d.keep Kq2 nin0
  replace E_x1 := E_x1.keep Kq2
  replace E_x2 := E_x2.keep Kq2
  replace E_x3 := E_x3.keep Kq2
  replace O0 : Ext Z.heap h2 := ext_keep O0 Kq2 all0
  replace K0 : Keep h0 h2 [o] := K0.trans Kq2 all0
  refine OEnds.st (S' := T2.setTop (mkF m 11 #[.val (.ref o), .val (.ref nme), .val (.ref kd), .val (.ref r2)] [(.ref nme), (.ref o)])) (fun _ k => ?_) ?_
  · show Steps p.tables e below (T2.setTop (mkF m 8 #[.val (.ref o), .val (.ref nme), .val (.ref kd), .val (.ref a)] [(.ref r2)])) _
    refine XS.astoreN X2.here hx rfl (hb hby d_prog_3_1_8) rfl rfl (l' := #[.val (.ref o), .val (.ref nme), .val (.ref kd), .val (.ref r2)]) rfl ?_
    show Steps p.tables e below (T2.setTop (mkF m 9 #[.val (.ref o), .val (.ref nme), .val (.ref kd), .val (.ref r2)] [])) _
    refine XS.aloadN X2.here hx rfl (hb hby d_prog_3_1_9) rfl rfl ?_
    show Steps p.tables e below (T2.setTop (mkF m 10 #[.val (.ref o), .val (.ref nme), .val (.ref kd), .val (.ref r2)] [(.ref o)])) _
    refine XS.aloadN X2.here hx rfl (hb hby d_prog_3_1_10) rfl rfl ?_
    exact k
  have ne_a_o : a ≠ o := ne_exa E_a E_o (by decide)
  have ne_d_o : d ≠ o := ne_exa E_d E_o (by decide)
  have ne_x1_o : x1 ≠ o := ne_exa E_x1 E_o (by decide)
  have ne_x2_o : x2 ≠ o := ne_exa E_x2 E_o (by decide)
  have ne_x3_o : x3 ≠ o := ne_exa E_x3 E_o (by decide)
  obtain ⟨T3, h3, X3, e3, W3, st3⟩ := putF X2 hx hZ hown (host := "") (Or.inl (hw _ (List.mem_of_getElem? (i := 200) rfl))) Via.refl e2 F_name_o E_o (Or.inr ⟨(hw _ (List.mem_of_getElem? (i := 201) rfl)), rfl, hnm⟩) (hw _ (List.mem_of_getElem? (i := 104) rfl)) (ty := (.object "java/lang/String")) (by decide) rfl rfl (g := (mkF m 11 #[.val (.ref o), .val (.ref nme), .val (.ref kd), .val (.ref r2)] [(.ref nme), (.ref o)])) rfl rfl (hb hby d_prog_3_1_11)
  refine OEnds.st (S' := T3.setTop (mkF m 14 #[.val (.ref o), .val (.ref nme), .val (.ref kd), .val (.ref r2)] [])) st3 ?_
  replace E_o := E_o.wr W3
  replace F_name_o := F_name_o.same W3
  replace F_kind_o := F_kind_o.other W3 (Or.inr (slot_ne (Or.inr (hw _ (List.mem_of_getElem? (i := 203) rfl))) (Or.inr (hw _ (List.mem_of_getElem? (i := 201) rfl))) (by decide) (t := (.object "com/example/gridtally/gridtally/determinant/Column$Kind")) (t' := (.object "java/lang/String")) (by decide) (by decide)))
  replace F_values_o := F_values_o.other W3 (Or.inr (slot_ne (Or.inr (hw _ (List.mem_of_getElem? (i := 205) rfl))) (Or.inr (hw _ (List.mem_of_getElem? (i := 201) rfl))) (by decide) (t := (.object "java/util/List")) (t' := (.object "java/lang/String")) (by decide) (by decide)))
  replace E_a := E_a.wr W3
  replace F_ed_a := F_ed_a.other W3 (Or.inl ne_a_o)
  replace F_sz_a := F_sz_a.other W3 (Or.inl ne_a_o)
  replace E_d := E_d.wr W3
  replace V_d := V_d.other W3 ne_d_o
  replace E_x1 := E_x1.wr W3
  replace E_x2 := E_x2.wr W3
  replace E_x3 := E_x3.wr W3
  replace O0 : Ext Z.heap h3 := ext_wr O0 W3 ge_o
  replace N0 := Fr.snoc X3 N0 ge_o
  replace K0 : Keep h0 h3 [o] := K0.wr W3 (Or.inl (List.mem_of_getElem? (i := 0) rfl))
  refine OEnds.st (S' := T3.setTop (mkF m 16 #[.val (.ref o), .val (.ref nme), .val (.ref kd), .val (.ref r2)] [(.ref kd), (.ref o)])) (fun _ k => ?_) ?_
  · show Steps p.tables e below (T3.setTop (mkF m 14 #[.val (.ref o), .val (.ref nme), .val (.ref kd), .val (.ref r2)] [])) _
    refine XS.aloadN X3.here hx rfl (hb hby d_prog_3_1_14) rfl rfl ?_
    show Steps p.tables e below (T3.setTop (mkF m 15 #[.val (.ref o), .val (.ref nme), .val (.ref kd), .val (.ref r2)] [(.ref o)])) _
    refine XS.aloadN X3.here hx rfl (hb hby d_prog_3_1_15) rfl rfl ?_
    exact k
  obtain ⟨T4, h4, X4, e4, W4, st4⟩ := putF X3 hx hZ hown (host := "") (Or.inl (hw _ (List.mem_of_getElem? (i := 202) rfl))) Via.refl e3 F_kind_o E_o (Or.inr ⟨(hw _ (List.mem_of_getElem? (i := 203) rfl)), rfl, hnm⟩) (hw _ (List.mem_of_getElem? (i := 104) rfl)) (ty := (.object "com/example/gridtally/gridtally/determinant/Column$Kind")) (by decide) rfl rfl (g := (mkF m 16 #[.val (.ref o), .val (.ref nme), .val (.ref kd), .val (.ref r2)] [(.ref kd), (.ref o)])) rfl rfl (hb hby d_prog_3_1_16)
  refine OEnds.st (S' := T4.setTop (mkF m 19 #[.val (.ref o), .val (.ref nme), .val (.ref kd), .val (.ref r2)] [])) st4 ?_
  replace E_o := E_o.wr W4
  replace F_name_o := F_name_o.other W4 (Or.inr (slot_ne (Or.inr (hw _ (List.mem_of_getElem? (i := 201) rfl))) (Or.inr (hw _ (List.mem_of_getElem? (i := 203) rfl))) (by decide) (t := (.object "java/lang/String")) (t' := (.object "com/example/gridtally/gridtally/determinant/Column$Kind")) (by decide) (by decide)))
  replace F_kind_o := F_kind_o.same W4
  replace F_values_o := F_values_o.other W4 (Or.inr (slot_ne (Or.inr (hw _ (List.mem_of_getElem? (i := 205) rfl))) (Or.inr (hw _ (List.mem_of_getElem? (i := 203) rfl))) (by decide) (t := (.object "java/util/List")) (t' := (.object "com/example/gridtally/gridtally/determinant/Column$Kind")) (by decide) (by decide)))
  replace E_a := E_a.wr W4
  replace F_ed_a := F_ed_a.other W4 (Or.inl ne_a_o)
  replace F_sz_a := F_sz_a.other W4 (Or.inl ne_a_o)
  replace E_d := E_d.wr W4
  replace V_d := V_d.other W4 ne_d_o
  replace E_x1 := E_x1.wr W4
  replace E_x2 := E_x2.wr W4
  replace E_x3 := E_x3.wr W4
  replace O0 : Ext Z.heap h4 := ext_wr O0 W4 ge_o
  replace N0 := Fr.snoc X4 N0 ge_o
  replace K0 : Keep h0 h4 [o] := K0.wr W4 (Or.inl (List.mem_of_getElem? (i := 0) rfl))
  refine OEnds.st (S' := T4.setTop (mkF m 21 #[.val (.ref o), .val (.ref nme), .val (.ref kd), .val (.ref r2)] [(.ref r2), (.ref o)])) (fun _ k => ?_) ?_
  · show Steps p.tables e below (T4.setTop (mkF m 19 #[.val (.ref o), .val (.ref nme), .val (.ref kd), .val (.ref r2)] [])) _
    refine XS.aloadN X4.here hx rfl (hb hby d_prog_3_1_19) rfl rfl ?_
    show Steps p.tables e below (T4.setTop (mkF m 20 #[.val (.ref o), .val (.ref nme), .val (.ref kd), .val (.ref r2)] [(.ref o)])) _
    refine XS.aloadN X4.here hx rfl (hb hby d_prog_3_1_20) rfl rfl ?_
    exact k
  obtain ⟨T5, h5, X5, e5, W5, st5⟩ := putF X4 hx hZ hown (host := "") (Or.inl (hw _ (List.mem_of_getElem? (i := 204) rfl))) Via.refl e4 F_values_o E_o (Or.inr ⟨(hw _ (List.mem_of_getElem? (i := 205) rfl)), rfl, hnm⟩) (hw _ (List.mem_of_getElem? (i := 104) rfl)) (ty := (.object "java/util/List")) (by decide) rfl rfl (g := (mkF m 21 #[.val (.ref o), .val (.ref nme), .val (.ref kd), .val (.ref r2)] [(.ref r2), (.ref o)])) rfl rfl (hb hby d_prog_3_1_21)
  refine OEnds.st (S' := T5.setTop (mkF m 24 #[.val (.ref o), .val (.ref nme), .val (.ref kd), .val (.ref r2)] [])) st5 ?_
  replace E_o := E_o.wr W5
  replace F_name_o := F_name_o.other W5 (Or.inr (slot_ne (Or.inr (hw _ (List.mem_of_getElem? (i := 201) rfl))) (Or.inr (hw _ (List.mem_of_getElem? (i := 205) rfl))) (by decide) (t := (.object "java/lang/String")) (t' := (.object "java/util/List")) (by decide) (by decide)))
  replace F_kind_o := F_kind_o.other W5 (Or.inr (slot_ne (Or.inr (hw _ (List.mem_of_getElem? (i := 203) rfl))) (Or.inr (hw _ (List.mem_of_getElem? (i := 205) rfl))) (by decide) (t := (.object "com/example/gridtally/gridtally/determinant/Column$Kind")) (t' := (.object "java/util/List")) (by decide) (by decide)))
  replace F_values_o := F_values_o.same W5
  replace E_a := E_a.wr W5
  replace F_ed_a := F_ed_a.other W5 (Or.inl ne_a_o)
  replace F_sz_a := F_sz_a.other W5 (Or.inl ne_a_o)
  replace E_d := E_d.wr W5
  replace V_d := V_d.other W5 ne_d_o
  replace E_x1 := E_x1.wr W5
  replace E_x2 := E_x2.wr W5
  replace E_x3 := E_x3.wr W5
  replace O0 : Ext Z.heap h5 := ext_wr O0 W5 ge_o
  replace N0 := Fr.snoc X5 N0 ge_o
  replace K0 : Keep h0 h5 [o] := K0.wr W5 (Or.inl (List.mem_of_getElem? (i := 0) rfl))
  exact OEnds.retV X5 hx hret hlk (hb hby d_prog_3_1_24) (by decide) (by decide) (by rw [e5]; exact ⟨rfl, N0, K0, E_o, F_kind_o⟩)
-- com/example/gridtally/gridtally/determinant/Column.required:()Z
def Q_required (Z : State) (o : Addr) (kd ko : Addr) (h0 : Heap) (v : Option Value) (h : Heap) (L : List Loc) : Prop := ∃ z : Int32, v = some (.int z) ∧ ((z = 1 ∧ ¬ kd = ko) ∨ (z = 0 ∧ kd = ko)) ∧ Fr Z.heap.size L ∧ h = h0
theorem ef_required (m : MethodId) (o : Addr) : entryFrame m #[(.ref o)] 1 = mkF m 0 #[.val (.ref o)] [] := by first | (simp [entryFrame, mkF, argsToLocals, Value.category]; done) | rfl
theorem d_prog_3_8_0 : decode prog_3_method_8_code 0 = .ok (.aload_n 0, 1) := by decide +kernel
theorem d_prog_3_8_1 : decode prog_3_method_8_code 1 = .ok (.getfield 19, 3) := by decide +kernel
theorem d_prog_3_8_4 : decode prog_3_method_8_code 4 = .ok (.getstatic 55, 3) := by decide +kernel
theorem d_prog_3_8_7 : decode prog_3_method_8_code 7 = .ok (.if_acmp .eq 7, 3) := by decide +kernel
theorem d_prog_3_8_14 : decode prog_3_method_8_code 14 = .ok (.iconst 0, 1) := by decide +kernel
theorem d_prog_3_8_15 : decode prog_3_method_8_code 15 = .ok (.ireturn, 1) := by decide +kernel
theorem d_prog_3_8_10 : decode prog_3_method_8_code 10 = .ok (.iconst 1, 1) := by decide +kernel
theorem d_prog_3_8_11 : decode prog_3_method_8_code 11 = .ok (.goto 4, 3) := by decide +kernel
set_option maxRecDepth 65536 in
set_option maxHeartbeats 40000000 in
theorem rm_required (l : Launch) {Z : State} {a0 : Array Value} (hD : Wd Z a0) (o : Addr) (kd ko : Addr) {h0 : Heap} (O0 : Ext Z.heap h0) (F_kind_o : Fld Z h0 o "com/example/gridtally/gridtally/determinant/Column" "kind" "Lcom/example/gridtally/gridtally/determinant/Column$Kind;" (.ref kd)) (S_ko : Sta Z Z.heap "com/example/gridtally/gridtally/determinant/Column$Kind" "OPTIONAL_DECIMAL" "Lcom/example/gridtally/gridtally/determinant/Column$Kind;" (.ref ko)) :
    Con l Z (⟨"com/example/gridtally/gridtally/determinant/Column", "required", "()Z"⟩ : MethodName) prog_3_method_8_code 1 (some .boolean) [] ({ frames := 0, cells := 0, slots := 0, locals := 0 } : Room) #[(.ref o)] h0 (Q_required Z o kd ko h0) := by
  refine Con.walk (plainFor_of_name pn_13) ?_
  intro p e s m below meth c T0 X0 hx hZ hby hml hown hnm hret hlk e0
  obtain ⟨hw, ⟨cz, S_CS, hcz⟩, ⟨xde, xkde, S_DE, V_DE⟩, ⟨aEM, S_EM⟩, ⟨aEL, S_EL⟩, ⟨cO, kO, mrO, mir1, mir2, mir3⟩, ⟨k0, k1, k2, k3, k4, S_K0, S_K1, S_K2, S_K3, S_K4, kn0, kn2, kn3, kn4⟩⟩ := id hD
  have N0 := Fr.nil Z.heap.size
  refine OEnds.cast (ef_required m o) ?_
  refine OEnds.st (S' := T0.setTop (mkF m 1 #[.val (.ref o)] [(.ref o)])) (fun _ k => ?_) ?_
  · show Steps p.tables e below (T0.setTop (mkF m 0 #[.val (.ref o)] [])) _
    refine XS.aloadN X0.here hx rfl (hb hby d_prog_3_8_0) rfl rfl ?_
    exact k
  obtain ⟨T1, X1, e1, st1⟩ := getF X0 hx hZ hown (host := "") (Or.inl (hw _ (List.mem_of_getElem? (i := 202) rfl))) Via.refl e0 F_kind_o (g := (mkF m 1 #[.val (.ref o)] [(.ref o)])) rfl rfl (hb hby d_prog_3_8_1)
  refine OEnds.st (S' := T1.setTop (mkF m 4 #[.val (.ref o)] [(.ref kd)])) st1 ?_
  obtain ⟨T2, X2, e2, st2⟩ := getS2 X1 hx hZ hown (host := "") (Or.inl (hw _ (List.mem_of_getElem? (i := 211) rfl))) Via.refl e1 (S_ko.ext O0) (g := (mkF m 4 #[.val (.ref o)] [(.ref kd)])) rfl (hb hby d_prog_3_8_4)
  refine OEnds.st (S' := T2.setTop (mkF m 7 #[.val (.ref o)] [(.ref ko), (.ref kd)])) st2 ?_
  rcases Classical.em (kd = ko) with hk | hk
  · refine OEnds.st (S' := T2.setTop (mkF m 15 #[.val (.ref o)] [(.int (0 : Int32))])) (fun _ k => ?_) ?_
    · show Steps p.tables e below (T2.setTop (mkF m 7 #[.val (.ref o)] [(.ref ko), (.ref kd)])) _
      have hq7 : Jvm.Free.XT.acmp .eq ((.ref kd) : Value) ((.ref ko) : Value) = true := (Jvm.Free.XT.aa_eq_t (congrArg Value.ref hk))
      refine Jvm.Free.XT.acmpYes X2.here hx rfl (pc0 := 7) (pc' := 14) rfl (hb hby d_prog_3_8_7) rfl rfl rfl hq7 (by decide) (by decide) ?_
      show Steps p.tables e below (T2.setTop (mkF m 14 #[.val (.ref o)] [])) _
      refine XS.iconst X2.here hx rfl (hb hby d_prog_3_8_14) ?_
      exact k
    exact OEnds.ret X2 hx hret hlk (by decide) (Or.inl ⟨rfl, by simp, _, rfl⟩) (hb hby d_prog_3_8_15) (by decide) (by decide) (by rw [e2]; exact ⟨0, rfl, Or.inr ⟨rfl, hk⟩, N0, rfl⟩)
  · refine OEnds.st (S' := T2.setTop (mkF m 15 #[.val (.ref o)] [(.int (1 : Int32))])) (fun _ k => ?_) ?_
    · show Steps p.tables e below (T2.setTop (mkF m 7 #[.val (.ref o)] [(.ref ko), (.ref kd)])) _
      have hq7 : Jvm.Free.XT.acmp .eq ((.ref kd) : Value) ((.ref ko) : Value) = false := (Jvm.Free.XT.aa_eq_f (fun q => hk (Value.ref.inj q)))
      refine Jvm.Free.XT.acmpNo X2.here hx rfl (hb hby d_prog_3_8_7) rfl rfl rfl hq7 ?_
      show Steps p.tables e below (T2.setTop (mkF m 10 #[.val (.ref o)] [])) _
      refine XS.iconst X2.here hx rfl (hb hby d_prog_3_8_10) ?_
      show Steps p.tables e below (T2.setTop (mkF m 11 #[.val (.ref o)] [(.int (1 : Int32))])) _
      refine XS.goto X2.here hx rfl (pc0 := 11) (pc' := 15) rfl (hb hby d_prog_3_8_11) (by decide) (by decide) ?_
      exact k
    exact OEnds.ret X2 hx hret hlk (by decide) (Or.inl ⟨rfl, by simp, _, rfl⟩) (hb hby d_prog_3_8_15) (by decide) (by decide) (by rw [e2]; exact ⟨1, rfl, Or.inl ⟨rfl, hk⟩, N0, rfl⟩)
theorem words_new : ∀ d ∈ StrChars.Road.words, d ∈ tables_1 := by decide +kernel
def Q_law (Z : State) (v : Option Value) (h : Heap) (L : List Loc) : Prop := v = some (.int 1) ∧ Fr Z.heap.size L
theorem pd_18 : parseMethodDescriptor "(Ljava/lang/String;Lcom/example/gridtally/gridtally/determinant/Column$Kind;Ljava/util/List;)V" = some ⟨[(.object "java/lang/String"), (.object "com/example/gridtally/gridtally/determinant/Column$Kind"), (.object "java/util/List")], none⟩ := by decide +kernel
set_option maxRecDepth 65536 in
set_option maxHeartbeats 40000000 in
theorem sg_200_0 {p : Program} {l : Launch} {e : Env} {s : State} {m : MethodId} {args : Array Value} {below : List Frame} {meth : Method} {c : Code} {T0 : State} {locs : List Loc} {Z : State} {a0 : Array Value} (hD : Wd Z a0) (p0 p1 p2 sel e5 : Int32) (kd ko arr nme a : Addr) (cnt : Int32) (d : Addr) (k : ClassId)  {h0 : Heap} (O0 : Ext Z.heap h0)
    (X0 : Stand p l e room_1 s m args below meth c T0 locs 20 90) (hx : p.tables.exec = Jvm.exec) (hZ : Z.Warmed39 s.vm) (hby : c.code = code) (hml : c.maxLocals = 11) (hown : s.vm.findClass "com/example/gridtally/gridtally/determinant/ColumnRequiredPinLaw" = some m.cls) (hnm : meth.name = "law") (hret : meth.sig.returnType = some .boolean) (hlk : meth.locks = false) (e0 : T0.heap = h0) (N0 : Fr Z.heap.size locs) (E_a : Exa Z h0 a "java/util/ArrayList") (F_ed_a : Fld Z h0 a "java/util/ArrayList" "elementData" "[Ljava/lang/Object;" (.ref d)) (F_sz_a : Fld Z h0 a "java/util/ArrayList" "size" "I" (.int (0 : Int32))) (S_ko : Sta Z Z.heap "com/example/gridtally/gridtally/determinant/Column$Kind" "OPTIONAL_DECIMAL" "Lcom/example/gridtally/gridtally/determinant/Column$Kind;" (.ref ko)) (hexp : (e5 = 1 ∧ ¬ kd = ko) ∨ (e5 = 0 ∧ kd = ko)) :
    OEnds p e below s room_1.cells room_1.slots (Q_law Z) (T0.setTop (mkF m 200 #[.val (.int p0), .val (.int p1), .val (.int p2), .val (.int sel), .val (.ref kd), .val (.int e5), .val (.ref arr), .val (.ref nme), .val (.ref a), .val (.int cnt), .unset] [])) := by
  obtain ⟨hw, ⟨cz, S_CS, hcz⟩, ⟨xde, xkde, S_DE, V_DE⟩, ⟨aEM, S_EM⟩, ⟨aEL, S_EL⟩, ⟨cO, kO, mrO, mir1, mir2, mir3⟩, ⟨k0, k1, k2, k3, k4, S_K0, S_K1, S_K2, S_K3, S_K4, kn0, kn2, kn3, kn4⟩⟩ := id hD
  obtain ⟨T1, h1, X1, e1, E1, A1, D1, U1, st1⟩ := newO X0 hx hZ hown (hw _ (List.mem_of_getElem? (i := 103) rfl)) (hw _ (List.mem_of_getElem? (i := 104) rfl)) (hw _ (List.mem_of_getElem? (i := 105) rfl)) e0 (g := (mkF m 200 #[.val (.int p0), .val (.int p1), .val (.int p2), .val (.int sel), .val (.ref kd), .val (.int e5), .val (.ref arr), .val (.ref nme), .val (.ref a), .val (.int cnt), .unset] [])) rfl (hb hby at_200) (by decide) (by decide)
  obtain ⟨b1, g1⟩ : ∃ z, z = h0.size := ⟨_, rfl⟩
  rw [← g1] at A1 D1 U1 st1
  refine OEnds.st (S' := T1.setTop (mkF m 203 #[.val (.int p0), .val (.int p1), .val (.int p2), .val (.int sel), .val (.ref kd), .val (.int e5), .val (.ref arr), .val (.ref nme), .val (.ref a), .val (.int cnt), .unset] [(.ref b1)])) st1 ?_
  have ne_a_b1 : a ≠ b1 := Nat.ne_of_lt (Nat.lt_of_lt_of_le E_a.lt (Nat.le_of_eq g1.symm))
  have ge_b1 : Z.heap.size ≤ b1 := Nat.le_trans O0.1 (Nat.le_of_eq g1.symm)
  replace E_a := E_a.ext E1
  replace F_ed_a := F_ed_a.ext E1
  replace F_sz_a := F_sz_a.ext E1
  replace O0 : Ext Z.heap h1 := ext_trans O0 E1
  have F_name_b1 : Fld Z h1 b1 "com/example/gridtally/gridtally/determinant/Column" "name" "Ljava/lang/String;" .null := D1 (Or.inr (hw _ (List.mem_of_getElem? (i := 201) rfl))) (ty := (.object "java/lang/String")) (by decide)
  have F_kind_b1 : Fld Z h1 b1 "com/example/gridtally/gridtally/determinant/Column" "kind" "Lcom/example/gridtally/gridtally/determinant/Column$Kind;" .null := D1 (Or.inr (hw _ (List.mem_of_getElem? (i := 203) rfl))) (ty := (.object "com/example/gridtally/gridtally/determinant/Column$Kind")) (by decide)
  have F_values_b1 : Fld Z h1 b1 "com/example/gridtally/gridtally/determinant/Column" "values" "Ljava/util/List;" .null := D1 (Or.inr (hw _ (List.mem_of_getElem? (i := 205) rfl))) (ty := (.object "java/util/List")) (by decide)
  refine OEnds.st (S' := T1.setTop (mkF m 210 #[.val (.int p0), .val (.int p1), .val (.int p2), .val (.int sel), .val (.ref kd), .val (.int e5), .val (.ref arr), .val (.ref nme), .val (.ref a), .val (.int cnt), .unset] [(.ref a), (.ref kd), (.ref nme), (.ref b1), (.ref b1)])) (fun _ k => ?_) ?_
  · show Steps p.tables e below (T1.setTop (mkF m 203 #[.val (.int p0), .val (.int p1), .val (.int p2), .val (.int sel), .val (.ref kd), .val (.int e5), .val (.ref arr), .val (.ref nme), .val (.ref a), .val (.int cnt), .unset] [(.ref b1)])) _
    refine XS.dup X1.here hx rfl (hb hby at_203) rfl rfl ?_
    show Steps p.tables e below (T1.setTop (mkF m 204 #[.val (.int p0), .val (.int p1), .val (.int p2), .val (.int sel), .val (.ref kd), .val (.int e5), .val (.ref arr), .val (.ref nme), .val (.ref a), .val (.int cnt), .unset] [(.ref b1), (.ref b1)])) _
    refine XS.aload X1.here hx rfl (hb hby at_204) rfl rfl ?_
    show Steps p.tables e below (T1.setTop (mkF m 206 #[.val (.int p0), .val (.int p1), .val (.int p2), .val (.int sel), .val (.ref kd), .val (.int e5), .val (.ref arr), .val (.ref nme), .val (.ref a), .val (.int cnt), .unset] [(.ref nme), (.ref b1), (.ref b1)])) _
    refine XS.aload X1.here hx rfl (hb hby at_206) rfl rfl ?_
    show Steps p.tables e below (T1.setTop (mkF m 208 #[.val (.int p0), .val (.int p1), .val (.int p2), .val (.int sel), .val (.ref kd), .val (.int e5), .val (.ref arr), .val (.ref nme), .val (.ref a), .val (.int cnt), .unset] [(.ref kd), (.ref nme), (.ref b1), (.ref b1)])) _
    refine XS.aload X1.here hx rfl (hb hby at_208) rfl rfl ?_
    exact k
  obtain ⟨_, T2, h2, L2, X2, e2, hQ2, st2⟩ := specC X1 hx hZ rfl hown (hw _ (List.mem_of_getElem? (i := 106) rfl)) (hw _ (List.mem_of_getElem? (i := 107) rfl)) (hw _ (List.mem_of_getElem? (i := 108) rfl)) (by decide) (kc := 0) (ks := 0) (Con.sb (W := 1) (rm_colInit0 l hD b1 nme kd a d k O0 A1 F_name_b1 F_kind_b1 F_values_b1 ge_b1 E_a F_ed_a F_sz_a) hZ (hw _ (List.mem_of_getElem? (i := 108) rfl)) (hw _ (List.mem_of_getElem? (i := 105) rfl)) (by decide) (by decide)) e1 (a := b1) (g := (mkF m 210 #[.val (.int p0), .val (.int p1), .val (.int p2), .val (.int sel), .val (.ref kd), .val (.int e5), .val (.ref arr), .val (.ref nme), .val (.ref a), .val (.int cnt), .unset] [(.ref a), (.ref kd), (.ref nme), (.ref b1), (.ref b1)])) rfl (by rw [hml]; rfl) (argsL := [(.ref nme), (.ref kd), (.ref a)]) (rest := [(.ref b1)]) (lenOf pd_18 rfl) rfl (by show 2 * 0 + _ ≤ _; exact Nat.le_of_eq rfl) (hb hby at_210) (by decide) (by decide)
  obtain ⟨rfl, Nq2, Kq2, Eo2, Fk2⟩ := hQ2
  refine OEnds.st (S' := T2.setTop (mkF m 213 #[.val (.int p0), .val (.int p1), .val (.int p2), .val (.int sel), .val (.ref kd), .val (.int e5), .val (.ref arr), .val (.ref nme), .val (.ref a), .val (.int cnt), .unset] [(.ref b1)])) st2 ?_
  replace N0 := Fr.app N0 Nq2
  replace E_a := E_a.keep Kq2
  replace F_ed_a := F_ed_a.keep Kq2 (ninS ne_a_b1 nin0)
  replace F_sz_a := F_sz_a.keep Kq2 (ninS ne_a_b1 nin0)
  replace A1 := A1.keep Kq2
  replace O0 : Ext Z.heap h2 := ext_keep O0 Kq2 (allS ge_b1 all0)
  refine OEnds.st (S' := T2.setTop (mkF m 217 #[.val (.int p0), .val (.int p1), .val (.int p2), .val (.int sel), .val (.ref kd), .val (.int e5), .val (.ref arr), .val (.ref nme), .val (.ref a), .val (.int cnt), .val (.ref b1)] [(.ref b1)])) (fun _ k => ?_) ?_
  · show Steps p.tables e below (T2.setTop (mkF m 213 #[.val (.int p0), .val (.int p1), .val (.int p2), .val (.int sel), .val (.ref kd), .val (.int e5), .val (.ref arr), .val (.ref nme), .val (.ref a), .val (.int cnt), .unset] [(.ref b1)])) _
    refine XS.astore X2.here hx rfl (hb hby at_213) rfl rfl (l' := #[.val (.int p0), .val (.int p1), .val (.int p2), .val (.int sel), .val (.ref kd), .val (.int e5), .val (.ref arr), .val (.ref nme), .val (.ref a), .val (.int cnt), .val (.ref b1)]) rfl ?_
    show Steps p.tables e below (T2.setTop (mkF m 215 #[.val (.int p0), .val (.int p1), .val (.int p2), .val (.int sel), .val (.ref kd), .val (.int e5), .val (.ref arr), .val (.ref nme), .val (.ref a), .val (.int cnt), .val (.ref b1)] [])) _
    refine XS.aload X2.here hx rfl (hb hby at_215) rfl rfl ?_
    exact k
  obtain ⟨_, T3, h3, L3, X3, e3, hQ3, st3⟩ := virtC X2 hx hZ (y := (⟨"com/example/gridtally/gridtally/determinant/Column", "required", "()Z"⟩ : MethodName)) (z := (⟨"com/example/gridtally/gridtally/determinant/Column", "required", "()Z"⟩ : MethodName)) hown (hw _ (List.mem_of_getElem? (i := 206) rfl)) (hw _ (List.mem_of_getElem? (i := 207) rfl)) (nf_sel (args := #[]) (mvT hZ (hw _ (List.mem_of_getElem? (i := 209) rfl))) rfl) (hw _ (List.mem_of_getElem? (i := 209) rfl)) (hw _ (List.mem_of_getElem? (i := 208) rfl)) (by decide) (kc := 0) (ks := 0) (Con.sb (W := 0) (rm_required l hD b1 kd ko O0 Fk2 S_ko) hZ (hw _ (List.mem_of_getElem? (i := 210) rfl)) (hw _ (List.mem_of_getElem? (i := 105) rfl)) (by decide) (by decide)) e2 A1 (g := (mkF m 217 #[.val (.int p0), .val (.int p1), .val (.int p2), .val (.int sel), .val (.ref kd), .val (.int e5), .val (.ref arr), .val (.ref nme), .val (.ref a), .val (.int cnt), .val (.ref b1)] [(.ref b1)])) rfl (by rw [hml]; rfl) (argsL := []) (rest := []) (lenOf pd_10 rfl) rfl (by show 2 * 0 + _ ≤ _; exact Nat.le_of_eq rfl) (hb hby at_217) (by decide) (by decide)
  obtain ⟨z3, rfl, hz3, Nq3, Hq3⟩ := hQ3
  refine OEnds.st (S' := T3.setTop (mkF m 220 #[.val (.int p0), .val (.int p1), .val (.int p2), .val (.int sel), .val (.ref kd), .val (.int e5), .val (.ref arr), .val (.ref nme), .val (.ref a), .val (.int cnt), .val (.ref b1)] [(.int z3)])) st3 ?_
  replace N0 := Fr.app N0 Nq3
  replace e3 := e3.trans Hq3
  have hze : z3 = e5 := by rcases hz3 with ⟨q1, q2⟩ | ⟨q1, q2⟩ <;> rcases hexp with ⟨r1, r2⟩ | ⟨r1, r2⟩ <;> first | exact q1.trans r1.symm | exact absurd r2 q2 | exact absurd q2 r2
  refine OEnds.st (S' := T3.setTop (mkF m 230 #[.val (.int p0), .val (.int p1), .val (.int p2), .val (.int sel), .val (.ref kd), .val (.int e5), .val (.ref arr), .val (.ref nme), .val (.ref a), .val (.int cnt), .val (.ref b1)] [(.int (1 : Int32))])) (fun _ k => ?_) ?_
  · show Steps p.tables e below (T3.setTop (mkF m 220 #[.val (.int p0), .val (.int p1), .val (.int p2), .val (.int sel), .val (.ref kd), .val (.int e5), .val (.ref arr), .val (.ref nme), .val (.ref a), .val (.int cnt), .val (.ref b1)] [(.int z3)])) _
    refine XS.iload X3.here hx rfl (hb hby at_220) rfl ?_
    show Steps p.tables e below (T3.setTop (mkF m 222 #[.val (.int p0), .val (.int p1), .val (.int p2), .val (.int sel), .val (.ref kd), .val (.int e5), .val (.ref arr), .val (.ref nme), .val (.ref a), .val (.int cnt), .val (.ref b1)] [(.int e5), (.int z3)])) _
    refine XS.icmpNo X3.here hx rfl (hb hby at_222) rfl (teq hze).2 ?_
    show Steps p.tables e below (T3.setTop (mkF m 225 #[.val (.int p0), .val (.int p1), .val (.int p2), .val (.int sel), .val (.ref kd), .val (.int e5), .val (.ref arr), .val (.ref nme), .val (.ref a), .val (.int cnt), .val (.ref b1)] [])) _
    refine XS.iconst X3.here hx rfl (hb hby at_225) ?_
    show Steps p.tables e below (T3.setTop (mkF m 226 #[.val (.int p0), .val (.int p1), .val (.int p2), .val (.int sel), .val (.ref kd), .val (.int e5), .val (.ref arr), .val (.ref nme), .val (.ref a), .val (.int cnt), .val (.ref b1)] [(.int (1 : Int32))])) _
    refine XS.goto X3.here hx rfl (pc0 := 226) (pc' := 230) rfl (hb hby at_226) (by decide) (by decide) ?_
    exact k
  exact OEnds.ret X3 hx hret hlk (by decide) (Or.inl ⟨rfl, by simp, _, rfl⟩) (hb hby at_230) (by decide) (by decide) (by rw [e3]; exact ⟨rfl, N0⟩)
set_option maxRecDepth 65536 in
set_option maxHeartbeats 40000000 in
theorem sg_200_1 {p : Program} {l : Launch} {e : Env} {s : State} {m : MethodId} {args : Array Value} {below : List Frame} {meth : Method} {c : Code} {T0 : State} {locs : List Loc} {Z : State} {a0 : Array Value} (hD : Wd Z a0) (p0 p1 p2 sel e5 : Int32) (kd ko arr nme a : Addr) (cnt : Int32) (d : Addr) (k : ClassId) (x1 : Addr) {h0 : Heap} (O0 : Ext Z.heap h0)
    (X0 : Stand p l e room_1 s m args below meth c T0 locs 20 90) (hx : p.tables.exec = Jvm.exec) (hZ : Z.Warmed39 s.vm) (hby : c.code = code) (hml : c.maxLocals = 11) (hown : s.vm.findClass "com/example/gridtally/gridtally/determinant/ColumnRequiredPinLaw" = some m.cls) (hnm : meth.name = "law") (hret : meth.sig.returnType = some .boolean) (hlk : meth.locks = false) (e0 : T0.heap = h0) (N0 : Fr Z.heap.size locs) (E_a : Exa Z h0 a "java/util/ArrayList") (F_ed_a : Fld Z h0 a "java/util/ArrayList" "elementData" "[Ljava/lang/Object;" (.ref d)) (F_sz_a : Fld Z h0 a "java/util/ArrayList" "size" "I" (.int (1 : Int32))) (E_d : Exa Z h0 d "[Ljava/lang/Object;") (V_d : Arv Z h0 d k (.object "java/lang/Object") (10 : Int32) [(.ref x1), .null, .null, .null, .null, .null, .null, .null, .null, .null] .null) (E_x1 : Exa Z h0 x1 "java/lang/String") (S_ko : Sta Z Z.heap "com/example/gridtally/gridtally/determinant/Column$Kind" "OPTIONAL_DECIMAL" "Lcom/example/gridtally/gridtally/determinant/Column$Kind;" (.ref ko)) (hexp : (e5 = 1 ∧ ¬ kd = ko) ∨ (e5 = 0 ∧ kd = ko)) :
    OEnds p e below s room_1.cells room_1.slots (Q_law Z) (T0.setTop (mkF m 200 #[.val (.int p0), .val (.int p1), .val (.int p2), .val (.int sel), .val (.ref kd), .val (.int e5), .val (.ref arr), .val (.ref nme), .val (.ref a), .val (.int cnt), .unset] [])) := by
  obtain ⟨hw, ⟨cz, S_CS, hcz⟩, ⟨xde, xkde, S_DE, V_DE⟩, ⟨aEM, S_EM⟩, ⟨aEL, S_EL⟩, ⟨cO, kO, mrO, mir1, mir2, mir3⟩, ⟨k0, k1, k2, k3, k4, S_K0, S_K1, S_K2, S_K3, S_K4, kn0, kn2, kn3, kn4⟩⟩ := id hD
  obtain ⟨T1, h1, X1, e1, E1, A1, D1, U1, st1⟩ := newO X0 hx hZ hown (hw _ (List.mem_of_getElem? (i := 103) rfl)) (hw _ (List.mem_of_getElem? (i := 104) rfl)) (hw _ (List.mem_of_getElem? (i := 105) rfl)) e0 (g := (mkF m 200 #[.val (.int p0), .val (.int p1), .val (.int p2), .val (.int sel), .val (.ref kd), .val (.int e5), .val (.ref arr), .val (.ref nme), .val (.ref a), .val (.int cnt), .unset] [])) rfl (hb hby at_200) (by decide) (by decide)
  obtain ⟨b1, g1⟩ : ∃ z, z = h0.size := ⟨_, rfl⟩
  rw [← g1] at A1 D1 U1 st1
  refine OEnds.st (S' := T1.setTop (mkF m 203 #[.val (.int p0), .val (.int p1), .val (.int p2), .val (.int sel), .val (.ref kd), .val (.int e5), .val (.ref arr), .val (.ref nme), .val (.ref a), .val (.int cnt), .unset] [(.ref b1)])) st1 ?_
  have ne_a_b1 : a ≠ b1 := Nat.ne_of_lt (Nat.lt_of_lt_of_le E_a.lt (Nat.le_of_eq g1.symm))
  have ne_d_b1 : d ≠ b1 := Nat.ne_of_lt (Nat.lt_of_lt_of_le E_d.lt (Nat.le_of_eq g1.symm))
  have ne_x1_b1 : x1 ≠ b1 := Nat.ne_of_lt (Nat.lt_of_lt_of_le E_x1.lt (Nat.le_of_eq g1.symm))
  have ge_b1 : Z.heap.size ≤ b1 := Nat.le_trans O0.1 (Nat.le_of_eq g1.symm)
  replace E_a := E_a.ext E1
  replace F_ed_a := F_ed_a.ext E1
  replace F_sz_a := F_sz_a.ext E1
  replace E_d := E_d.ext E1
  replace V_d := V_d.ext E1
  replace E_x1 := E_x1.ext E1
  replace O0 : Ext Z.heap h1 := ext_trans O0 E1
  have F_name_b1 : Fld Z h1 b1 "com/example/gridtally/gridtally/determinant/Column" "name" "Ljava/lang/String;" .null := D1 (Or.inr (hw _ (List.mem_of_getElem? (i := 201) rfl))) (ty := (.object "java/lang/String")) (by decide)
  have F_kind_b1 : Fld Z h1 b1 "com/example/gridtally/gridtally/determinant/Column" "kind" "Lcom/example/gridtally/gridtally/determinant/Column$Kind;" .null := D1 (Or.inr (hw _ (List.mem_of_getElem? (i := 203) rfl))) (ty := (.object "com/example/gridtally/gridtally/determinant/Column$Kind")) (by decide)
  have F_values_b1 : Fld Z h1 b1 "com/example/gridtally/gridtally/determinant/Column" "values" "Ljava/util/List;" .null := D1 (Or.inr (hw _ (List.mem_of_getElem? (i := 205) rfl))) (ty := (.object "java/util/List")) (by decide)
  refine OEnds.st (S' := T1.setTop (mkF m 210 #[.val (.int p0), .val (.int p1), .val (.int p2), .val (.int sel), .val (.ref kd), .val (.int e5), .val (.ref arr), .val (.ref nme), .val (.ref a), .val (.int cnt), .unset] [(.ref a), (.ref kd), (.ref nme), (.ref b1), (.ref b1)])) (fun _ k => ?_) ?_
  · show Steps p.tables e below (T1.setTop (mkF m 203 #[.val (.int p0), .val (.int p1), .val (.int p2), .val (.int sel), .val (.ref kd), .val (.int e5), .val (.ref arr), .val (.ref nme), .val (.ref a), .val (.int cnt), .unset] [(.ref b1)])) _
    refine XS.dup X1.here hx rfl (hb hby at_203) rfl rfl ?_
    show Steps p.tables e below (T1.setTop (mkF m 204 #[.val (.int p0), .val (.int p1), .val (.int p2), .val (.int sel), .val (.ref kd), .val (.int e5), .val (.ref arr), .val (.ref nme), .val (.ref a), .val (.int cnt), .unset] [(.ref b1), (.ref b1)])) _
    refine XS.aload X1.here hx rfl (hb hby at_204) rfl rfl ?_
    show Steps p.tables e below (T1.setTop (mkF m 206 #[.val (.int p0), .val (.int p1), .val (.int p2), .val (.int sel), .val (.ref kd), .val (.int e5), .val (.ref arr), .val (.ref nme), .val (.ref a), .val (.int cnt), .unset] [(.ref nme), (.ref b1), (.ref b1)])) _
    refine XS.aload X1.here hx rfl (hb hby at_206) rfl rfl ?_
    show Steps p.tables e below (T1.setTop (mkF m 208 #[.val (.int p0), .val (.int p1), .val (.int p2), .val (.int sel), .val (.ref kd), .val (.int e5), .val (.ref arr), .val (.ref nme), .val (.ref a), .val (.int cnt), .unset] [(.ref kd), (.ref nme), (.ref b1), (.ref b1)])) _
    refine XS.aload X1.here hx rfl (hb hby at_208) rfl rfl ?_
    exact k
  obtain ⟨_, T2, h2, L2, X2, e2, hQ2, st2⟩ := specC X1 hx hZ rfl hown (hw _ (List.mem_of_getElem? (i := 106) rfl)) (hw _ (List.mem_of_getElem? (i := 107) rfl)) (hw _ (List.mem_of_getElem? (i := 108) rfl)) (by decide) (kc := 2) (ks := 3) (Con.sb (W := 1) (rm_colInit1 l hD b1 nme kd a d k x1 O0 A1 F_name_b1 F_kind_b1 F_values_b1 ge_b1 E_a F_ed_a F_sz_a E_d V_d E_x1) hZ (hw _ (List.mem_of_getElem? (i := 108) rfl)) (hw _ (List.mem_of_getElem? (i := 105) rfl)) (by decide) (by decide)) e1 (a := b1) (g := (mkF m 210 #[.val (.int p0), .val (.int p1), .val (.int p2), .val (.int sel), .val (.ref kd), .val (.int e5), .val (.ref arr), .val (.ref nme), .val (.ref a), .val (.int cnt), .unset] [(.ref a), (.ref kd), (.ref nme), (.ref b1), (.ref b1)])) rfl (by rw [hml]; rfl) (argsL := [(.ref nme), (.ref kd), (.ref a)]) (rest := [(.ref b1)]) (lenOf pd_18 rfl) rfl (by show 2 * 0 + _ ≤ _; exact Nat.le_of_eq rfl) (hb hby at_210) (by decide) (by decide)
  obtain ⟨rfl, Nq2, Kq2, Eo2, Fk2⟩ := hQ2
  refine OEnds.st (S' := T2.setTop (mkF m 213 #[.val (.int p0), .val (.int p1), .val (.int p2), .val (.int sel), .val (.ref kd), .val (.int e5), .val (.ref arr), .val (.ref nme), .val (.ref a), .val (.int cnt), .unset] [(.ref b1)])) st2 ?_
  replace N0 := Fr.app N0 Nq2
  replace E_a := E_a.keep Kq2
  replace F_ed_a := F_ed_a.keep Kq2 (ninS ne_a_b1 nin0)
  replace F_sz_a := F_sz_a.keep Kq2 (ninS ne_a_b1 nin0)
  replace E_d := E_d.keep Kq2
  replace V_d := V_d.keep Kq2 (ninS ne_d_b1 nin0)
  replace E_x1 := E_x1.keep Kq2
  replace A1 := A1.keep Kq2
  replace O0 : Ext Z.heap h2 := ext_keep O0 Kq2 (allS ge_b1 all0)
  refine OEnds.st (S' := T2.setTop (mkF m 217 #[.val (.int p0), .val (.int p1), .val (.int p2), .val (.int sel), .val (.ref kd), .val (.int e5), .val (.ref arr), .val (.ref nme), .val (.ref a), .val (.int cnt), .val (.ref b1)] [(.ref b1)])) (fun _ k => ?_) ?_
  · show Steps p.tables e below (T2.setTop (mkF m 213 #[.val (.int p0), .val (.int p1), .val (.int p2), .val (.int sel), .val (.ref kd), .val (.int e5), .val (.ref arr), .val (.ref nme), .val (.ref a), .val (.int cnt), .unset] [(.ref b1)])) _
    refine XS.astore X2.here hx rfl (hb hby at_213) rfl rfl (l' := #[.val (.int p0), .val (.int p1), .val (.int p2), .val (.int sel), .val (.ref kd), .val (.int e5), .val (.ref arr), .val (.ref nme), .val (.ref a), .val (.int cnt), .val (.ref b1)]) rfl ?_
    show Steps p.tables e below (T2.setTop (mkF m 215 #[.val (.int p0), .val (.int p1), .val (.int p2), .val (.int sel), .val (.ref kd), .val (.int e5), .val (.ref arr), .val (.ref nme), .val (.ref a), .val (.int cnt), .val (.ref b1)] [])) _
    refine XS.aload X2.here hx rfl (hb hby at_215) rfl rfl ?_
    exact k
  obtain ⟨_, T3, h3, L3, X3, e3, hQ3, st3⟩ := virtC X2 hx hZ (y := (⟨"com/example/gridtally/gridtally/determinant/Column", "required", "()Z"⟩ : MethodName)) (z := (⟨"com/example/gridtally/gridtally/determinant/Column", "required", "()Z"⟩ : MethodName)) hown (hw _ (List.mem_of_getElem? (i := 206) rfl)) (hw _ (List.mem_of_getElem? (i := 207) rfl)) (nf_sel (args := #[]) (mvT hZ (hw _ (List.mem_of_getElem? (i := 209) rfl))) rfl) (hw _ (List.mem_of_getElem? (i := 209) rfl)) (hw _ (List.mem_of_getElem? (i := 208) rfl)) (by decide) (kc := 0) (ks := 0) (Con.sb (W := 0) (rm_required l hD b1 kd ko O0 Fk2 S_ko) hZ (hw _ (List.mem_of_getElem? (i := 210) rfl)) (hw _ (List.mem_of_getElem? (i := 105) rfl)) (by decide) (by decide)) e2 A1 (g := (mkF m 217 #[.val (.int p0), .val (.int p1), .val (.int p2), .val (.int sel), .val (.ref kd), .val (.int e5), .val (.ref arr), .val (.ref nme), .val (.ref a), .val (.int cnt), .val (.ref b1)] [(.ref b1)])) rfl (by rw [hml]; rfl) (argsL := []) (rest := []) (lenOf pd_10 rfl) rfl (by show 2 * 0 + _ ≤ _; exact Nat.le_of_eq rfl) (hb hby at_217) (by decide) (by decide)
  obtain ⟨z3, rfl, hz3, Nq3, Hq3⟩ := hQ3
  refine OEnds.st (S' := T3.setTop (mkF m 220 #[.val (.int p0), .val (.int p1), .val (.int p2), .val (.int sel), .val (.ref kd), .val (.int e5), .val (.ref arr), .val (.ref nme), .val (.ref a), .val (.int cnt), .val (.ref b1)] [(.int z3)])) st3 ?_
  replace N0 := Fr.app N0 Nq3
  replace e3 := e3.trans Hq3
  have hze : z3 = e5 := by rcases hz3 with ⟨q1, q2⟩ | ⟨q1, q2⟩ <;> rcases hexp with ⟨r1, r2⟩ | ⟨r1, r2⟩ <;> first | exact q1.trans r1.symm | exact absurd r2 q2 | exact absurd q2 r2
  refine OEnds.st (S' := T3.setTop (mkF m 230 #[.val (.int p0), .val (.int p1), .val (.int p2), .val (.int sel), .val (.ref kd), .val (.int e5), .val (.ref arr), .val (.ref nme), .val (.ref a), .val (.int cnt), .val (.ref b1)] [(.int (1 : Int32))])) (fun _ k => ?_) ?_
  · show Steps p.tables e below (T3.setTop (mkF m 220 #[.val (.int p0), .val (.int p1), .val (.int p2), .val (.int sel), .val (.ref kd), .val (.int e5), .val (.ref arr), .val (.ref nme), .val (.ref a), .val (.int cnt), .val (.ref b1)] [(.int z3)])) _
    refine XS.iload X3.here hx rfl (hb hby at_220) rfl ?_
    show Steps p.tables e below (T3.setTop (mkF m 222 #[.val (.int p0), .val (.int p1), .val (.int p2), .val (.int sel), .val (.ref kd), .val (.int e5), .val (.ref arr), .val (.ref nme), .val (.ref a), .val (.int cnt), .val (.ref b1)] [(.int e5), (.int z3)])) _
    refine XS.icmpNo X3.here hx rfl (hb hby at_222) rfl (teq hze).2 ?_
    show Steps p.tables e below (T3.setTop (mkF m 225 #[.val (.int p0), .val (.int p1), .val (.int p2), .val (.int sel), .val (.ref kd), .val (.int e5), .val (.ref arr), .val (.ref nme), .val (.ref a), .val (.int cnt), .val (.ref b1)] [])) _
    refine XS.iconst X3.here hx rfl (hb hby at_225) ?_
    show Steps p.tables e below (T3.setTop (mkF m 226 #[.val (.int p0), .val (.int p1), .val (.int p2), .val (.int sel), .val (.ref kd), .val (.int e5), .val (.ref arr), .val (.ref nme), .val (.ref a), .val (.int cnt), .val (.ref b1)] [(.int (1 : Int32))])) _
    refine XS.goto X3.here hx rfl (pc0 := 226) (pc' := 230) rfl (hb hby at_226) (by decide) (by decide) ?_
    exact k
  exact OEnds.ret X3 hx hret hlk (by decide) (Or.inl ⟨rfl, by simp, _, rfl⟩) (hb hby at_230) (by decide) (by decide) (by rw [e3]; exact ⟨rfl, N0⟩)
set_option maxRecDepth 65536 in
set_option maxHeartbeats 40000000 in
theorem sg_200_2 {p : Program} {l : Launch} {e : Env} {s : State} {m : MethodId} {args : Array Value} {below : List Frame} {meth : Method} {c : Code} {T0 : State} {locs : List Loc} {Z : State} {a0 : Array Value} (hD : Wd Z a0) (p0 p1 p2 sel e5 : Int32) (kd ko arr nme a : Addr) (cnt : Int32) (d : Addr) (k : ClassId) (x1 : Addr) (x2 : Addr) {h0 : Heap} (O0 : Ext Z.heap h0)
    (X0 : Stand p l e room_1 s m args below meth c T0 locs 20 90) (hx : p.tables.exec = Jvm.exec) (hZ : Z.Warmed39 s.vm) (hby : c.code = code) (hml : c.maxLocals = 11) (hown : s.vm.findClass "com/example/gridtally/gridtally/determinant/ColumnRequiredPinLaw" = some m.cls) (hnm : meth.name = "law") (hret : meth.sig.returnType = some .boolean) (hlk : meth.locks = false) (e0 : T0.heap = h0) (N0 : Fr Z.heap.size locs) (E_a : Exa Z h0 a "java/util/ArrayList") (F_ed_a : Fld Z h0 a "java/util/ArrayList" "elementData" "[Ljava/lang/Object;" (.ref d)) (F_sz_a : Fld Z h0 a "java/util/ArrayList" "size" "I" (.int (2 : Int32))) (E_d : Exa Z h0 d "[Ljava/lang/Object;") (V_d : Arv Z h0 d k (.object "java/lang/Object") (10 : Int32) [(.ref x1), (.ref x2), .null, .null, .null, .null, .null, .null, .null, .null] .null) (E_x1 : Exa Z h0 x1 "java/lang/String") (E_x2 : Exa Z h0 x2 "java/lang/String") (S_ko : Sta Z Z.heap "com/example/gridtally/gridtally/determinant/Column$Kind" "OPTIONAL_DECIMAL" "Lcom/example/gridtally/gridtally/determinant/Column$Kind;" (.ref ko)) (hexp : (e5 = 1 ∧ ¬ kd = ko) ∨ (e5 = 0 ∧ kd = ko)) :
    OEnds p e below s room_1.cells room_1.slots (Q_law Z) (T0.setTop (mkF m 200 #[.val (.int p0), .val (.int p1), .val (.int p2), .val (.int sel), .val (.ref kd), .val (.int e5), .val (.ref arr), .val (.ref nme), .val (.ref a), .val (.int cnt), .unset] [])) := by
  obtain ⟨hw, ⟨cz, S_CS, hcz⟩, ⟨xde, xkde, S_DE, V_DE⟩, ⟨aEM, S_EM⟩, ⟨aEL, S_EL⟩, ⟨cO, kO, mrO, mir1, mir2, mir3⟩, ⟨k0, k1, k2, k3, k4, S_K0, S_K1, S_K2, S_K3, S_K4, kn0, kn2, kn3, kn4⟩⟩ := id hD
  obtain ⟨T1, h1, X1, e1, E1, A1, D1, U1, st1⟩ := newO X0 hx hZ hown (hw _ (List.mem_of_getElem? (i := 103) rfl)) (hw _ (List.mem_of_getElem? (i := 104) rfl)) (hw _ (List.mem_of_getElem? (i := 105) rfl)) e0 (g := (mkF m 200 #[.val (.int p0), .val (.int p1), .val (.int p2), .val (.int sel), .val (.ref kd), .val (.int e5), .val (.ref arr), .val (.ref nme), .val (.ref a), .val (.int cnt), .unset] [])) rfl (hb hby at_200) (by decide) (by decide)
  obtain ⟨b1, g1⟩ : ∃ z, z = h0.size := ⟨_, rfl⟩
  rw [← g1] at A1 D1 U1 st1
  refine OEnds.st (S' := T1.setTop (mkF m 203 #[.val (.int p0), .val (.int p1), .val (.int p2), .val (.int sel), .val (.ref kd), .val (.int e5), .val (.ref arr), .val (.ref nme), .val (.ref a), .val (.int cnt), .unset] [(.ref b1)])) st1 ?_
  have ne_a_b1 : a ≠ b1 := Nat.ne_of_lt (Nat.lt_of_lt_of_le E_a.lt (Nat.le_of_eq g1.symm))
  have ne_d_b1 : d ≠ b1 := Nat.ne_of_lt (Nat.lt_of_lt_of_le E_d.lt (Nat.le_of_eq g1.symm))
  have ne_x1_b1 : x1 ≠ b1 := Nat.ne_of_lt (Nat.lt_of_lt_of_le E_x1.lt (Nat.le_of_eq g1.symm))
  have ne_x2_b1 : x2 ≠ b1 := Nat.ne_of_lt (Nat.lt_of_lt_of_le E_x2.lt (Nat.le_of_eq g1.symm))
  have ge_b1 : Z.heap.size ≤ b1 := Nat.le_trans O0.1 (Nat.le_of_eq g1.symm)
  replace E_a := E_a.ext E1
  replace F_ed_a := F_ed_a.ext E1
  replace F_sz_a := F_sz_a.ext E1
  replace E_d := E_d.ext E1
  replace V_d := V_d.ext E1
  replace E_x1 := E_x1.ext E1
  replace E_x2 := E_x2.ext E1
  replace O0 : Ext Z.heap h1 := ext_trans O0 E1
  have F_name_b1 : Fld Z h1 b1 "com/example/gridtally/gridtally/determinant/Column" "name" "Ljava/lang/String;" .null := D1 (Or.inr (hw _ (List.mem_of_getElem? (i := 201) rfl))) (ty := (.object "java/lang/String")) (by decide)
  have F_kind_b1 : Fld Z h1 b1 "com/example/gridtally/gridtally/determinant/Column" "kind" "Lcom/example/gridtally/gridtally/determinant/Column$Kind;" .null := D1 (Or.inr (hw _ (List.mem_of_getElem? (i := 203) rfl))) (ty := (.object "com/example/gridtally/gridtally/determinant/Column$Kind")) (by decide)
  have F_values_b1 : Fld Z h1 b1 "com/example/gridtally/gridtally/determinant/Column" "values" "Ljava/util/List;" .null := D1 (Or.inr (hw _ (List.mem_of_getElem? (i := 205) rfl))) (ty := (.object "java/util/List")) (by decide)
  refine OEnds.st (S' := T1.setTop (mkF m 210 #[.val (.int p0), .val (.int p1), .val (.int p2), .val (.int sel), .val (.ref kd), .val (.int e5), .val (.ref arr), .val (.ref nme), .val (.ref a), .val (.int cnt), .unset] [(.ref a), (.ref kd), (.ref nme), (.ref b1), (.ref b1)])) (fun _ k => ?_) ?_
  · show Steps p.tables e below (T1.setTop (mkF m 203 #[.val (.int p0), .val (.int p1), .val (.int p2), .val (.int sel), .val (.ref kd), .val (.int e5), .val (.ref arr), .val (.ref nme), .val (.ref a), .val (.int cnt), .unset] [(.ref b1)])) _
    refine XS.dup X1.here hx rfl (hb hby at_203) rfl rfl ?_
    show Steps p.tables e below (T1.setTop (mkF m 204 #[.val (.int p0), .val (.int p1), .val (.int p2), .val (.int sel), .val (.ref kd), .val (.int e5), .val (.ref arr), .val (.ref nme), .val (.ref a), .val (.int cnt), .unset] [(.ref b1), (.ref b1)])) _
    refine XS.aload X1.here hx rfl (hb hby at_204) rfl rfl ?_
    show Steps p.tables e below (T1.setTop (mkF m 206 #[.val (.int p0), .val (.int p1), .val (.int p2), .val (.int sel), .val (.ref kd), .val (.int e5), .val (.ref arr), .val (.ref nme), .val (.ref a), .val (.int cnt), .unset] [(.ref nme), (.ref b1), (.ref b1)])) _
    refine XS.aload X1.here hx rfl (hb hby at_206) rfl rfl ?_
    show Steps p.tables e below (T1.setTop (mkF m 208 #[.val (.int p0), .val (.int p1), .val (.int p2), .val (.int sel), .val (.ref kd), .val (.int e5), .val (.ref arr), .val (.ref nme), .val (.ref a), .val (.int cnt), .unset] [(.ref kd), (.ref nme), (.ref b1), (.ref b1)])) _
    refine XS.aload X1.here hx rfl (hb hby at_208) rfl rfl ?_
    exact k
  obtain ⟨_, T2, h2, L2, X2, e2, hQ2, st2⟩ := specC X1 hx hZ rfl hown (hw _ (List.mem_of_getElem? (i := 106) rfl)) (hw _ (List.mem_of_getElem? (i := 107) rfl)) (hw _ (List.mem_of_getElem? (i := 108) rfl)) (by decide) (kc := 2) (ks := 4) (Con.sb (W := 1) (rm_colInit2 l hD b1 nme kd a d k x1 x2 O0 A1 F_name_b1 F_kind_b1 F_values_b1 ge_b1 E_a F_ed_a F_sz_a E_d V_d E_x1 E_x2) hZ (hw _ (List.mem_of_getElem? (i := 108) rfl)) (hw _ (List.mem_of_getElem? (i := 105) rfl)) (by decide) (by decide)) e1 (a := b1) (g := (mkF m 210 #[.val (.int p0), .val (.int p1), .val (.int p2), .val (.int sel), .val (.ref kd), .val (.int e5), .val (.ref arr), .val (.ref nme), .val (.ref a), .val (.int cnt), .unset] [(.ref a), (.ref kd), (.ref nme), (.ref b1), (.ref b1)])) rfl (by rw [hml]; rfl) (argsL := [(.ref nme), (.ref kd), (.ref a)]) (rest := [(.ref b1)]) (lenOf pd_18 rfl) rfl (by show 2 * 0 + _ ≤ _; exact Nat.le_of_eq rfl) (hb hby at_210) (by decide) (by decide)
  obtain ⟨rfl, Nq2, Kq2, Eo2, Fk2⟩ := hQ2
  refine OEnds.st (S' := T2.setTop (mkF m 213 #[.val (.int p0), .val (.int p1), .val (.int p2), .val (.int sel), .val (.ref kd), .val (.int e5), .val (.ref arr), .val (.ref nme), .val (.ref a), .val (.int cnt), .unset] [(.ref b1)])) st2 ?_
  replace N0 := Fr.app N0 Nq2
  replace E_a := E_a.keep Kq2
  replace F_ed_a := F_ed_a.keep Kq2 (ninS ne_a_b1 nin0)
  replace F_sz_a := F_sz_a.keep Kq2 (ninS ne_a_b1 nin0)
  replace E_d := E_d.keep Kq2
  replace V_d := V_d.keep Kq2 (ninS ne_d_b1 nin0)
  replace E_x1 := E_x1.keep Kq2
  replace E_x2 := E_x2.keep Kq2
  replace A1 := A1.keep Kq2
  replace O0 : Ext Z.heap h2 := ext_keep O0 Kq2 (allS ge_b1 all0)
  refine OEnds.st (S' := T2.setTop (mkF m 217 #[.val (.int p0), .val (.int p1), .val (.int p2), .val (.int sel), .val (.ref kd), .val (.int e5), .val (.ref arr), .val (.ref nme), .val (.ref a), .val (.int cnt), .val (.ref b1)] [(.ref b1)])) (fun _ k => ?_) ?_
  · show Steps p.tables e below (T2.setTop (mkF m 213 #[.val (.int p0), .val (.int p1), .val (.int p2), .val (.int sel), .val (.ref kd), .val (.int e5), .val (.ref arr), .val (.ref nme), .val (.ref a), .val (.int cnt), .unset] [(.ref b1)])) _
    refine XS.astore X2.here hx rfl (hb hby at_213) rfl rfl (l' := #[.val (.int p0), .val (.int p1), .val (.int p2), .val (.int sel), .val (.ref kd), .val (.int e5), .val (.ref arr), .val (.ref nme), .val (.ref a), .val (.int cnt), .val (.ref b1)]) rfl ?_
    show Steps p.tables e below (T2.setTop (mkF m 215 #[.val (.int p0), .val (.int p1), .val (.int p2), .val (.int sel), .val (.ref kd), .val (.int e5), .val (.ref arr), .val (.ref nme), .val (.ref a), .val (.int cnt), .val (.ref b1)] [])) _
    refine XS.aload X2.here hx rfl (hb hby at_215) rfl rfl ?_
    exact k
  obtain ⟨_, T3, h3, L3, X3, e3, hQ3, st3⟩ := virtC X2 hx hZ (y := (⟨"com/example/gridtally/gridtally/determinant/Column", "required", "()Z"⟩ : MethodName)) (z := (⟨"com/example/gridtally/gridtally/determinant/Column", "required", "()Z"⟩ : MethodName)) hown (hw _ (List.mem_of_getElem? (i := 206) rfl)) (hw _ (List.mem_of_getElem? (i := 207) rfl)) (nf_sel (args := #[]) (mvT hZ (hw _ (List.mem_of_getElem? (i := 209) rfl))) rfl) (hw _ (List.mem_of_getElem? (i := 209) rfl)) (hw _ (List.mem_of_getElem? (i := 208) rfl)) (by decide) (kc := 0) (ks := 0) (Con.sb (W := 0) (rm_required l hD b1 kd ko O0 Fk2 S_ko) hZ (hw _ (List.mem_of_getElem? (i := 210) rfl)) (hw _ (List.mem_of_getElem? (i := 105) rfl)) (by decide) (by decide)) e2 A1 (g := (mkF m 217 #[.val (.int p0), .val (.int p1), .val (.int p2), .val (.int sel), .val (.ref kd), .val (.int e5), .val (.ref arr), .val (.ref nme), .val (.ref a), .val (.int cnt), .val (.ref b1)] [(.ref b1)])) rfl (by rw [hml]; rfl) (argsL := []) (rest := []) (lenOf pd_10 rfl) rfl (by show 2 * 0 + _ ≤ _; exact Nat.le_of_eq rfl) (hb hby at_217) (by decide) (by decide)
  obtain ⟨z3, rfl, hz3, Nq3, Hq3⟩ := hQ3
  refine OEnds.st (S' := T3.setTop (mkF m 220 #[.val (.int p0), .val (.int p1), .val (.int p2), .val (.int sel), .val (.ref kd), .val (.int e5), .val (.ref arr), .val (.ref nme), .val (.ref a), .val (.int cnt), .val (.ref b1)] [(.int z3)])) st3 ?_
  replace N0 := Fr.app N0 Nq3
  replace e3 := e3.trans Hq3
  have hze : z3 = e5 := by rcases hz3 with ⟨q1, q2⟩ | ⟨q1, q2⟩ <;> rcases hexp with ⟨r1, r2⟩ | ⟨r1, r2⟩ <;> first | exact q1.trans r1.symm | exact absurd r2 q2 | exact absurd q2 r2
  refine OEnds.st (S' := T3.setTop (mkF m 230 #[.val (.int p0), .val (.int p1), .val (.int p2), .val (.int sel), .val (.ref kd), .val (.int e5), .val (.ref arr), .val (.ref nme), .val (.ref a), .val (.int cnt), .val (.ref b1)] [(.int (1 : Int32))])) (fun _ k => ?_) ?_
  · show Steps p.tables e below (T3.setTop (mkF m 220 #[.val (.int p0), .val (.int p1), .val (.int p2), .val (.int sel), .val (.ref kd), .val (.int e5), .val (.ref arr), .val (.ref nme), .val (.ref a), .val (.int cnt), .val (.ref b1)] [(.int z3)])) _
    refine XS.iload X3.here hx rfl (hb hby at_220) rfl ?_
    show Steps p.tables e below (T3.setTop (mkF m 222 #[.val (.int p0), .val (.int p1), .val (.int p2), .val (.int sel), .val (.ref kd), .val (.int e5), .val (.ref arr), .val (.ref nme), .val (.ref a), .val (.int cnt), .val (.ref b1)] [(.int e5), (.int z3)])) _
    refine XS.icmpNo X3.here hx rfl (hb hby at_222) rfl (teq hze).2 ?_
    show Steps p.tables e below (T3.setTop (mkF m 225 #[.val (.int p0), .val (.int p1), .val (.int p2), .val (.int sel), .val (.ref kd), .val (.int e5), .val (.ref arr), .val (.ref nme), .val (.ref a), .val (.int cnt), .val (.ref b1)] [])) _
    refine XS.iconst X3.here hx rfl (hb hby at_225) ?_
    show Steps p.tables e below (T3.setTop (mkF m 226 #[.val (.int p0), .val (.int p1), .val (.int p2), .val (.int sel), .val (.ref kd), .val (.int e5), .val (.ref arr), .val (.ref nme), .val (.ref a), .val (.int cnt), .val (.ref b1)] [(.int (1 : Int32))])) _
    refine XS.goto X3.here hx rfl (pc0 := 226) (pc' := 230) rfl (hb hby at_226) (by decide) (by decide) ?_
    exact k
  exact OEnds.ret X3 hx hret hlk (by decide) (Or.inl ⟨rfl, by simp, _, rfl⟩) (hb hby at_230) (by decide) (by decide) (by rw [e3]; exact ⟨rfl, N0⟩)
set_option maxRecDepth 65536 in
set_option maxHeartbeats 40000000 in
theorem sg_200_3 {p : Program} {l : Launch} {e : Env} {s : State} {m : MethodId} {args : Array Value} {below : List Frame} {meth : Method} {c : Code} {T0 : State} {locs : List Loc} {Z : State} {a0 : Array Value} (hD : Wd Z a0) (p0 p1 p2 sel e5 : Int32) (kd ko arr nme a : Addr) (cnt : Int32) (d : Addr) (k : ClassId) (x1 : Addr) (x2 : Addr) (x3 : Addr) {h0 : Heap} (O0 : Ext Z.heap h0)
    (X0 : Stand p l e room_1 s m args below meth c T0 locs 20 90) (hx : p.tables.exec = Jvm.exec) (hZ : Z.Warmed39 s.vm) (hby : c.code = code) (hml : c.maxLocals = 11) (hown : s.vm.findClass "com/example/gridtally/gridtally/determinant/ColumnRequiredPinLaw" = some m.cls) (hnm : meth.name = "law") (hret : meth.sig.returnType = some .boolean) (hlk : meth.locks = false) (e0 : T0.heap = h0) (N0 : Fr Z.heap.size locs) (E_a : Exa Z h0 a "java/util/ArrayList") (F_ed_a : Fld Z h0 a "java/util/ArrayList" "elementData" "[Ljava/lang/Object;" (.ref d)) (F_sz_a : Fld Z h0 a "java/util/ArrayList" "size" "I" (.int (3 : Int32))) (E_d : Exa Z h0 d "[Ljava/lang/Object;") (V_d : Arv Z h0 d k (.object "java/lang/Object") (10 : Int32) [(.ref x1), (.ref x2), (.ref x3), .null, .null, .null, .null, .null, .null, .null] .null) (E_x1 : Exa Z h0 x1 "java/lang/String") (E_x2 : Exa Z h0 x2 "java/lang/String") (E_x3 : Exa Z h0 x3 "java/lang/String") (S_ko : Sta Z Z.heap "com/example/gridtally/gridtally/determinant/Column$Kind" "OPTIONAL_DECIMAL" "Lcom/example/gridtally/gridtally/determinant/Column$Kind;" (.ref ko)) (hexp : (e5 = 1 ∧ ¬ kd = ko) ∨ (e5 = 0 ∧ kd = ko)) :
    OEnds p e below s room_1.cells room_1.slots (Q_law Z) (T0.setTop (mkF m 200 #[.val (.int p0), .val (.int p1), .val (.int p2), .val (.int sel), .val (.ref kd), .val (.int e5), .val (.ref arr), .val (.ref nme), .val (.ref a), .val (.int cnt), .unset] [])) := by
  obtain ⟨hw, ⟨cz, S_CS, hcz⟩, ⟨xde, xkde, S_DE, V_DE⟩, ⟨aEM, S_EM⟩, ⟨aEL, S_EL⟩, ⟨cO, kO, mrO, mir1, mir2, mir3⟩, ⟨k0, k1, k2, k3, k4, S_K0, S_K1, S_K2, S_K3, S_K4, kn0, kn2, kn3, kn4⟩⟩ := id hD
  obtain ⟨T1, h1, X1, e1, E1, A1, D1, U1, st1⟩ := newO X0 hx hZ hown (hw _ (List.mem_of_getElem? (i := 103) rfl)) (hw _ (List.mem_of_getElem? (i := 104) rfl)) (hw _ (List.mem_of_getElem? (i := 105) rfl)) e0 (g := (mkF m 200 #[.val (.int p0), .val (.int p1), .val (.int p2), .val (.int sel), .val (.ref kd), .val (.int e5), .val (.ref arr), .val (.ref nme), .val (.ref a), .val (.int cnt), .unset] [])) rfl (hb hby at_200) (by decide) (by decide)
  obtain ⟨b1, g1⟩ : ∃ z, z = h0.size := ⟨_, rfl⟩
  rw [← g1] at A1 D1 U1 st1
  refine OEnds.st (S' := T1.setTop (mkF m 203 #[.val (.int p0), .val (.int p1), .val (.int p2), .val (.int sel), .val (.ref kd), .val (.int e5), .val (.ref arr), .val (.ref nme), .val (.ref a), .val (.int cnt), .unset] [(.ref b1)])) st1 ?_
  have ne_a_b1 : a ≠ b1 := Nat.ne_of_lt (Nat.lt_of_lt_of_le E_a.lt (Nat.le_of_eq g1.symm))
  have ne_d_b1 : d ≠ b1 := Nat.ne_of_lt (Nat.lt_of_lt_of_le E_d.lt (Nat.le_of_eq g1.symm))
  have ne_x1_b1 : x1 ≠ b1 := Nat.ne_of_lt (Nat.lt_of_lt_of_le E_x1.lt (Nat.le_of_eq g1.symm))
  have ne_x2_b1 : x2 ≠ b1 := Nat.ne_of_lt (Nat.lt_of_lt_of_le E_x2.lt (Nat.le_of_eq g1.symm))
  have ne_x3_b1 : x3 ≠ b1 := Nat.ne_of_lt (Nat.lt_of_lt_of_le E_x3.lt (Nat.le_of_eq g1.symm))
  have ge_b1 : Z.heap.size ≤ b1 := Nat.le_trans O0.1 (Nat.le_of_eq g1.symm)
  replace E_a := E_a.ext E1
  replace F_ed_a := F_ed_a.ext E1
  replace F_sz_a := F_sz_a.ext E1
  replace E_d := E_d.ext E1
  replace V_d := V_d.ext E1
  replace E_x1 := E_x1.ext E1
  replace E_x2 := E_x2.ext E1
  replace E_x3 := E_x3.ext E1
  replace O0 : Ext Z.heap h1 := ext_trans O0 E1
  have F_name_b1 : Fld Z h1 b1 "com/example/gridtally/gridtally/determinant/Column" "name" "Ljava/lang/String;" .null := D1 (Or.inr (hw _ (List.mem_of_getElem? (i := 201) rfl))) (ty := (.object "java/lang/String")) (by decide)
  have F_kind_b1 : Fld Z h1 b1 "com/example/gridtally/gridtally/determinant/Column" "kind" "Lcom/example/gridtally/gridtally/determinant/Column$Kind;" .null := D1 (Or.inr (hw _ (List.mem_of_getElem? (i := 203) rfl))) (ty := (.object "com/example/gridtally/gridtally/determinant/Column$Kind")) (by decide)
  have F_values_b1 : Fld Z h1 b1 "com/example/gridtally/gridtally/determinant/Column" "values" "Ljava/util/List;" .null := D1 (Or.inr (hw _ (List.mem_of_getElem? (i := 205) rfl))) (ty := (.object "java/util/List")) (by decide)
  refine OEnds.st (S' := T1.setTop (mkF m 210 #[.val (.int p0), .val (.int p1), .val (.int p2), .val (.int sel), .val (.ref kd), .val (.int e5), .val (.ref arr), .val (.ref nme), .val (.ref a), .val (.int cnt), .unset] [(.ref a), (.ref kd), (.ref nme), (.ref b1), (.ref b1)])) (fun _ k => ?_) ?_
  · show Steps p.tables e below (T1.setTop (mkF m 203 #[.val (.int p0), .val (.int p1), .val (.int p2), .val (.int sel), .val (.ref kd), .val (.int e5), .val (.ref arr), .val (.ref nme), .val (.ref a), .val (.int cnt), .unset] [(.ref b1)])) _
    refine XS.dup X1.here hx rfl (hb hby at_203) rfl rfl ?_
    show Steps p.tables e below (T1.setTop (mkF m 204 #[.val (.int p0), .val (.int p1), .val (.int p2), .val (.int sel), .val (.ref kd), .val (.int e5), .val (.ref arr), .val (.ref nme), .val (.ref a), .val (.int cnt), .unset] [(.ref b1), (.ref b1)])) _
    refine XS.aload X1.here hx rfl (hb hby at_204) rfl rfl ?_
    show Steps p.tables e below (T1.setTop (mkF m 206 #[.val (.int p0), .val (.int p1), .val (.int p2), .val (.int sel), .val (.ref kd), .val (.int e5), .val (.ref arr), .val (.ref nme), .val (.ref a), .val (.int cnt), .unset] [(.ref nme), (.ref b1), (.ref b1)])) _
    refine XS.aload X1.here hx rfl (hb hby at_206) rfl rfl ?_
    show Steps p.tables e below (T1.setTop (mkF m 208 #[.val (.int p0), .val (.int p1), .val (.int p2), .val (.int sel), .val (.ref kd), .val (.int e5), .val (.ref arr), .val (.ref nme), .val (.ref a), .val (.int cnt), .unset] [(.ref kd), (.ref nme), (.ref b1), (.ref b1)])) _
    refine XS.aload X1.here hx rfl (hb hby at_208) rfl rfl ?_
    exact k
  obtain ⟨_, T2, h2, L2, X2, e2, hQ2, st2⟩ := specC X1 hx hZ rfl hown (hw _ (List.mem_of_getElem? (i := 106) rfl)) (hw _ (List.mem_of_getElem? (i := 107) rfl)) (hw _ (List.mem_of_getElem? (i := 108) rfl)) (by decide) (kc := 3) (ks := 8) (Con.sb (W := 1) (rm_colInit3 l hD b1 nme kd a d k x1 x2 x3 O0 A1 F_name_b1 F_kind_b1 F_values_b1 ge_b1 E_a F_ed_a F_sz_a E_d V_d E_x1 E_x2 E_x3) hZ (hw _ (List.mem_of_getElem? (i := 108) rfl)) (hw _ (List.mem_of_getElem? (i := 105) rfl)) (by decide) (by decide)) e1 (a := b1) (g := (mkF m 210 #[.val (.int p0), .val (.int p1), .val (.int p2), .val (.int sel), .val (.ref kd), .val (.int e5), .val (.ref arr), .val (.ref nme), .val (.ref a), .val (.int cnt), .unset] [(.ref a), (.ref kd), (.ref nme), (.ref b1), (.ref b1)])) rfl (by rw [hml]; rfl) (argsL := [(.ref nme), (.ref kd), (.ref a)]) (rest := [(.ref b1)]) (lenOf pd_18 rfl) rfl (by show 2 * 0 + _ ≤ _; exact Nat.le_of_eq rfl) (hb hby at_210) (by decide) (by decide)
  obtain ⟨rfl, Nq2, Kq2, Eo2, Fk2⟩ := hQ2
  refine OEnds.st (S' := T2.setTop (mkF m 213 #[.val (.int p0), .val (.int p1), .val (.int p2), .val (.int sel), .val (.ref kd), .val (.int e5), .val (.ref arr), .val (.ref nme), .val (.ref a), .val (.int cnt), .unset] [(.ref b1)])) st2 ?_
  replace N0 := Fr.app N0 Nq2
  replace E_a := E_a.keep Kq2
  replace F_ed_a := F_ed_a.keep Kq2 (ninS ne_a_b1 nin0)
  replace F_sz_a := F_sz_a.keep Kq2 (ninS ne_a_b1 nin0)
  replace E_d := E_d.keep Kq2
  replace V_d := V_d.keep Kq2 (ninS ne_d_b1 nin0)
  replace E_x1 := E_x1.keep Kq2
  replace E_x2 := E_x2.keep Kq2
  replace E_x3 := E_x3.keep Kq2
  replace A1 := A1.keep Kq2
  replace O0 : Ext Z.heap h2 := ext_keep O0 Kq2 (allS ge_b1 all0)
  refine OEnds.st (S' := T2.setTop (mkF m 217 #[.val (.int p0), .val (.int p1), .val (.int p2), .val (.int sel), .val (.ref kd), .val (.int e5), .val (.ref arr), .val (.ref nme), .val (.ref a), .val (.int cnt), .val (.ref b1)] [(.ref b1)])) (fun _ k => ?_) ?_
  · show Steps p.tables e below (T2.setTop (mkF m 213 #[.val (.int p0), .val (.int p1), .val (.int p2), .val (.int sel), .val (.ref kd), .val (.int e5), .val (.ref arr), .val (.ref nme), .val (.ref a), .val (.int cnt), .unset] [(.ref b1)])) _
    refine XS.astore X2.here hx rfl (hb hby at_213) rfl rfl (l' := #[.val (.int p0), .val (.int p1), .val (.int p2), .val (.int sel), .val (.ref kd), .val (.int e5), .val (.ref arr), .val (.ref nme), .val (.ref a), .val (.int cnt), .val (.ref b1)]) rfl ?_
    show Steps p.tables e below (T2.setTop (mkF m 215 #[.val (.int p0), .val (.int p1), .val (.int p2), .val (.int sel), .val (.ref kd), .val (.int e5), .val (.ref arr), .val (.ref nme), .val (.ref a), .val (.int cnt), .val (.ref b1)] [])) _
    refine XS.aload X2.here hx rfl (hb hby at_215) rfl rfl ?_
    exact k
  obtain ⟨_, T3, h3, L3, X3, e3, hQ3, st3⟩ := virtC X2 hx hZ (y := (⟨"com/example/gridtally/gridtally/determinant/Column", "required", "()Z"⟩ : MethodName)) (z := (⟨"com/example/gridtally/gridtally/determinant/Column", "required", "()Z"⟩ : MethodName)) hown (hw _ (List.mem_of_getElem? (i := 206) rfl)) (hw _ (List.mem_of_getElem? (i := 207) rfl)) (nf_sel (args := #[]) (mvT hZ (hw _ (List.mem_of_getElem? (i := 209) rfl))) rfl) (hw _ (List.mem_of_getElem? (i := 209) rfl)) (hw _ (List.mem_of_getElem? (i := 208) rfl)) (by decide) (kc := 0) (ks := 0) (Con.sb (W := 0) (rm_required l hD b1 kd ko O0 Fk2 S_ko) hZ (hw _ (List.mem_of_getElem? (i := 210) rfl)) (hw _ (List.mem_of_getElem? (i := 105) rfl)) (by decide) (by decide)) e2 A1 (g := (mkF m 217 #[.val (.int p0), .val (.int p1), .val (.int p2), .val (.int sel), .val (.ref kd), .val (.int e5), .val (.ref arr), .val (.ref nme), .val (.ref a), .val (.int cnt), .val (.ref b1)] [(.ref b1)])) rfl (by rw [hml]; rfl) (argsL := []) (rest := []) (lenOf pd_10 rfl) rfl (by show 2 * 0 + _ ≤ _; exact Nat.le_of_eq rfl) (hb hby at_217) (by decide) (by decide)
  obtain ⟨z3, rfl, hz3, Nq3, Hq3⟩ := hQ3
  refine OEnds.st (S' := T3.setTop (mkF m 220 #[.val (.int p0), .val (.int p1), .val (.int p2), .val (.int sel), .val (.ref kd), .val (.int e5), .val (.ref arr), .val (.ref nme), .val (.ref a), .val (.int cnt), .val (.ref b1)] [(.int z3)])) st3 ?_
  replace N0 := Fr.app N0 Nq3
  replace e3 := e3.trans Hq3
  have hze : z3 = e5 := by rcases hz3 with ⟨q1, q2⟩ | ⟨q1, q2⟩ <;> rcases hexp with ⟨r1, r2⟩ | ⟨r1, r2⟩ <;> first | exact q1.trans r1.symm | exact absurd r2 q2 | exact absurd q2 r2
  refine OEnds.st (S' := T3.setTop (mkF m 230 #[.val (.int p0), .val (.int p1), .val (.int p2), .val (.int sel), .val (.ref kd), .val (.int e5), .val (.ref arr), .val (.ref nme), .val (.ref a), .val (.int cnt), .val (.ref b1)] [(.int (1 : Int32))])) (fun _ k => ?_) ?_
  · show Steps p.tables e below (T3.setTop (mkF m 220 #[.val (.int p0), .val (.int p1), .val (.int p2), .val (.int sel), .val (.ref kd), .val (.int e5), .val (.ref arr), .val (.ref nme), .val (.ref a), .val (.int cnt), .val (.ref b1)] [(.int z3)])) _
    refine XS.iload X3.here hx rfl (hb hby at_220) rfl ?_
    show Steps p.tables e below (T3.setTop (mkF m 222 #[.val (.int p0), .val (.int p1), .val (.int p2), .val (.int sel), .val (.ref kd), .val (.int e5), .val (.ref arr), .val (.ref nme), .val (.ref a), .val (.int cnt), .val (.ref b1)] [(.int e5), (.int z3)])) _
    refine XS.icmpNo X3.here hx rfl (hb hby at_222) rfl (teq hze).2 ?_
    show Steps p.tables e below (T3.setTop (mkF m 225 #[.val (.int p0), .val (.int p1), .val (.int p2), .val (.int sel), .val (.ref kd), .val (.int e5), .val (.ref arr), .val (.ref nme), .val (.ref a), .val (.int cnt), .val (.ref b1)] [])) _
    refine XS.iconst X3.here hx rfl (hb hby at_225) ?_
    show Steps p.tables e below (T3.setTop (mkF m 226 #[.val (.int p0), .val (.int p1), .val (.int p2), .val (.int sel), .val (.ref kd), .val (.int e5), .val (.ref arr), .val (.ref nme), .val (.ref a), .val (.int cnt), .val (.ref b1)] [(.int (1 : Int32))])) _
    refine XS.goto X3.here hx rfl (pc0 := 226) (pc' := 230) rfl (hb hby at_226) (by decide) (by decide) ?_
    exact k
  exact OEnds.ret X3 hx hret hlk (by decide) (Or.inl ⟨rfl, by simp, _, rfl⟩) (hb hby at_230) (by decide) (by decide) (by rw [e3]; exact ⟨rfl, N0⟩)
theorem pd_19 : parseMethodDescriptor "([C)V" = some ⟨[(.array .char)], none⟩ := by decide +kernel
theorem pd_20 : parseMethodDescriptor "(C)Ljava/lang/String;" = some ⟨[.char], some (.object "java/lang/String")⟩ := by decide +kernel
theorem pd_21 : parseMethodDescriptor "(Ljava/lang/Object;)Z" = some ⟨[(.object "java/lang/Object")], some .boolean⟩ := by decide +kernel
set_option maxRecDepth 65536 in
set_option maxHeartbeats 40000000 in
theorem sg_78 {p : Program} {l : Launch} {e : Env} {s : State} {m : MethodId} {args : Array Value} {below : List Frame} {meth : Method} {c : Code} {T0 : State} {locs : List Loc} {Z : State} {a0 : Array Value} (hD : Wd Z a0) (p0 p1 p2 sel e5 : Int32) (kd ko : Addr) {h0 : Heap} (O0 : Ext Z.heap h0)
    (X0 : Stand p l e room_1 s m args below meth c T0 locs 0 0) (hx : p.tables.exec = Jvm.exec) (hZ : Z.Warmed39 s.vm) (hby : c.code = code) (hml : c.maxLocals = 11) (hown : s.vm.findClass "com/example/gridtally/gridtally/determinant/ColumnRequiredPinLaw" = some m.cls) (hnm : meth.name = "law") (hret : meth.sig.returnType = some .boolean) (hlk : meth.locks = false) (e0 : T0.heap = h0) (N0 : Fr Z.heap.size locs) (S_ko : Sta Z Z.heap "com/example/gridtally/gridtally/determinant/Column$Kind" "OPTIONAL_DECIMAL" "Lcom/example/gridtally/gridtally/determinant/Column$Kind;" (.ref ko)) (hexp : (e5 = 1 ∧ ¬ kd = ko) ∨ (e5 = 0 ∧ kd = ko)) :
    OEnds p e below s room_1.cells room_1.slots (Q_law Z) (T0.setTop (mkF m 78 #[.val (.int p0), .val (.int p1), .val (.int p2), .val (.int sel), .val (.ref kd), .val (.int e5), .unset, .unset, .unset, .unset, .unset] [])) := by
  obtain ⟨hw, ⟨cz, S_CS, hcz⟩, ⟨xde, xkde, S_DE, V_DE⟩, ⟨aEM, S_EM⟩, ⟨aEL, S_EL⟩, ⟨cO, kO, mrO, mir1, mir2, mir3⟩, ⟨k0, k1, k2, k3, k4, S_K0, S_K1, S_K2, S_K3, S_K4, kn0, kn2, kn3, kn4⟩⟩ := id hD
  have hws : ∀ d ∈ StrChars.Road.words, d.before a0 Z = true := fun d hd => hw d (words_new d hd)
  refine OEnds.st (S' := T0.setTop (mkF m 79 #[.val (.int p0), .val (.int p1), .val (.int p2), .val (.int sel), .val (.ref kd), .val (.int e5), .unset, .unset, .unset, .unset, .unset] [(.int (2 : Int32))])) (fun _ k => ?_) ?_
  · show Steps p.tables e below (T0.setTop (mkF m 78 #[.val (.int p0), .val (.int p1), .val (.int p2), .val (.int sel), .val (.ref kd), .val (.int e5), .unset, .unset, .unset, .unset, .unset] [])) _
    refine XS.iconst X0.here hx rfl (hb hby at_78) ?_
    exact k
  obtain ⟨T1, h1, k1, X1, e1, E1, A1, st1⟩ := newP X0 hx hZ (hw _ (List.mem_of_getElem? (i := 4) rfl)) e0 (g := (mkF m 79 #[.val (.int p0), .val (.int p1), .val (.int p2), .val (.int sel), .val (.ref kd), .val (.int e5), .unset, .unset, .unset, .unset, .unset] [(.int (2 : Int32))])) rfl (hb hby at_79) rfl (by decide) (cap := 2) (by decide) (by decide) (by decide) (by decide)
  obtain ⟨b1, g1⟩ : ∃ z, z = h0.size := ⟨_, rfl⟩
  rw [← g1] at A1 st1
  refine OEnds.st (S' := T1.setTop (mkF m 81 #[.val (.int p0), .val (.int p1), .val (.int p2), .val (.int sel), .val (.ref kd), .val (.int e5), .unset, .unset, .unset, .unset, .unset] [(.ref b1)])) st1 ?_
  have ge_b1 : Z.heap.size ≤ b1 := Nat.le_trans O0.1 (Nat.le_of_eq g1.symm)
  replace O0 : Ext Z.heap h1 := ext_trans O0 E1
  have V_b1 : Arv Z h1 b1 k1 .char (2 : Int32) [(.int (0 : Int32)), (.int (0 : Int32))] (.int (0 : Int32)) := (Arv.new A1 (by decide)).pad (pad_rep [] (.int (0 : Int32)) 2)
  refine OEnds.st (S' := T1.setTop (mkF m 89 #[.val (.int p0), .val (.int p1), .val (.int p2), .val (.int sel), .val (.ref kd), .val (.int e5), .unset, .unset, .unset, .unset, .unset] [(.int ((p1 &&& (255 : Int32)).toUInt32.toUInt16.toUInt32.toInt32)), (.int (0 : Int32)), (.ref b1), (.ref b1)])) (fun _ k => ?_) ?_
  · show Steps p.tables e below (T1.setTop (mkF m 81 #[.val (.int p0), .val (.int p1), .val (.int p2), .val (.int sel), .val (.ref kd), .val (.int e5), .unset, .unset, .unset, .unset, .unset] [(.ref b1)])) _
    refine XS.dup X1.here hx rfl (hb hby at_81) rfl rfl ?_
    show Steps p.tables e below (T1.setTop (mkF m 82 #[.val (.int p0), .val (.int p1), .val (.int p2), .val (.int sel), .val (.ref kd), .val (.int e5), .unset, .unset, .unset, .unset, .unset] [(.ref b1), (.ref b1)])) _
    refine XS.iconst X1.here hx rfl (hb hby at_82) ?_
    show Steps p.tables e below (T1.setTop (mkF m 83 #[.val (.int p0), .val (.int p1), .val (.int p2), .val (.int sel), .val (.ref kd), .val (.int e5), .unset, .unset, .unset, .unset, .unset] [(.int (0 : Int32)), (.ref b1), (.ref b1)])) _
    refine XS.iloadN X1.here hx rfl (hb hby at_83) rfl ?_
    show Steps p.tables e below (T1.setTop (mkF m 84 #[.val (.int p0), .val (.int p1), .val (.int p2), .val (.int sel), .val (.ref kd), .val (.int e5), .unset, .unset, .unset, .unset, .unset] [(.int p1), (.int (0 : Int32)), (.ref b1), (.ref b1)])) _
    refine XS.sipush X1.here hx rfl (hb hby at_84) ?_
    show Steps p.tables e below (T1.setTop (mkF m 87 #[.val (.int p0), .val (.int p1), .val (.int p2), .val (.int sel), .val (.ref kd), .val (.int e5), .unset, .unset, .unset, .unset, .unset] [(.int (255 : Int32)), (.int p1), (.int (0 : Int32)), (.ref b1), (.ref b1)])) _
    refine XS.iand X1.here hx rfl (hb hby at_87) rfl ?_
    show Steps p.tables e below (T1.setTop (mkF m 88 #[.val (.int p0), .val (.int p1), .val (.int p2), .val (.int sel), .val (.ref kd), .val (.int e5), .unset, .unset, .unset, .unset, .unset] [(.int (p1 &&& (255 : Int32))), (.int (0 : Int32)), (.ref b1), (.ref b1)])) _
    refine XS.i2c X1.here hx rfl (hb hby at_88) rfl ?_
    exact k
  generalize hg_c0 : ((p1 &&& (255 : Int32)).toUInt32.toUInt16.toUInt32.toInt32) = c0
  have hc0 : ¬ c0 < 0 ∧ ¬ (255 : Int32) < c0 := hg_c0 ▸ i2c255
  obtain ⟨cl_b1_2, Ar_b1_2, q_b1_2, S_b1_2, N_b1_2, H_b1_2, G_b1_2⟩ := V_b1
  obtain ⟨T2, h2, X2, e2, W2, st2⟩ := stC X1 hx hZ e1 Ar_b1_2 (j := (0 : Int32)) (inb_of S_b1_2 ⟨by decide, by decide⟩) (g := (mkF m 89 #[.val (.int p0), .val (.int p1), .val (.int p2), .val (.int sel), .val (.ref kd), .val (.int e5), .unset, .unset, .unset, .unset, .unset] [(.int c0), (.int (0 : Int32)), (.ref b1), (.ref b1)])) rfl rfl (hb hby at_89)
  have V_b1_2 : Arv Z h2 b1 k1 .char (2 : Int32) [(.int (nar .char c0)), (.int (0 : Int32))] (.int (0 : Int32)) := Arv.set Ar_b1_2 q_b1_2 S_b1_2 N_b1_2 H_b1_2 G_b1_2 (fits_nar_char _) W2 0 rfl (Nat.le_of_ble_eq_true rfl)
  refine OEnds.st (S' := T2.setTop (mkF m 90 #[.val (.int p0), .val (.int p1), .val (.int p2), .val (.int sel), .val (.ref kd), .val (.int e5), .unset, .unset, .unset, .unset, .unset] [(.ref b1)])) st2 ?_
  replace O0 : Ext Z.heap h2 := ext_wr O0 W2 ge_b1
  replace N0 := Fr.snoc X2 N0 ge_b1
  refine OEnds.st (S' := T2.setTop (mkF m 101 #[.val (.int p0), .val (.int p1), .val (.int p2), .val (.int sel), .val (.ref kd), .val (.int e5), .unset, .unset, .unset, .unset, .unset] [(.int ((((p1.toUInt32 >>> ((8 : Int32) &&& 31).toUInt32).toInt32) &&& (255 : Int32)).toUInt32.toUInt16.toUInt32.toInt32)), (.int (1 : Int32)), (.ref b1), (.ref b1)])) (fun _ k => ?_) ?_
  · show Steps p.tables e below (T2.setTop (mkF m 90 #[.val (.int p0), .val (.int p1), .val (.int p2), .val (.int sel), .val (.ref kd), .val (.int e5), .unset, .unset, .unset, .unset, .unset] [(.ref b1)])) _
    refine XS.dup X2.here hx rfl (hb hby at_90) rfl rfl ?_
    show Steps p.tables e below (T2.setTop (mkF m 91 #[.val (.int p0), .val (.int p1), .val (.int p2), .val (.int sel), .val (.ref kd), .val (.int e5), .unset, .unset, .unset, .unset, .unset] [(.ref b1), (.ref b1)])) _
    refine XS.iconst X2.here hx rfl (hb hby at_91) ?_
    show Steps p.tables e below (T2.setTop (mkF m 92 #[.val (.int p0), .val (.int p1), .val (.int p2), .val (.int sel), .val (.ref kd), .val (.int e5), .unset, .unset, .unset, .unset, .unset] [(.int (1 : Int32)), (.ref b1), (.ref b1)])) _
    refine XS.iloadN X2.here hx rfl (hb hby at_92) rfl ?_
    show Steps p.tables e below (T2.setTop (mkF m 93 #[.val (.int p0), .val (.int p1), .val (.int p2), .val (.int sel), .val (.ref kd), .val (.int e5), .unset, .unset, .unset, .unset, .unset] [(.int p1), (.int (1 : Int32)), (.ref b1), (.ref b1)])) _
    refine XS.bipush X2.here hx rfl (hb hby at_93) ?_
    show Steps p.tables e below (T2.setTop (mkF m 95 #[.val (.int p0), .val (.int p1), .val (.int p2), .val (.int sel), .val (.ref kd), .val (.int e5), .unset, .unset, .unset, .unset, .unset] [(.int (8 : Int32)), (.int p1), (.int (1 : Int32)), (.ref b1), (.ref b1)])) _
    refine XS.iushr X2.here hx rfl (hb hby at_95) rfl ?_
    show Steps p.tables e below (T2.setTop (mkF m 96 #[.val (.int p0), .val (.int p1), .val (.int p2), .val (.int sel), .val (.ref kd), .val (.int e5), .unset, .unset, .unset, .unset, .unset] [(.int ((p1.toUInt32 >>> ((8 : Int32) &&& 31).toUInt32).toInt32)), (.int (1 : Int32)), (.ref b1), (.ref b1)])) _
    refine XS.sipush X2.here hx rfl (hb hby at_96) ?_
    show Steps p.tables e below (T2.setTop (mkF m 99 #[.val (.int p0), .val (.int p1), .val (.int p2), .val (.int sel), .val (.ref kd), .val (.int e5), .unset, .unset, .unset, .unset, .unset] [(.int (255 : Int32)), (.int ((p1.toUInt32 >>> ((8 : Int32) &&& 31).toUInt32).toInt32)), (.int (1 : Int32)), (.ref b1), (.ref b1)])) _
    refine XS.iand X2.here hx rfl (hb hby at_99) rfl ?_
    show Steps p.tables e below (T2.setTop (mkF m 100 #[.val (.int p0), .val (.int p1), .val (.int p2), .val (.int sel), .val (.ref kd), .val (.int e5), .unset, .unset, .unset, .unset, .unset] [(.int (((p1.toUInt32 >>> ((8 : Int32) &&& 31).toUInt32).toInt32) &&& (255 : Int32))), (.int (1 : Int32)), (.ref b1), (.ref b1)])) _
    refine XS.i2c X2.here hx rfl (hb hby at_100) rfl ?_
    exact k
  generalize hg_c1 : ((((p1.toUInt32 >>> ((8 : Int32) &&& 31).toUInt32).toInt32) &&& (255 : Int32)).toUInt32.toUInt16.toUInt32.toInt32) = c1
  have hc1 : ¬ c1 < 0 ∧ ¬ (255 : Int32) < c1 := hg_c1 ▸ i2c255
  obtain ⟨cl_b1_3, Ar_b1_3, q_b1_3, S_b1_3, N_b1_3, H_b1_3, G_b1_3⟩ := V_b1_2
  obtain ⟨T3, h3, X3, e3, W3, st3⟩ := stC X2 hx hZ e2 Ar_b1_3 (j := (1 : Int32)) (inb_of S_b1_3 ⟨by decide, by decide⟩) (g := (mkF m 101 #[.val (.int p0), .val (.int p1), .val (.int p2), .val (.int sel), .val (.ref kd), .val (.int e5), .unset, .unset, .unset, .unset, .unset] [(.int c1), (.int (1 : Int32)), (.ref b1), (.ref b1)])) rfl rfl (hb hby at_101)
  have V_b1_3 : Arv Z h3 b1 k1 .char (2 : Int32) [(.int (nar .char c0)), (.int (nar .char c1))] (.int (0 : Int32)) := Arv.set Ar_b1_3 q_b1_3 S_b1_3 N_b1_3 H_b1_3 G_b1_3 (fits_nar_char _) W3 1 rfl (Nat.le_of_ble_eq_true rfl)
  refine OEnds.st (S' := T3.setTop (mkF m 102 #[.val (.int p0), .val (.int p1), .val (.int p2), .val (.int sel), .val (.ref kd), .val (.int e5), .unset, .unset, .unset, .unset, .unset] [(.ref b1)])) st3 ?_
  replace O0 : Ext Z.heap h3 := ext_wr O0 W3 ge_b1
  replace N0 := Fr.snoc X3 N0 ge_b1
  refine OEnds.st (S' := T3.setTop (mkF m 104 #[.val (.int p0), .val (.int p1), .val (.int p2), .val (.int sel), .val (.ref kd), .val (.int e5), .val (.ref b1), .unset, .unset, .unset, .unset] [])) (fun _ k => ?_) ?_
  · show Steps p.tables e below (T3.setTop (mkF m 102 #[.val (.int p0), .val (.int p1), .val (.int p2), .val (.int sel), .val (.ref kd), .val (.int e5), .unset, .unset, .unset, .unset, .unset] [(.ref b1)])) _
    refine XS.astore X3.here hx rfl (hb hby at_102) rfl rfl (l' := #[.val (.int p0), .val (.int p1), .val (.int p2), .val (.int sel), .val (.ref kd), .val (.int e5), .val (.ref b1), .unset, .unset, .unset, .unset]) rfl ?_
    exact k
  obtain ⟨T4, h4, X4, e4, E4, A4, D4, U4, st4⟩ := newO X3 hx hZ hown (hw _ (List.mem_of_getElem? (i := 5) rfl)) (hw _ (List.mem_of_getElem? (i := 6) rfl)) (hw _ (List.mem_of_getElem? (i := 7) rfl)) e3 (g := (mkF m 104 #[.val (.int p0), .val (.int p1), .val (.int p2), .val (.int sel), .val (.ref kd), .val (.int e5), .val (.ref b1), .unset, .unset, .unset, .unset] [])) rfl (hb hby at_104) (by decide) (by decide)
  obtain ⟨b4, g4⟩ : ∃ z, z = h3.size := ⟨_, rfl⟩
  rw [← g4] at A4 D4 U4 st4
  refine OEnds.st (S' := T4.setTop (mkF m 107 #[.val (.int p0), .val (.int p1), .val (.int p2), .val (.int sel), .val (.ref kd), .val (.int e5), .val (.ref b1), .unset, .unset, .unset, .unset] [(.ref b4)])) st4 ?_
  have ne_b1_b4 : b1 ≠ b4 := Nat.ne_of_lt (Nat.lt_of_lt_of_le V_b1_3.lt (Nat.le_of_eq g4.symm))
  have ge_b4 : Z.heap.size ≤ b4 := Nat.le_trans O0.1 (Nat.le_of_eq g4.symm)
  replace V_b1_3 := V_b1_3.ext E4
  replace O0 : Ext Z.heap h4 := ext_trans O0 E4
  have F_coder_b4 : Fld Z h4 b4 "java/lang/String" "coder" "B" (.int (0 : Int32)) := D4 (Or.inr (hw _ (List.mem_of_getElem? (i := 31) rfl))) (ty := .byte) (by decide)
  have F_value_b4 : Fld Z h4 b4 "java/lang/String" "value" "[B" .null := D4 (Or.inr (hw _ (List.mem_of_getElem? (i := 33) rfl))) (ty := (.array .byte)) (by decide)
  refine OEnds.st (S' := T4.setTop (mkF m 110 #[.val (.int p0), .val (.int p1), .val (.int p2), .val (.int sel), .val (.ref kd), .val (.int e5), .val (.ref b1), .unset, .unset, .unset, .unset] [(.ref b1), (.ref b4), (.ref b4)])) (fun _ k => ?_) ?_
  · show Steps p.tables e below (T4.setTop (mkF m 107 #[.val (.int p0), .val (.int p1), .val (.int p2), .val (.int sel), .val (.ref kd), .val (.int e5), .val (.ref b1), .unset, .unset, .unset, .unset] [(.ref b4)])) _
    refine XS.dup X4.here hx rfl (hb hby at_107) rfl rfl ?_
    show Steps p.tables e below (T4.setTop (mkF m 108 #[.val (.int p0), .val (.int p1), .val (.int p2), .val (.int sel), .val (.ref kd), .val (.int e5), .val (.ref b1), .unset, .unset, .unset, .unset] [(.ref b4), (.ref b4)])) _
    refine XS.aload X4.here hx rfl (hb hby at_108) rfl rfl ?_
    exact k
  simp only [nar_char (x := c0) hc0, nar_char (x := c1) hc1] at V_b1_3
  have hp5 : ∀ c ∈ ([c0, c1] : List Int32), ¬ c < 0 ∧ ¬ (255 : Int32) < c := by
    intro c hc; simp only [List.mem_cons, List.not_mem_nil, or_false] at hc
    rcases hc with rfl | rfl
    · exact hc0
    · exact hc1
  obtain ⟨_, T6, h6, L6, X6, e6, hQ6, st6⟩ := specC X4 hx hZ rfl hown (hw _ (List.mem_of_getElem? (i := 8) rfl)) (hw _ (List.mem_of_getElem? (i := 9) rfl)) (hw _ (List.mem_of_getElem? (i := 10) rfl)) (by decide) (kc := 1) (ks := 2) (SB.of (Q := StrChars.Road.QV Z b4 (2 : Int32) (([c0, c1] : List Int32).map (fun c => c.toInt8.toInt32)) h4 Z.heap.size) (StrChars.Road.backV (W := 1) hZ hws (kI := 4) (hw _ (List.mem_of_getElem? (i := 6) rfl)) (cs := ([c0, c1] : List Int32)) (bs := (([c0, c1] : List Int32).map (fun c => c.toInt8.toInt32))) (n := 2) ge_b4 O0.1 A4 F_value_b4 F_coder_b4 V_b1_3 (S_CS.ext O0) hcz rfl rfl (by decide) (by decide) hp5 rfl (by decide) (by decide))) e4 (a := b4) (g := (mkF m 110 #[.val (.int p0), .val (.int p1), .val (.int p2), .val (.int sel), .val (.ref kd), .val (.int e5), .val (.ref b1), .unset, .unset, .unset, .unset] [(.ref b1), (.ref b4), (.ref b4)])) rfl (by rw [hml]; rfl) (argsL := [(.ref b1)]) (rest := [(.ref b4)]) (lenOf pd_19 rfl) rfl (by show 2 * 0 + _ ≤ _; exact Nat.le_of_eq rfl) (hb hby at_110) (by decide) (by decide)
  obtain ⟨rfl, Nq6, Kq6, Eq6, Fc6, t6, kb6, gq6, szq6, nq6, Fv6, V6⟩ := hQ6
  refine OEnds.st (S' := T6.setTop (mkF m 113 #[.val (.int p0), .val (.int p1), .val (.int p2), .val (.int sel), .val (.ref kd), .val (.int e5), .val (.ref b1), .unset, .unset, .unset, .unset] [(.ref b4)])) st6 ?_
  replace N0 := Fr.app N0 Nq6
  have ne_b1_t6 : b1 ≠ t6 := Nat.ne_of_lt (Nat.lt_of_lt_of_le V_b1_3.lt szq6)
  have ne_b4_t6 : b4 ≠ t6 := Nat.ne_of_lt (Nat.lt_of_lt_of_le A4.lt szq6)
  have ge_t6 : Z.heap.size ≤ t6 := Nat.le_trans O0.1 szq6
  replace V_b1_3 := V_b1_3.keep Kq6 (ninS ne_b1_b4 nin0)
  replace A4 := A4.keep Kq6
  replace O0 : Ext Z.heap h6 := ext_keep O0 Kq6 (allS ge_b4 all0)
  replace V6 : Arv Z h6 t6 kb6 .byte (Int32.ofNat 2) [(.int (c0).toInt8.toInt32), (.int (c1).toInt8.toInt32)] (.int 0) := V6
  clear V_b1_3
  clear A4
  clear Fc6
  clear Fv6
  clear V6
  refine OEnds.st (S' := T6.setTop (mkF m 115 #[.val (.int p0), .val (.int p1), .val (.int p2), .val (.int sel), .val (.ref kd), .val (.int e5), .val (.ref b1), .val (.ref b4), .unset, .unset, .unset] [])) (fun _ k => ?_) ?_
  · show Steps p.tables e below (T6.setTop (mkF m 113 #[.val (.int p0), .val (.int p1), .val (.int p2), .val (.int sel), .val (.ref kd), .val (.int e5), .val (.ref b1), .unset, .unset, .unset, .unset] [(.ref b4)])) _
    refine XS.astore X6.here hx rfl (hb hby at_113) rfl rfl (l' := #[.val (.int p0), .val (.int p1), .val (.int p2), .val (.int sel), .val (.ref kd), .val (.int e5), .val (.ref b1), .val (.ref b4), .unset, .unset, .unset]) rfl ?_
    exact k
  obtain ⟨T7, h7, X7, e7, E7, A7, D7, U7, st7⟩ := newO X6 hx hZ hown (hw _ (List.mem_of_getElem? (i := 34) rfl)) (hw _ (List.mem_of_getElem? (i := 35) rfl)) (hw _ (List.mem_of_getElem? (i := 36) rfl)) e6 (g := (mkF m 115 #[.val (.int p0), .val (.int p1), .val (.int p2), .val (.int sel), .val (.ref kd), .val (.int e5), .val (.ref b1), .val (.ref b4), .unset, .unset, .unset] [])) rfl (hb hby at_115) (by decide) (by decide)
  obtain ⟨b7, g7⟩ : ∃ z, z = h6.size := ⟨_, rfl⟩
  rw [← g7] at A7 D7 U7 st7
  refine OEnds.st (S' := T7.setTop (mkF m 118 #[.val (.int p0), .val (.int p1), .val (.int p2), .val (.int sel), .val (.ref kd), .val (.int e5), .val (.ref b1), .val (.ref b4), .unset, .unset, .unset] [(.ref b7)])) st7 ?_
  have ge_b7 : Z.heap.size ≤ b7 := Nat.le_trans O0.1 (Nat.le_of_eq g7.symm)
  replace O0 : Ext Z.heap h7 := ext_trans O0 E7
  have F_modCount_b7 : Fld Z h7 b7 "java/util/AbstractList" "modCount" "I" (.int (0 : Int32)) := D7 (Or.inl (hw _ (List.mem_of_getElem? (i := 54) rfl))) (ty := .int) (by decide)
  have F_elementData_b7 : Fld Z h7 b7 "java/util/ArrayList" "elementData" "[Ljava/lang/Object;" .null := D7 (Or.inl (hw _ (List.mem_of_getElem? (i := 57) rfl))) (ty := (.array (.object "java/lang/Object"))) (by decide)
  have F_size_b7 : Fld Z h7 b7 "java/util/ArrayList" "size" "I" (.int (0 : Int32)) := D7 (Or.inl (hw _ (List.mem_of_getElem? (i := 80) rfl))) (ty := .int) (by decide)
  refine OEnds.st (S' := T7.setTop (mkF m 119 #[.val (.int p0), .val (.int p1), .val (.int p2), .val (.int sel), .val (.ref kd), .val (.int e5), .val (.ref b1), .val (.ref b4), .unset, .unset, .unset] [(.ref b7), (.ref b7)])) (fun _ k => ?_) ?_
  · show Steps p.tables e below (T7.setTop (mkF m 118 #[.val (.int p0), .val (.int p1), .val (.int p2), .val (.int sel), .val (.ref kd), .val (.int e5), .val (.ref b1), .val (.ref b4), .unset, .unset, .unset] [(.ref b7)])) _
    refine XS.dup X7.here hx rfl (hb hby at_118) rfl rfl ?_
    exact k
  obtain ⟨_, T8, h8, L8, X8, e8, hQ8, st8⟩ := specC X7 hx hZ rfl hown (hw _ (List.mem_of_getElem? (i := 37) rfl)) (hw _ (List.mem_of_getElem? (i := 38) rfl)) (hw _ (List.mem_of_getElem? (i := 39) rfl)) (by decide) (kc := 0) (ks := 0) (Con.sb (W := 1) (rm_alInit l hD b7 xde O0 A7 F_elementData_b7 F_size_b7 F_modCount_b7 ge_b7 S_DE) hZ (hw _ (List.mem_of_getElem? (i := 39) rfl)) (hw _ (List.mem_of_getElem? (i := 36) rfl)) (by decide) (by decide)) e7 (a := b7) (g := (mkF m 119 #[.val (.int p0), .val (.int p1), .val (.int p2), .val (.int sel), .val (.ref kd), .val (.int e5), .val (.ref b1), .val (.ref b4), .unset, .unset, .unset] [(.ref b7), (.ref b7)])) rfl (by rw [hml]; rfl) (argsL := []) (rest := [(.ref b7)]) (lenOf pd_3 rfl) rfl (by show 2 * 0 + _ ≤ _; exact Nat.le_of_eq rfl) (hb hby at_119) (by decide) (by decide)
  obtain ⟨rfl, Nq8, Kq8, Eq8, Fe8, Fs8, Fm8⟩ := hQ8
  refine OEnds.st (S' := T8.setTop (mkF m 122 #[.val (.int p0), .val (.int p1), .val (.int p2), .val (.int sel), .val (.ref kd), .val (.int e5), .val (.ref b1), .val (.ref b4), .unset, .unset, .unset] [(.ref b7)])) st8 ?_
  replace N0 := Fr.app N0 Nq8
  replace A7 := A7.keep Kq8
  replace O0 : Ext Z.heap h8 := ext_keep O0 Kq8 (allS ge_b7 all0)
  refine OEnds.st (S' := T8.setTop (mkF m 129 #[.val (.int p0), .val (.int p1), .val (.int p2), .val (.int sel), .val (.ref kd), .val (.int e5), .val (.ref b1), .val (.ref b4), .val (.ref b7), .val (.int (p2 &&& (3 : Int32))), .unset] [])) (fun _ k => ?_) ?_
  · show Steps p.tables e below (T8.setTop (mkF m 122 #[.val (.int p0), .val (.int p1), .val (.int p2), .val (.int sel), .val (.ref kd), .val (.int e5), .val (.ref b1), .val (.ref b4), .unset, .unset, .unset] [(.ref b7)])) _
    refine XS.astore X8.here hx rfl (hb hby at_122) rfl rfl (l' := #[.val (.int p0), .val (.int p1), .val (.int p2), .val (.int sel), .val (.ref kd), .val (.int e5), .val (.ref b1), .val (.ref b4), .val (.ref b7), .unset, .unset]) rfl ?_
    show Steps p.tables e below (T8.setTop (mkF m 124 #[.val (.int p0), .val (.int p1), .val (.int p2), .val (.int sel), .val (.ref kd), .val (.int e5), .val (.ref b1), .val (.ref b4), .val (.ref b7), .unset, .unset] [])) _
    refine XS.iloadN X8.here hx rfl (hb hby at_124) rfl ?_
    show Steps p.tables e below (T8.setTop (mkF m 125 #[.val (.int p0), .val (.int p1), .val (.int p2), .val (.int sel), .val (.ref kd), .val (.int e5), .val (.ref b1), .val (.ref b4), .val (.ref b7), .unset, .unset] [(.int p2)])) _
    refine XS.iconst X8.here hx rfl (hb hby at_125) ?_
    show Steps p.tables e below (T8.setTop (mkF m 126 #[.val (.int p0), .val (.int p1), .val (.int p2), .val (.int sel), .val (.ref kd), .val (.int e5), .val (.ref b1), .val (.ref b4), .val (.ref b7), .unset, .unset] [(.int (3 : Int32)), (.int p2)])) _
    refine XS.iand X8.here hx rfl (hb hby at_126) rfl ?_
    show Steps p.tables e below (T8.setTop (mkF m 127 #[.val (.int p0), .val (.int p1), .val (.int p2), .val (.int sel), .val (.ref kd), .val (.int e5), .val (.ref b1), .val (.ref b4), .val (.ref b7), .unset, .unset] [(.int (p2 &&& (3 : Int32)))])) _
    refine XS.istore X8.here hx rfl (hb hby at_127) rfl (l' := #[.val (.int p0), .val (.int p1), .val (.int p2), .val (.int sel), .val (.ref kd), .val (.int e5), .val (.ref b1), .val (.ref b4), .val (.ref b7), .val (.int (p2 &&& (3 : Int32))), .unset]) rfl ?_
    exact k
  generalize hg_cnt : (p2 &&& (3 : Int32)) = cnt
  refine OEnds.st (S' := T8.setTop (mkF m 132 #[.val (.int p0), .val (.int p1), .val (.int p2), .val (.int sel), .val (.ref kd), .val (.int e5), .val (.ref b1), .val (.ref b4), .val (.ref b7), .val (.int cnt), .unset] [(.int (1 : Int32)), (.int cnt)])) (fun _ k => ?_) ?_
  · show Steps p.tables e below (T8.setTop (mkF m 129 #[.val (.int p0), .val (.int p1), .val (.int p2), .val (.int sel), .val (.ref kd), .val (.int e5), .val (.ref b1), .val (.ref b4), .val (.ref b7), .val (.int cnt), .unset] [])) _
    refine XS.iload X8.here hx rfl (hb hby at_129) rfl ?_
    show Steps p.tables e below (T8.setTop (mkF m 131 #[.val (.int p0), .val (.int p1), .val (.int p2), .val (.int sel), .val (.ref kd), .val (.int e5), .val (.ref b1), .val (.ref b4), .val (.ref b7), .val (.int cnt), .unset] [(.int cnt)])) _
    refine XS.iconst X8.here hx rfl (hb hby at_131) ?_
    exact k
  rcases Classical.em (cnt < (1 : Int32)) with hn0 | hn0
  · refine OEnds.st (S' := T8.setTop (mkF m 200 #[.val (.int p0), .val (.int p1), .val (.int p2), .val (.int sel), .val (.ref kd), .val (.int e5), .val (.ref b1), .val (.ref b4), .val (.ref b7), .val (.int cnt), .unset] [])) (fun _ k => ?_) ?_
    · show Steps p.tables e below (T8.setTop (mkF m 132 #[.val (.int p0), .val (.int p1), .val (.int p2), .val (.int sel), .val (.ref kd), .val (.int e5), .val (.ref b1), .val (.ref b4), .val (.ref b7), .val (.int cnt), .unset] [(.int (1 : Int32)), (.int cnt)])) _
      refine XS.icmpYes X8.here hx rfl (pc0 := 132) (pc' := 152) rfl (hb hby at_132) rfl (tlt hn0).1 (by decide) (by decide) ?_
      show Steps p.tables e below (T8.setTop (mkF m 152 #[.val (.int p0), .val (.int p1), .val (.int p2), .val (.int sel), .val (.ref kd), .val (.int e5), .val (.ref b1), .val (.ref b4), .val (.ref b7), .val (.int cnt), .unset] [])) _
      refine XS.iload X8.here hx rfl (hb hby at_152) rfl ?_
      show Steps p.tables e below (T8.setTop (mkF m 154 #[.val (.int p0), .val (.int p1), .val (.int p2), .val (.int sel), .val (.ref kd), .val (.int e5), .val (.ref b1), .val (.ref b4), .val (.ref b7), .val (.int cnt), .unset] [(.int cnt)])) _
      refine XS.iconst X8.here hx rfl (hb hby at_154) ?_
      show Steps p.tables e below (T8.setTop (mkF m 155 #[.val (.int p0), .val (.int p1), .val (.int p2), .val (.int sel), .val (.ref kd), .val (.int e5), .val (.ref b1), .val (.ref b4), .val (.ref b7), .val (.int cnt), .unset] [(.int (2 : Int32)), (.int cnt)])) _
      refine XS.icmpYes X8.here hx rfl (pc0 := 155) (pc' := 176) rfl (hb hby at_155) rfl (tlt (Int32.lt_trans hn0 (by decide))).1 (by decide) (by decide) ?_
      show Steps p.tables e below (T8.setTop (mkF m 176 #[.val (.int p0), .val (.int p1), .val (.int p2), .val (.int sel), .val (.ref kd), .val (.int e5), .val (.ref b1), .val (.ref b4), .val (.ref b7), .val (.int cnt), .unset] [])) _
      refine XS.iload X8.here hx rfl (hb hby at_176) rfl ?_
      show Steps p.tables e below (T8.setTop (mkF m 178 #[.val (.int p0), .val (.int p1), .val (.int p2), .val (.int sel), .val (.ref kd), .val (.int e5), .val (.ref b1), .val (.ref b4), .val (.ref b7), .val (.int cnt), .unset] [(.int cnt)])) _
      refine XS.iconst X8.here hx rfl (hb hby at_178) ?_
      show Steps p.tables e below (T8.setTop (mkF m 179 #[.val (.int p0), .val (.int p1), .val (.int p2), .val (.int sel), .val (.ref kd), .val (.int e5), .val (.ref b1), .val (.ref b4), .val (.ref b7), .val (.int cnt), .unset] [(.int (3 : Int32)), (.int cnt)])) _
      refine XS.icmpYes X8.here hx rfl (pc0 := 179) (pc' := 200) rfl (hb hby at_179) rfl (tlt (Int32.lt_trans hn0 (by decide))).1 (by decide) (by decide) ?_
      exact k
    exact sg_200_0 hD p0 p1 p2 sel e5 kd ko b1 b4 b7 cnt xde xkde  O0 (X8.more (by decide) (by decide)) hx hZ hby hml hown hnm hret hlk e8 N0 A7 Fe8 Fs8 S_ko hexp
  · refine OEnds.st (S' := T8.setTop (mkF m 145 #[.val (.int p0), .val (.int p1), .val (.int p2), .val (.int sel), .val (.ref kd), .val (.int e5), .val (.ref b1), .val (.ref b4), .val (.ref b7), .val (.int cnt), .unset] [(.int ((((p2.toUInt32 >>> ((2 : Int32) &&& 31).toUInt32).toInt32) &&& (255 : Int32)).toUInt32.toUInt16.toUInt32.toInt32)), (.ref b7)])) (fun _ k => ?_) ?_
    · show Steps p.tables e below (T8.setTop (mkF m 132 #[.val (.int p0), .val (.int p1), .val (.int p2), .val (.int sel), .val (.ref kd), .val (.int e5), .val (.ref b1), .val (.ref b4), .val (.ref b7), .val (.int cnt), .unset] [(.int (1 : Int32)), (.int cnt)])) _
      refine XS.icmpNo X8.here hx rfl (hb hby at_132) rfl (flt hn0).1 ?_
      show Steps p.tables e below (T8.setTop (mkF m 135 #[.val (.int p0), .val (.int p1), .val (.int p2), .val (.int sel), .val (.ref kd), .val (.int e5), .val (.ref b1), .val (.ref b4), .val (.ref b7), .val (.int cnt), .unset] [])) _
      refine XS.aload X8.here hx rfl (hb hby at_135) rfl rfl ?_
      show Steps p.tables e below (T8.setTop (mkF m 137 #[.val (.int p0), .val (.int p1), .val (.int p2), .val (.int sel), .val (.ref kd), .val (.int e5), .val (.ref b1), .val (.ref b4), .val (.ref b7), .val (.int cnt), .unset] [(.ref b7)])) _
      refine XS.iloadN X8.here hx rfl (hb hby at_137) rfl ?_
      show Steps p.tables e below (T8.setTop (mkF m 138 #[.val (.int p0), .val (.int p1), .val (.int p2), .val (.int sel), .val (.ref kd), .val (.int e5), .val (.ref b1), .val (.ref b4), .val (.ref b7), .val (.int cnt), .unset] [(.int p2), (.ref b7)])) _
      refine XS.iconst X8.here hx rfl (hb hby at_138) ?_
      show Steps p.tables e below (T8.setTop (mkF m 139 #[.val (.int p0), .val (.int p1), .val (.int p2), .val (.int sel), .val (.ref kd), .val (.int e5), .val (.ref b1), .val (.ref b4), .val (.ref b7), .val (.int cnt), .unset] [(.int (2 : Int32)), (.int p2), (.ref b7)])) _
      refine XS.iushr X8.here hx rfl (hb hby at_139) rfl ?_
      show Steps p.tables e below (T8.setTop (mkF m 140 #[.val (.int p0), .val (.int p1), .val (.int p2), .val (.int sel), .val (.ref kd), .val (.int e5), .val (.ref b1), .val (.ref b4), .val (.ref b7), .val (.int cnt), .unset] [(.int ((p2.toUInt32 >>> ((2 : Int32) &&& 31).toUInt32).toInt32)), (.ref b7)])) _
      refine XS.sipush X8.here hx rfl (hb hby at_140) ?_
      show Steps p.tables e below (T8.setTop (mkF m 143 #[.val (.int p0), .val (.int p1), .val (.int p2), .val (.int sel), .val (.ref kd), .val (.int e5), .val (.ref b1), .val (.ref b4), .val (.ref b7), .val (.int cnt), .unset] [(.int (255 : Int32)), (.int ((p2.toUInt32 >>> ((2 : Int32) &&& 31).toUInt32).toInt32)), (.ref b7)])) _
      refine XS.iand X8.here hx rfl (hb hby at_143) rfl ?_
      show Steps p.tables e below (T8.setTop (mkF m 144 #[.val (.int p0), .val (.int p1), .val (.int p2), .val (.int sel), .val (.ref kd), .val (.int e5), .val (.ref b1), .val (.ref b4), .val (.ref b7), .val (.int cnt), .unset] [(.int (((p2.toUInt32 >>> ((2 : Int32) &&& 31).toUInt32).toInt32) &&& (255 : Int32))), (.ref b7)])) _
      refine XS.i2c X8.here hx rfl (hb hby at_144) rfl ?_
      exact k
    generalize hg_cc0 : ((((p2.toUInt32 >>> ((2 : Int32) &&& 31).toUInt32).toInt32) &&& (255 : Int32)).toUInt32.toUInt16.toUInt32.toInt32) = cc0
    have hcc0 : ¬ cc0 < 0 ∧ ¬ (255 : Int32) < cc0 := hg_cc0 ▸ i2c255
    obtain ⟨_, T9, h9, L9, X9, e9, hQ9, st9⟩ := callC X8 hx hZ hown (hw _ (List.mem_of_getElem? (i := 58) rfl)) (hw _ (List.mem_of_getElem? (i := 59) rfl)) (hw _ (List.mem_of_getElem? (i := 7) rfl)) (hw _ (List.mem_of_getElem? (i := 60) rfl)) (by decide) (kc := 2) (ks := 5) (Con.sb (W := 1) (rm_valueOfC l hD cc0 O0 hcc0.2) hZ (hw _ (List.mem_of_getElem? (i := 60) rfl)) (hw _ (List.mem_of_getElem? (i := 7) rfl)) (by decide) (by decide)) e8 (g := (mkF m 145 #[.val (.int p0), .val (.int p1), .val (.int p2), .val (.int sel), .val (.ref kd), .val (.int e5), .val (.ref b1), .val (.ref b4), .val (.ref b7), .val (.int cnt), .unset] [(.int cc0), (.ref b7)])) rfl (by rw [hml]; rfl) (argsL := [(.int cc0)]) (rest := [(.ref b7)]) (lenOf pd_20 rfl) rfl (by show 2 * 0 + _ ≤ _; exact Nat.le_of_eq rfl) (hb hby at_145) (by decide) (by decide)
    obtain ⟨r9, t9, k9, rfl, Nq9, Kq9, szr9, szt9, nrt9, Eq9, Fc9, Fv9, V9⟩ := hQ9
    refine OEnds.st (S' := T9.setTop (mkF m 148 #[.val (.int p0), .val (.int p1), .val (.int p2), .val (.int sel), .val (.ref kd), .val (.int e5), .val (.ref b1), .val (.ref b4), .val (.ref b7), .val (.int cnt), .unset] [(.ref r9), (.ref b7)])) st9 ?_
    replace N0 := Fr.app N0 Nq9
    have ne_b7_r9 : b7 ≠ r9 := Nat.ne_of_lt (Nat.lt_of_lt_of_le A7.lt szr9)
    have ge_r9 : Z.heap.size ≤ r9 := Nat.le_trans O0.1 szr9
    have ne_b7_t9 : b7 ≠ t9 := Nat.ne_of_lt (Nat.lt_of_lt_of_le A7.lt szt9)
    have ge_t9 : Z.heap.size ≤ t9 := Nat.le_trans O0.1 szt9
    replace A7 := A7.keep Kq9
    replace Fe8 := Fe8.keep Kq9 nin0
    replace Fs8 := Fs8.keep Kq9 nin0
    replace Fm8 := Fm8.keep Kq9 nin0
    replace O0 : Ext Z.heap h9 := ext_keep O0 Kq9 all0
    replace V9 : Arv Z h9 t9 k9 .byte (Int32.ofNat 1) [.int cc0.toInt8.toInt32] (.int 0) := V9
    clear V9
    obtain ⟨_, T10, h10, L10, X10, e10, hQ10, st10⟩ := virtC X9 hx hZ (y := (⟨"java/util/ArrayList", "add", "(Ljava/lang/Object;)Z"⟩ : MethodName)) (z := (⟨"java/util/ArrayList", "add", "(Ljava/lang/Object;)Z"⟩ : MethodName)) hown (hw _ (List.mem_of_getElem? (i := 72) rfl)) (hw _ (List.mem_of_getElem? (i := 73) rfl)) (nf_sel (args := #[]) (mvT hZ (hw _ (List.mem_of_getElem? (i := 75) rfl))) rfl) (hw _ (List.mem_of_getElem? (i := 75) rfl)) (hw _ (List.mem_of_getElem? (i := 74) rfl)) (by decide) (kc := 1) (ks := 10) (Con.sb (W := 0) (rm_add0 l hD b7 r9 xde xkde O0 A7 Fe8 Fs8 Fm8 ge_b7 S_DE V_DE Eq9) hZ (hw _ (List.mem_of_getElem? (i := 76) rfl)) (hw _ (List.mem_of_getElem? (i := 36) rfl)) (by decide) (by decide)) e9 A7 (g := (mkF m 148 #[.val (.int p0), .val (.int p1), .val (.int p2), .val (.int sel), .val (.ref kd), .val (.int e5), .val (.ref b1), .val (.ref b4), .val (.ref b7), .val (.int cnt), .unset] [(.ref r9), (.ref b7)])) rfl (by rw [hml]; rfl) (argsL := [(.ref r9)]) (rest := []) (lenOf pd_21 rfl) rfl (by show 2 * 0 + _ ≤ _; exact Nat.le_of_eq rfl) (hb hby at_148) (by decide) (by decide)
    obtain ⟨d10, k10, rfl, Nq10, Kq10, szd10, Eq10, Fe10, Fs10, Fm10, Ed10, V10, Ov10⟩ := hQ10
    refine OEnds.st (S' := T10.setTop (mkF m 151 #[.val (.int p0), .val (.int p1), .val (.int p2), .val (.int sel), .val (.ref kd), .val (.int e5), .val (.ref b1), .val (.ref b4), .val (.ref b7), .val (.int cnt), .unset] [(.int (1 : Int32))])) st10 ?_
    replace N0 := Fr.app N0 Nq10
    have ne_b7_d10 : b7 ≠ d10 := Nat.ne_of_lt (Nat.lt_of_lt_of_le A7.lt szd10)
    have ne_r9_d10 : r9 ≠ d10 := Nat.ne_of_lt (Nat.lt_of_lt_of_le Eq9.lt szd10)
    have ge_d10 : Z.heap.size ≤ d10 := Nat.le_trans O0.1 szd10
    replace A7 := A7.keep Kq10
    replace Eq9 := Eq9.keep Kq10
    replace O0 : Ext Z.heap h10 := ext_keep O0 Kq10 (allS ge_b7 all0)
    refine OEnds.st (S' := T10.setTop (mkF m 155 #[.val (.int p0), .val (.int p1), .val (.int p2), .val (.int sel), .val (.ref kd), .val (.int e5), .val (.ref b1), .val (.ref b4), .val (.ref b7), .val (.int cnt), .unset] [(.int (2 : Int32)), (.int cnt)])) (fun _ k => ?_) ?_
    · show Steps p.tables e below (T10.setTop (mkF m 151 #[.val (.int p0), .val (.int p1), .val (.int p2), .val (.int sel), .val (.ref kd), .val (.int e5), .val (.ref b1), .val (.ref b4), .val (.ref b7), .val (.int cnt), .unset] [(.int (1 : Int32))])) _
      refine XS.pop X10.here hx rfl (hb hby at_151) rfl rfl ?_
      show Steps p.tables e below (T10.setTop (mkF m 152 #[.val (.int p0), .val (.int p1), .val (.int p2), .val (.int sel), .val (.ref kd), .val (.int e5), .val (.ref b1), .val (.ref b4), .val (.ref b7), .val (.int cnt), .unset] [])) _
      refine XS.iload X10.here hx rfl (hb hby at_152) rfl ?_
      show Steps p.tables e below (T10.setTop (mkF m 154 #[.val (.int p0), .val (.int p1), .val (.int p2), .val (.int sel), .val (.ref kd), .val (.int e5), .val (.ref b1), .val (.ref b4), .val (.ref b7), .val (.int cnt), .unset] [(.int cnt)])) _
      refine XS.iconst X10.here hx rfl (hb hby at_154) ?_
      exact k
    rcases Classical.em (cnt < (2 : Int32)) with hn1 | hn1
    · refine OEnds.st (S' := T10.setTop (mkF m 200 #[.val (.int p0), .val (.int p1), .val (.int p2), .val (.int sel), .val (.ref kd), .val (.int e5), .val (.ref b1), .val (.ref b4), .val (.ref b7), .val (.int cnt), .unset] [])) (fun _ k => ?_) ?_
      · show Steps p.tables e below (T10.setTop (mkF m 155 #[.val (.int p0), .val (.int p1), .val (.int p2), .val (.int sel), .val (.ref kd), .val (.int e5), .val (.ref b1), .val (.ref b4), .val (.ref b7), .val (.int cnt), .unset] [(.int (2 : Int32)), (.int cnt)])) _
        refine XS.icmpYes X10.here hx rfl (pc0 := 155) (pc' := 176) rfl (hb hby at_155) rfl (tlt hn1).1 (by decide) (by decide) ?_
        show Steps p.tables e below (T10.setTop (mkF m 176 #[.val (.int p0), .val (.int p1), .val (.int p2), .val (.int sel), .val (.ref kd), .val (.int e5), .val (.ref b1), .val (.ref b4), .val (.ref b7), .val (.int cnt), .unset] [])) _
        refine XS.iload X10.here hx rfl (hb hby at_176) rfl ?_
        show Steps p.tables e below (T10.setTop (mkF m 178 #[.val (.int p0), .val (.int p1), .val (.int p2), .val (.int sel), .val (.ref kd), .val (.int e5), .val (.ref b1), .val (.ref b4), .val (.ref b7), .val (.int cnt), .unset] [(.int cnt)])) _
        refine XS.iconst X10.here hx rfl (hb hby at_178) ?_
        show Steps p.tables e below (T10.setTop (mkF m 179 #[.val (.int p0), .val (.int p1), .val (.int p2), .val (.int sel), .val (.ref kd), .val (.int e5), .val (.ref b1), .val (.ref b4), .val (.ref b7), .val (.int cnt), .unset] [(.int (3 : Int32)), (.int cnt)])) _
        refine XS.icmpYes X10.here hx rfl (pc0 := 179) (pc' := 200) rfl (hb hby at_179) rfl (tlt (Int32.lt_trans hn1 (by decide))).1 (by decide) (by decide) ?_
        exact k
      exact sg_200_1 hD p0 p1 p2 sel e5 kd ko b1 b4 b7 cnt d10 k10 r9 O0 (X10.more (by decide) (by decide)) hx hZ hby hml hown hnm hret hlk e10 N0 A7 Fe10 Fs10 Ed10 V10 Eq9 S_ko hexp
    · refine OEnds.st (S' := T10.setTop (mkF m 169 #[.val (.int p0), .val (.int p1), .val (.int p2), .val (.int sel), .val (.ref kd), .val (.int e5), .val (.ref b1), .val (.ref b4), .val (.ref b7), .val (.int cnt), .unset] [(.int ((((p2.toUInt32 >>> ((10 : Int32) &&& 31).toUInt32).toInt32) &&& (255 : Int32)).toUInt32.toUInt16.toUInt32.toInt32)), (.ref b7)])) (fun _ k => ?_) ?_
      · show Steps p.tables e below (T10.setTop (mkF m 155 #[.val (.int p0), .val (.int p1), .val (.int p2), .val (.int sel), .val (.ref kd), .val (.int e5), .val (.ref b1), .val (.ref b4), .val (.ref b7), .val (.int cnt), .unset] [(.int (2 : Int32)), (.int cnt)])) _
        refine XS.icmpNo X10.here hx rfl (hb hby at_155) rfl (flt hn1).1 ?_
        show Steps p.tables e below (T10.setTop (mkF m 158 #[.val (.int p0), .val (.int p1), .val (.int p2), .val (.int sel), .val (.ref kd), .val (.int e5), .val (.ref b1), .val (.ref b4), .val (.ref b7), .val (.int cnt), .unset] [])) _
        refine XS.aload X10.here hx rfl (hb hby at_158) rfl rfl ?_
        show Steps p.tables e below (T10.setTop (mkF m 160 #[.val (.int p0), .val (.int p1), .val (.int p2), .val (.int sel), .val (.ref kd), .val (.int e5), .val (.ref b1), .val (.ref b4), .val (.ref b7), .val (.int cnt), .unset] [(.ref b7)])) _
        refine XS.iloadN X10.here hx rfl (hb hby at_160) rfl ?_
        show Steps p.tables e below (T10.setTop (mkF m 161 #[.val (.int p0), .val (.int p1), .val (.int p2), .val (.int sel), .val (.ref kd), .val (.int e5), .val (.ref b1), .val (.ref b4), .val (.ref b7), .val (.int cnt), .unset] [(.int p2), (.ref b7)])) _
        refine XS.bipush X10.here hx rfl (hb hby at_161) ?_
        show Steps p.tables e below (T10.setTop (mkF m 163 #[.val (.int p0), .val (.int p1), .val (.int p2), .val (.int sel), .val (.ref kd), .val (.int e5), .val (.ref b1), .val (.ref b4), .val (.ref b7), .val (.int cnt), .unset] [(.int (10 : Int32)), (.int p2), (.ref b7)])) _
        refine XS.iushr X10.here hx rfl (hb hby at_163) rfl ?_
        show Steps p.tables e below (T10.setTop (mkF m 164 #[.val (.int p0), .val (.int p1), .val (.int p2), .val (.int sel), .val (.ref kd), .val (.int e5), .val (.ref b1), .val (.ref b4), .val (.ref b7), .val (.int cnt), .unset] [(.int ((p2.toUInt32 >>> ((10 : Int32) &&& 31).toUInt32).toInt32)), (.ref b7)])) _
        refine XS.sipush X10.here hx rfl (hb hby at_164) ?_
        show Steps p.tables e below (T10.setTop (mkF m 167 #[.val (.int p0), .val (.int p1), .val (.int p2), .val (.int sel), .val (.ref kd), .val (.int e5), .val (.ref b1), .val (.ref b4), .val (.ref b7), .val (.int cnt), .unset] [(.int (255 : Int32)), (.int ((p2.toUInt32 >>> ((10 : Int32) &&& 31).toUInt32).toInt32)), (.ref b7)])) _
        refine XS.iand X10.here hx rfl (hb hby at_167) rfl ?_
        show Steps p.tables e below (T10.setTop (mkF m 168 #[.val (.int p0), .val (.int p1), .val (.int p2), .val (.int sel), .val (.ref kd), .val (.int e5), .val (.ref b1), .val (.ref b4), .val (.ref b7), .val (.int cnt), .unset] [(.int (((p2.toUInt32 >>> ((10 : Int32) &&& 31).toUInt32).toInt32) &&& (255 : Int32))), (.ref b7)])) _
        refine XS.i2c X10.here hx rfl (hb hby at_168) rfl ?_
        exact k
      generalize hg_cc1 : ((((p2.toUInt32 >>> ((10 : Int32) &&& 31).toUInt32).toInt32) &&& (255 : Int32)).toUInt32.toUInt16.toUInt32.toInt32) = cc1
      have hcc1 : ¬ cc1 < 0 ∧ ¬ (255 : Int32) < cc1 := hg_cc1 ▸ i2c255
      obtain ⟨_, T11, h11, L11, X11, e11, hQ11, st11⟩ := callC X10 hx hZ hown (hw _ (List.mem_of_getElem? (i := 58) rfl)) (hw _ (List.mem_of_getElem? (i := 59) rfl)) (hw _ (List.mem_of_getElem? (i := 7) rfl)) (hw _ (List.mem_of_getElem? (i := 60) rfl)) (by decide) (kc := 2) (ks := 5) (Con.sb (W := 1) (rm_valueOfC l hD cc1 O0 hcc1.2) hZ (hw _ (List.mem_of_getElem? (i := 60) rfl)) (hw _ (List.mem_of_getElem? (i := 7) rfl)) (by decide) (by decide)) e10 (g := (mkF m 169 #[.val (.int p0), .val (.int p1), .val (.int p2), .val (.int sel), .val (.ref kd), .val (.int e5), .val (.ref b1), .val (.ref b4), .val (.ref b7), .val (.int cnt), .unset] [(.int cc1), (.ref b7)])) rfl (by rw [hml]; rfl) (argsL := [(.int cc1)]) (rest := [(.ref b7)]) (lenOf pd_20 rfl) rfl (by show 2 * 0 + _ ≤ _; exact Nat.le_of_eq rfl) (hb hby at_169) (by decide) (by decide)
      obtain ⟨r11, t11, k11, rfl, Nq11, Kq11, szr11, szt11, nrt11, Eq11, Fc11, Fv11, V11⟩ := hQ11
      refine OEnds.st (S' := T11.setTop (mkF m 172 #[.val (.int p0), .val (.int p1), .val (.int p2), .val (.int sel), .val (.ref kd), .val (.int e5), .val (.ref b1), .val (.ref b4), .val (.ref b7), .val (.int cnt), .unset] [(.ref r11), (.ref b7)])) st11 ?_
      replace N0 := Fr.app N0 Nq11
      have ne_b7_r11 : b7 ≠ r11 := Nat.ne_of_lt (Nat.lt_of_lt_of_le A7.lt szr11)
      have ne_d10_r11 : d10 ≠ r11 := Nat.ne_of_lt (Nat.lt_of_lt_of_le Ed10.lt szr11)
      have ne_r9_r11 : r9 ≠ r11 := Nat.ne_of_lt (Nat.lt_of_lt_of_le Eq9.lt szr11)
      have ge_r11 : Z.heap.size ≤ r11 := Nat.le_trans O0.1 szr11
      have ne_b7_t11 : b7 ≠ t11 := Nat.ne_of_lt (Nat.lt_of_lt_of_le A7.lt szt11)
      have ne_d10_t11 : d10 ≠ t11 := Nat.ne_of_lt (Nat.lt_of_lt_of_le Ed10.lt szt11)
      have ne_r9_t11 : r9 ≠ t11 := Nat.ne_of_lt (Nat.lt_of_lt_of_le Eq9.lt szt11)
      have ge_t11 : Z.heap.size ≤ t11 := Nat.le_trans O0.1 szt11
      replace A7 := A7.keep Kq11
      replace Eq9 := Eq9.keep Kq11
      replace Fe10 := Fe10.keep Kq11 nin0
      replace Fs10 := Fs10.keep Kq11 nin0
      replace Fm10 := Fm10.keep Kq11 nin0
      replace Ed10 := Ed10.keep Kq11
      replace V10 := V10.keep Kq11 nin0
      replace O0 : Ext Z.heap h11 := ext_keep O0 Kq11 all0
      replace V11 : Arv Z h11 t11 k11 .byte (Int32.ofNat 1) [.int cc1.toInt8.toInt32] (.int 0) := V11
      clear V11
      obtain ⟨_, T12, h12, L12, X12, e12, hQ12, st12⟩ := virtC X11 hx hZ (y := (⟨"java/util/ArrayList", "add", "(Ljava/lang/Object;)Z"⟩ : MethodName)) (z := (⟨"java/util/ArrayList", "add", "(Ljava/lang/Object;)Z"⟩ : MethodName)) hown (hw _ (List.mem_of_getElem? (i := 72) rfl)) (hw _ (List.mem_of_getElem? (i := 73) rfl)) (nf_sel (args := #[]) (mvT hZ (hw _ (List.mem_of_getElem? (i := 75) rfl))) rfl) (hw _ (List.mem_of_getElem? (i := 75) rfl)) (hw _ (List.mem_of_getElem? (i := 74) rfl)) (by decide) (kc := 0) (ks := 0) (Con.sb (W := 0) (rm_add1 l hD b7 r11 d10 k10 r9 O0 A7 Fe10 Fs10 Fm10 ge_b7 Ed10 V10 Ov10 ge_d10 Eq11) hZ (hw _ (List.mem_of_getElem? (i := 76) rfl)) (hw _ (List.mem_of_getElem? (i := 36) rfl)) (by decide) (by decide)) e11 A7 (g := (mkF m 172 #[.val (.int p0), .val (.int p1), .val (.int p2), .val (.int sel), .val (.ref kd), .val (.int e5), .val (.ref b1), .val (.ref b4), .val (.ref b7), .val (.int cnt), .unset] [(.ref r11), (.ref b7)])) rfl (by rw [hml]; rfl) (argsL := [(.ref r11)]) (rest := []) (lenOf pd_21 rfl) rfl (by show 2 * 0 + _ ≤ _; exact Nat.le_of_eq rfl) (hb hby at_172) (by decide) (by decide)
      obtain ⟨rfl, Nq12, Kq12, Eq12, Fe12, Fs12, Fm12, Ed12, V12⟩ := hQ12
      refine OEnds.st (S' := T12.setTop (mkF m 175 #[.val (.int p0), .val (.int p1), .val (.int p2), .val (.int sel), .val (.ref kd), .val (.int e5), .val (.ref b1), .val (.ref b4), .val (.ref b7), .val (.int cnt), .unset] [(.int (1 : Int32))])) st12 ?_
      replace N0 := Fr.app N0 Nq12
      replace A7 := A7.keep Kq12
      replace Eq9 := Eq9.keep Kq12
      replace Ed10 := Ed10.keep Kq12
      replace Eq11 := Eq11.keep Kq12
      replace O0 : Ext Z.heap h12 := ext_keep O0 Kq12 (allS ge_b7 (allS ge_d10 all0))
      refine OEnds.st (S' := T12.setTop (mkF m 179 #[.val (.int p0), .val (.int p1), .val (.int p2), .val (.int sel), .val (.ref kd), .val (.int e5), .val (.ref b1), .val (.ref b4), .val (.ref b7), .val (.int cnt), .unset] [(.int (3 : Int32)), (.int cnt)])) (fun _ k => ?_) ?_
      · show Steps p.tables e below (T12.setTop (mkF m 175 #[.val (.int p0), .val (.int p1), .val (.int p2), .val (.int sel), .val (.ref kd), .val (.int e5), .val (.ref b1), .val (.ref b4), .val (.ref b7), .val (.int cnt), .unset] [(.int (1 : Int32))])) _
        refine XS.pop X12.here hx rfl (hb hby at_175) rfl rfl ?_
        show Steps p.tables e below (T12.setTop (mkF m 176 #[.val (.int p0), .val (.int p1), .val (.int p2), .val (.int sel), .val (.ref kd), .val (.int e5), .val (.ref b1), .val (.ref b4), .val (.ref b7), .val (.int cnt), .unset] [])) _
        refine XS.iload X12.here hx rfl (hb hby at_176) rfl ?_
        show Steps p.tables e below (T12.setTop (mkF m 178 #[.val (.int p0), .val (.int p1), .val (.int p2), .val (.int sel), .val (.ref kd), .val (.int e5), .val (.ref b1), .val (.ref b4), .val (.ref b7), .val (.int cnt), .unset] [(.int cnt)])) _
        refine XS.iconst X12.here hx rfl (hb hby at_178) ?_
        exact k
      rcases Classical.em (cnt < (3 : Int32)) with hn2 | hn2
      · refine OEnds.st (S' := T12.setTop (mkF m 200 #[.val (.int p0), .val (.int p1), .val (.int p2), .val (.int sel), .val (.ref kd), .val (.int e5), .val (.ref b1), .val (.ref b4), .val (.ref b7), .val (.int cnt), .unset] [])) (fun _ k => ?_) ?_
        · show Steps p.tables e below (T12.setTop (mkF m 179 #[.val (.int p0), .val (.int p1), .val (.int p2), .val (.int sel), .val (.ref kd), .val (.int e5), .val (.ref b1), .val (.ref b4), .val (.ref b7), .val (.int cnt), .unset] [(.int (3 : Int32)), (.int cnt)])) _
          refine XS.icmpYes X12.here hx rfl (pc0 := 179) (pc' := 200) rfl (hb hby at_179) rfl (tlt hn2).1 (by decide) (by decide) ?_
          exact k
        exact sg_200_2 hD p0 p1 p2 sel e5 kd ko b1 b4 b7 cnt d10 k10 r9 r11 O0 (X12.more (by decide) (by decide)) hx hZ hby hml hown hnm hret hlk e12 N0 A7 Fe12 Fs12 Ed10 V12 Eq9 Eq11 S_ko hexp
      · refine OEnds.st (S' := T12.setTop (mkF m 193 #[.val (.int p0), .val (.int p1), .val (.int p2), .val (.int sel), .val (.ref kd), .val (.int e5), .val (.ref b1), .val (.ref b4), .val (.ref b7), .val (.int cnt), .unset] [(.int ((((p2.toUInt32 >>> ((18 : Int32) &&& 31).toUInt32).toInt32) &&& (255 : Int32)).toUInt32.toUInt16.toUInt32.toInt32)), (.ref b7)])) (fun _ k => ?_) ?_
        · show Steps p.tables e below (T12.setTop (mkF m 179 #[.val (.int p0), .val (.int p1), .val (.int p2), .val (.int sel), .val (.ref kd), .val (.int e5), .val (.ref b1), .val (.ref b4), .val (.ref b7), .val (.int cnt), .unset] [(.int (3 : Int32)), (.int cnt)])) _
          refine XS.icmpNo X12.here hx rfl (hb hby at_179) rfl (flt hn2).1 ?_
          show Steps p.tables e below (T12.setTop (mkF m 182 #[.val (.int p0), .val (.int p1), .val (.int p2), .val (.int sel), .val (.ref kd), .val (.int e5), .val (.ref b1), .val (.ref b4), .val (.ref b7), .val (.int cnt), .unset] [])) _
          refine XS.aload X12.here hx rfl (hb hby at_182) rfl rfl ?_
          show Steps p.tables e below (T12.setTop (mkF m 184 #[.val (.int p0), .val (.int p1), .val (.int p2), .val (.int sel), .val (.ref kd), .val (.int e5), .val (.ref b1), .val (.ref b4), .val (.ref b7), .val (.int cnt), .unset] [(.ref b7)])) _
          refine XS.iloadN X12.here hx rfl (hb hby at_184) rfl ?_
          show Steps p.tables e below (T12.setTop (mkF m 185 #[.val (.int p0), .val (.int p1), .val (.int p2), .val (.int sel), .val (.ref kd), .val (.int e5), .val (.ref b1), .val (.ref b4), .val (.ref b7), .val (.int cnt), .unset] [(.int p2), (.ref b7)])) _
          refine XS.bipush X12.here hx rfl (hb hby at_185) ?_
          show Steps p.tables e below (T12.setTop (mkF m 187 #[.val (.int p0), .val (.int p1), .val (.int p2), .val (.int sel), .val (.ref kd), .val (.int e5), .val (.ref b1), .val (.ref b4), .val (.ref b7), .val (.int cnt), .unset] [(.int (18 : Int32)), (.int p2), (.ref b7)])) _
          refine XS.iushr X12.here hx rfl (hb hby at_187) rfl ?_
          show Steps p.tables e below (T12.setTop (mkF m 188 #[.val (.int p0), .val (.int p1), .val (.int p2), .val (.int sel), .val (.ref kd), .val (.int e5), .val (.ref b1), .val (.ref b4), .val (.ref b7), .val (.int cnt), .unset] [(.int ((p2.toUInt32 >>> ((18 : Int32) &&& 31).toUInt32).toInt32)), (.ref b7)])) _
          refine XS.sipush X12.here hx rfl (hb hby at_188) ?_
          show Steps p.tables e below (T12.setTop (mkF m 191 #[.val (.int p0), .val (.int p1), .val (.int p2), .val (.int sel), .val (.ref kd), .val (.int e5), .val (.ref b1), .val (.ref b4), .val (.ref b7), .val (.int cnt), .unset] [(.int (255 : Int32)), (.int ((p2.toUInt32 >>> ((18 : Int32) &&& 31).toUInt32).toInt32)), (.ref b7)])) _
          refine XS.iand X12.here hx rfl (hb hby at_191) rfl ?_
          show Steps p.tables e below (T12.setTop (mkF m 192 #[.val (.int p0), .val (.int p1), .val (.int p2), .val (.int sel), .val (.ref kd), .val (.int e5), .val (.ref b1), .val (.ref b4), .val (.ref b7), .val (.int cnt), .unset] [(.int (((p2.toUInt32 >>> ((18 : Int32) &&& 31).toUInt32).toInt32) &&& (255 : Int32))), (.ref b7)])) _
          refine XS.i2c X12.here hx rfl (hb hby at_192) rfl ?_
          exact k
        generalize hg_cc2 : ((((p2.toUInt32 >>> ((18 : Int32) &&& 31).toUInt32).toInt32) &&& (255 : Int32)).toUInt32.toUInt16.toUInt32.toInt32) = cc2
        have hcc2 : ¬ cc2 < 0 ∧ ¬ (255 : Int32) < cc2 := hg_cc2 ▸ i2c255
        obtain ⟨_, T13, h13, L13, X13, e13, hQ13, st13⟩ := callC X12 hx hZ hown (hw _ (List.mem_of_getElem? (i := 58) rfl)) (hw _ (List.mem_of_getElem? (i := 59) rfl)) (hw _ (List.mem_of_getElem? (i := 7) rfl)) (hw _ (List.mem_of_getElem? (i := 60) rfl)) (by decide) (kc := 2) (ks := 5) (Con.sb (W := 1) (rm_valueOfC l hD cc2 O0 hcc2.2) hZ (hw _ (List.mem_of_getElem? (i := 60) rfl)) (hw _ (List.mem_of_getElem? (i := 7) rfl)) (by decide) (by decide)) e12 (g := (mkF m 193 #[.val (.int p0), .val (.int p1), .val (.int p2), .val (.int sel), .val (.ref kd), .val (.int e5), .val (.ref b1), .val (.ref b4), .val (.ref b7), .val (.int cnt), .unset] [(.int cc2), (.ref b7)])) rfl (by rw [hml]; rfl) (argsL := [(.int cc2)]) (rest := [(.ref b7)]) (lenOf pd_20 rfl) rfl (by show 2 * 0 + _ ≤ _; exact Nat.le_of_eq rfl) (hb hby at_193) (by decide) (by decide)
        obtain ⟨r13, t13, k13, rfl, Nq13, Kq13, szr13, szt13, nrt13, Eq13, Fc13, Fv13, V13⟩ := hQ13
        refine OEnds.st (S' := T13.setTop (mkF m 196 #[.val (.int p0), .val (.int p1), .val (.int p2), .val (.int sel), .val (.ref kd), .val (.int e5), .val (.ref b1), .val (.ref b4), .val (.ref b7), .val (.int cnt), .unset] [(.ref r13), (.ref b7)])) st13 ?_
        replace N0 := Fr.app N0 Nq13
        have ne_b7_r13 : b7 ≠ r13 := Nat.ne_of_lt (Nat.lt_of_lt_of_le A7.lt szr13)
        have ne_d10_r13 : d10 ≠ r13 := Nat.ne_of_lt (Nat.lt_of_lt_of_le Ed10.lt szr13)
        have ne_r11_r13 : r11 ≠ r13 := Nat.ne_of_lt (Nat.lt_of_lt_of_le Eq11.lt szr13)
        have ne_r9_r13 : r9 ≠ r13 := Nat.ne_of_lt (Nat.lt_of_lt_of_le Eq9.lt szr13)
        have ge_r13 : Z.heap.size ≤ r13 := Nat.le_trans O0.1 szr13
        have ne_b7_t13 : b7 ≠ t13 := Nat.ne_of_lt (Nat.lt_of_lt_of_le A7.lt szt13)
        have ne_d10_t13 : d10 ≠ t13 := Nat.ne_of_lt (Nat.lt_of_lt_of_le Ed10.lt szt13)
        have ne_r11_t13 : r11 ≠ t13 := Nat.ne_of_lt (Nat.lt_of_lt_of_le Eq11.lt szt13)
        have ne_r9_t13 : r9 ≠ t13 := Nat.ne_of_lt (Nat.lt_of_lt_of_le Eq9.lt szt13)
        have ge_t13 : Z.heap.size ≤ t13 := Nat.le_trans O0.1 szt13
        replace A7 := A7.keep Kq13
        replace Eq9 := Eq9.keep Kq13
        replace Ed10 := Ed10.keep Kq13
        replace Eq11 := Eq11.keep Kq13
        replace Fe12 := Fe12.keep Kq13 nin0
        replace Fs12 := Fs12.keep Kq13 nin0
        replace Fm12 := Fm12.keep Kq13 nin0
        replace V12 := V12.keep Kq13 nin0
        replace O0 : Ext Z.heap h13 := ext_keep O0 Kq13 all0
        replace V13 : Arv Z h13 t13 k13 .byte (Int32.ofNat 1) [.int cc2.toInt8.toInt32] (.int 0) := V13
        clear V13
        obtain ⟨_, T14, h14, L14, X14, e14, hQ14, st14⟩ := virtC X13 hx hZ (y := (⟨"java/util/ArrayList", "add", "(Ljava/lang/Object;)Z"⟩ : MethodName)) (z := (⟨"java/util/ArrayList", "add", "(Ljava/lang/Object;)Z"⟩ : MethodName)) hown (hw _ (List.mem_of_getElem? (i := 72) rfl)) (hw _ (List.mem_of_getElem? (i := 73) rfl)) (nf_sel (args := #[]) (mvT hZ (hw _ (List.mem_of_getElem? (i := 75) rfl))) rfl) (hw _ (List.mem_of_getElem? (i := 75) rfl)) (hw _ (List.mem_of_getElem? (i := 74) rfl)) (by decide) (kc := 0) (ks := 0) (Con.sb (W := 0) (rm_add2 l hD b7 r13 d10 k10 r9 r11 O0 A7 Fe12 Fs12 Fm12 ge_b7 Ed10 V12 Ov10 ge_d10 Eq13) hZ (hw _ (List.mem_of_getElem? (i := 76) rfl)) (hw _ (List.mem_of_getElem? (i := 36) rfl)) (by decide) (by decide)) e13 A7 (g := (mkF m 196 #[.val (.int p0), .val (.int p1), .val (.int p2), .val (.int sel), .val (.ref kd), .val (.int e5), .val (.ref b1), .val (.ref b4), .val (.ref b7), .val (.int cnt), .unset] [(.ref r13), (.ref b7)])) rfl (by rw [hml]; rfl) (argsL := [(.ref r13)]) (rest := []) (lenOf pd_21 rfl) rfl (by show 2 * 0 + _ ≤ _; exact Nat.le_of_eq rfl) (hb hby at_196) (by decide) (by decide)
        obtain ⟨rfl, Nq14, Kq14, Eq14, Fe14, Fs14, Fm14, Ed14, V14⟩ := hQ14
        refine OEnds.st (S' := T14.setTop (mkF m 199 #[.val (.int p0), .val (.int p1), .val (.int p2), .val (.int sel), .val (.ref kd), .val (.int e5), .val (.ref b1), .val (.ref b4), .val (.ref b7), .val (.int cnt), .unset] [(.int (1 : Int32))])) st14 ?_
        replace N0 := Fr.app N0 Nq14
        replace A7 := A7.keep Kq14
        replace Eq9 := Eq9.keep Kq14
        replace Ed10 := Ed10.keep Kq14
        replace Eq11 := Eq11.keep Kq14
        replace Eq13 := Eq13.keep Kq14
        replace O0 : Ext Z.heap h14 := ext_keep O0 Kq14 (allS ge_b7 (allS ge_d10 all0))
        refine OEnds.st (S' := T14.setTop (mkF m 200 #[.val (.int p0), .val (.int p1), .val (.int p2), .val (.int sel), .val (.ref kd), .val (.int e5), .val (.ref b1), .val (.ref b4), .val (.ref b7), .val (.int cnt), .unset] [])) (fun _ k => ?_) ?_
        · show Steps p.tables e below (T14.setTop (mkF m 199 #[.val (.int p0), .val (.int p1), .val (.int p2), .val (.int sel), .val (.ref kd), .val (.int e5), .val (.ref b1), .val (.ref b4), .val (.ref b7), .val (.int cnt), .unset] [(.int (1 : Int32))])) _
          refine XS.pop X14.here hx rfl (hb hby at_199) rfl rfl ?_
          exact k
        exact sg_200_3 hD p0 p1 p2 sel e5 kd ko b1 b4 b7 cnt d10 k10 r9 r11 r13 O0 (X14.more (by decide) (by decide)) hx hZ hby hml hown hnm hret hlk e14 N0 A7 Fe14 Fs14 Ed10 V14 Eq9 Eq11 Eq13 S_ko hexp
-- com/example/gridtally/gridtally/determinant/ColumnRequiredPinLaw.law:(III)Z
theorem ef_law (m : MethodId) (p0 : Int32) (p1 : Int32) (p2 : Int32) : entryFrame m #[(.int p0), (.int p1), (.int p2)] maxLocals = mkF m 0 #[.val (.int p0), .val (.int p1), .val (.int p2), .unset, .unset, .unset, .unset, .unset, .unset, .unset, .unset] [] := by first | (simp [entryFrame, mkF, argsToLocals, Value.category, maxLocals]; done) | rfl
theorem pn_15 : plainName "com/example/gridtally/gridtally/determinant/ColumnRequiredPinLaw" = true := by first | (simp [plainName, overriddenIn]; done) | decide +kernel
set_option maxRecDepth 65536 in
set_option maxHeartbeats 40000000 in
theorem rm_law (l : Launch) {Z : State} {a0 : Array Value} (hD : Wd Z a0) (p0 : Int32) (p1 : Int32) (p2 : Int32) {h0 : Heap} (O0 : Ext Z.heap h0) :
    Con l Z x code maxLocals ret tables_1 room_1 #[(.int p0), (.int p1), (.int p2)] h0 (Q_law Z) := by
  refine Con.walk (plainFor_of_name pn_15) ?_
  intro p e s m below meth c T0 X0 hx hZ hby hml hown hnm hret hlk e0
  obtain ⟨hw, ⟨cz, S_CS, hcz⟩, ⟨xde, xkde, S_DE, V_DE⟩, ⟨aEM, S_EM⟩, ⟨aEL, S_EL⟩, ⟨cO, kO, mrO, mir1, mir2, mir3⟩, ⟨k0, k1, k2, k3, k4, S_K0, S_K1, S_K2, S_K3, S_K4, kn0, kn2, kn3, kn4⟩⟩ := id hD
  have N0 := Fr.nil Z.heap.size
  refine OEnds.cast (ef_law m p0 p1 p2) ?_
  refine OEnds.st (S' := T0.setTop (mkF m 7 #[.val (.int p0), .val (.int p1), .val (.int p2), .val (.int ((p0 &&& (2147483647 : Int32)) % (5 : Int32))), .unset, .unset, .unset, .unset, .unset, .unset, .unset] [])) (fun _ k => ?_) ?_
  · show Steps p.tables e below (T0.setTop (mkF m 0 #[.val (.int p0), .val (.int p1), .val (.int p2), .unset, .unset, .unset, .unset, .unset, .unset, .unset, .unset] [])) _
    refine XS.iloadN X0.here hx rfl (hb hby at_0) rfl ?_
    show Steps p.tables e below (T0.setTop (mkF m 1 #[.val (.int p0), .val (.int p1), .val (.int p2), .unset, .unset, .unset, .unset, .unset, .unset, .unset, .unset] [(.int p0)])) _
    refine X0.ldcInt hx hown (mvT hZ (hw _ (List.mem_of_getElem? (i := 0) rfl))) (g := (mkF m 1 #[.val (.int p0), .val (.int p1), .val (.int p2), .unset, .unset, .unset, .unset, .unset, .unset, .unset, .unset] [(.int p0)])) rfl (hb hby at_1) _ ?_
    show Steps p.tables e below (T0.setTop (mkF m 3 #[.val (.int p0), .val (.int p1), .val (.int p2), .unset, .unset, .unset, .unset, .unset, .unset, .unset, .unset] [(.int (2147483647 : Int32)), (.int p0)])) _
    refine XS.iand X0.here hx rfl (hb hby at_3) rfl ?_
    show Steps p.tables e below (T0.setTop (mkF m 4 #[.val (.int p0), .val (.int p1), .val (.int p2), .unset, .unset, .unset, .unset, .unset, .unset, .unset, .unset] [(.int (p0 &&& (2147483647 : Int32)))])) _
    refine XS.iconst X0.here hx rfl (hb hby at_4) ?_
    show Steps p.tables e below (T0.setTop (mkF m 5 #[.val (.int p0), .val (.int p1), .val (.int p2), .unset, .unset, .unset, .unset, .unset, .unset, .unset, .unset] [(.int (5 : Int32)), (.int (p0 &&& (2147483647 : Int32)))])) _
    refine iremM X0 hx rfl (hb hby at_5) rfl (by decide) ?_
    show Steps p.tables e below (T0.setTop (mkF m 6 #[.val (.int p0), .val (.int p1), .val (.int p2), .unset, .unset, .unset, .unset, .unset, .unset, .unset, .unset] [(.int ((p0 &&& (2147483647 : Int32)) % (5 : Int32)))])) _
    refine XS.istoreN X0.here hx rfl (hb hby at_6) rfl (l' := #[.val (.int p0), .val (.int p1), .val (.int p2), .val (.int ((p0 &&& (2147483647 : Int32)) % (5 : Int32))), .unset, .unset, .unset, .unset, .unset, .unset, .unset]) rfl ?_
    exact k
  generalize hg_sel : ((p0 &&& (2147483647 : Int32)) % (5 : Int32)) = sel
  refine OEnds.st (S' := T0.setTop (mkF m 8 #[.val (.int p0), .val (.int p1), .val (.int p2), .val (.int sel), .unset, .unset, .unset, .unset, .unset, .unset, .unset] [(.int sel)])) (fun _ k => ?_) ?_
  · show Steps p.tables e below (T0.setTop (mkF m 7 #[.val (.int p0), .val (.int p1), .val (.int p2), .val (.int sel), .unset, .unset, .unset, .unset, .unset, .unset, .unset] [])) _
    refine XS.iloadN X0.here hx rfl (hb hby at_7) rfl ?_
    exact k
  rcases Classical.em (sel = (0 : Int32)) with hs0 | hs0
  · refine OEnds.st (S' := T0.setTop (mkF m 11 #[.val (.int p0), .val (.int p1), .val (.int p2), .val (.int sel), .unset, .unset, .unset, .unset, .unset, .unset, .unset] [])) (fun _ k => ?_) ?_
    · show Steps p.tables e below (T0.setTop (mkF m 8 #[.val (.int p0), .val (.int p1), .val (.int p2), .val (.int sel), .unset, .unset, .unset, .unset, .unset, .unset, .unset] [(.int sel)])) _
      refine XS.ifNo X0.here hx rfl (hb hby at_8) rfl ((if0 _ _).trans (teq hs0).2) ?_
      exact k
    obtain ⟨T1, X1, e1, st1⟩ := getS2 X0 hx hZ hown (host := "") (Or.inl (hw _ (List.mem_of_getElem? (i := 1) rfl))) Via.refl e0 (S_K0.ext O0) (g := (mkF m 11 #[.val (.int p0), .val (.int p1), .val (.int p2), .val (.int sel), .unset, .unset, .unset, .unset, .unset, .unset, .unset] [])) rfl (hb hby at_11)
    refine OEnds.st (S' := T1.setTop (mkF m 14 #[.val (.int p0), .val (.int p1), .val (.int p2), .val (.int sel), .unset, .unset, .unset, .unset, .unset, .unset, .unset] [(.ref k0)])) st1 ?_
    refine OEnds.st (S' := T1.setTop (mkF m 78 #[.val (.int p0), .val (.int p1), .val (.int p2), .val (.int sel), .val (.ref k0), .val (.int (1 : Int32)), .unset, .unset, .unset, .unset, .unset] [])) (fun _ k => ?_) ?_
    · show Steps p.tables e below (T1.setTop (mkF m 14 #[.val (.int p0), .val (.int p1), .val (.int p2), .val (.int sel), .unset, .unset, .unset, .unset, .unset, .unset, .unset] [(.ref k0)])) _
      refine XS.astore X1.here hx rfl (hb hby at_14) rfl rfl (l' := #[.val (.int p0), .val (.int p1), .val (.int p2), .val (.int sel), .val (.ref k0), .unset, .unset, .unset, .unset, .unset, .unset]) rfl ?_
      show Steps p.tables e below (T1.setTop (mkF m 16 #[.val (.int p0), .val (.int p1), .val (.int p2), .val (.int sel), .val (.ref k0), .unset, .unset, .unset, .unset, .unset, .unset] [])) _
      refine XS.iconst X1.here hx rfl (hb hby at_16) ?_
      show Steps p.tables e below (T1.setTop (mkF m 17 #[.val (.int p0), .val (.int p1), .val (.int p2), .val (.int sel), .val (.ref k0), .unset, .unset, .unset, .unset, .unset, .unset] [(.int (1 : Int32))])) _
      refine XS.istore X1.here hx rfl (hb hby at_17) rfl (l' := #[.val (.int p0), .val (.int p1), .val (.int p2), .val (.int sel), .val (.ref k0), .val (.int (1 : Int32)), .unset, .unset, .unset, .unset, .unset]) rfl ?_
      show Steps p.tables e below (T1.setTop (mkF m 19 #[.val (.int p0), .val (.int p1), .val (.int p2), .val (.int sel), .val (.ref k0), .val (.int (1 : Int32)), .unset, .unset, .unset, .unset, .unset] [])) _
      refine XS.goto X1.here hx rfl (pc0 := 19) (pc' := 78) rfl (hb hby at_19) (by decide) (by decide) ?_
      exact k
    exact sg_78 hD p0 p1 p2 sel (1 : Int32) k0 k1 O0 X1 hx hZ hby hml hown hnm hret hlk e1 N0 S_K1 (Or.inl ⟨rfl, kn0⟩)
  · refine OEnds.st (S' := T0.setTop (mkF m 24 #[.val (.int p0), .val (.int p1), .val (.int p2), .val (.int sel), .unset, .unset, .unset, .unset, .unset, .unset, .unset] [(.int (1 : Int32)), (.int sel)])) (fun _ k => ?_) ?_
    · show Steps p.tables e below (T0.setTop (mkF m 8 #[.val (.int p0), .val (.int p1), .val (.int p2), .val (.int sel), .unset, .unset, .unset, .unset, .unset, .unset, .unset] [(.int sel)])) _
      refine XS.ifYes X0.here hx rfl (pc0 := 8) (pc' := 22) rfl (hb hby at_8) rfl ((if0 _ _).trans (feq hs0).2) (by decide) (by decide) ?_
      show Steps p.tables e below (T0.setTop (mkF m 22 #[.val (.int p0), .val (.int p1), .val (.int p2), .val (.int sel), .unset, .unset, .unset, .unset, .unset, .unset, .unset] [])) _
      refine XS.iloadN X0.here hx rfl (hb hby at_22) rfl ?_
      show Steps p.tables e below (T0.setTop (mkF m 23 #[.val (.int p0), .val (.int p1), .val (.int p2), .val (.int sel), .unset, .unset, .unset, .unset, .unset, .unset, .unset] [(.int sel)])) _
      refine XS.iconst X0.here hx rfl (hb hby at_23) ?_
      exact k
    rcases Classical.em (sel = (1 : Int32)) with hs1 | hs1
    · refine OEnds.st (S' := T0.setTop (mkF m 27 #[.val (.int p0), .val (.int p1), .val (.int p2), .val (.int sel), .unset, .unset, .unset, .unset, .unset, .unset, .unset] [])) (fun _ k => ?_) ?_
      · show Steps p.tables e below (T0.setTop (mkF m 24 #[.val (.int p0), .val (.int p1), .val (.int p2), .val (.int sel), .unset, .unset, .unset, .unset, .unset, .unset, .unset] [(.int (1 : Int32)), (.int sel)])) _
        refine XS.icmpNo X0.here hx rfl (hb hby at_24) rfl (teq hs1).2 ?_
        exact k
      obtain ⟨T1, X1, e1, st1⟩ := getS2 X0 hx hZ hown (host := "") (Or.inl (hw _ (List.mem_of_getElem? (i := 213) rfl))) Via.refl e0 (S_K1.ext O0) (g := (mkF m 27 #[.val (.int p0), .val (.int p1), .val (.int p2), .val (.int sel), .unset, .unset, .unset, .unset, .unset, .unset, .unset] [])) rfl (hb hby at_27)
      refine OEnds.st (S' := T1.setTop (mkF m 30 #[.val (.int p0), .val (.int p1), .val (.int p2), .val (.int sel), .unset, .unset, .unset, .unset, .unset, .unset, .unset] [(.ref k1)])) st1 ?_
      refine OEnds.st (S' := T1.setTop (mkF m 78 #[.val (.int p0), .val (.int p1), .val (.int p2), .val (.int sel), .val (.ref k1), .val (.int (0 : Int32)), .unset, .unset, .unset, .unset, .unset] [])) (fun _ k => ?_) ?_
      · show Steps p.tables e below (T1.setTop (mkF m 30 #[.val (.int p0), .val (.int p1), .val (.int p2), .val (.int sel), .unset, .unset, .unset, .unset, .unset, .unset, .unset] [(.ref k1)])) _
        refine XS.astore X1.here hx rfl (hb hby at_30) rfl rfl (l' := #[.val (.int p0), .val (.int p1), .val (.int p2), .val (.int sel), .val (.ref k1), .unset, .unset, .unset, .unset, .unset, .unset]) rfl ?_
        show Steps p.tables e below (T1.setTop (mkF m 32 #[.val (.int p0), .val (.int p1), .val (.int p2), .val (.int sel), .val (.ref k1), .unset, .unset, .unset, .unset, .unset, .unset] [])) _
        refine XS.iconst X1.here hx rfl (hb hby at_32) ?_
        show Steps p.tables e below (T1.setTop (mkF m 33 #[.val (.int p0), .val (.int p1), .val (.int p2), .val (.int sel), .val (.ref k1), .unset, .unset, .unset, .unset, .unset, .unset] [(.int (0 : Int32))])) _
        refine XS.istore X1.here hx rfl (hb hby at_33) rfl (l' := #[.val (.int p0), .val (.int p1), .val (.int p2), .val (.int sel), .val (.ref k1), .val (.int (0 : Int32)), .unset, .unset, .unset, .unset, .unset]) rfl ?_
        show Steps p.tables e below (T1.setTop (mkF m 35 #[.val (.int p0), .val (.int p1), .val (.int p2), .val (.int sel), .val (.ref k1), .val (.int (0 : Int32)), .unset, .unset, .unset, .unset, .unset] [])) _
        refine XS.goto X1.here hx rfl (pc0 := 35) (pc' := 78) rfl (hb hby at_35) (by decide) (by decide) ?_
        exact k
      exact sg_78 hD p0 p1 p2 sel (0 : Int32) k1 k1 O0 X1 hx hZ hby hml hown hnm hret hlk e1 N0 S_K1 (Or.inr ⟨rfl, rfl⟩)
    · refine OEnds.st (S' := T0.setTop (mkF m 40 #[.val (.int p0), .val (.int p1), .val (.int p2), .val (.int sel), .unset, .unset, .unset, .unset, .unset, .unset, .unset] [(.int (2 : Int32)), (.int sel)])) (fun _ k => ?_) ?_
      · show Steps p.tables e below (T0.setTop (mkF m 24 #[.val (.int p0), .val (.int p1), .val (.int p2), .val (.int sel), .unset, .unset, .unset, .unset, .unset, .unset, .unset] [(.int (1 : Int32)), (.int sel)])) _
        refine XS.icmpYes X0.here hx rfl (pc0 := 24) (pc' := 38) rfl (hb hby at_24) rfl (feq hs1).2 (by decide) (by decide) ?_
        show Steps p.tables e below (T0.setTop (mkF m 38 #[.val (.int p0), .val (.int p1), .val (.int p2), .val (.int sel), .unset, .unset, .unset, .unset, .unset, .unset, .unset] [])) _
        refine XS.iloadN X0.here hx rfl (hb hby at_38) rfl ?_
        show Steps p.tables e below (T0.setTop (mkF m 39 #[.val (.int p0), .val (.int p1), .val (.int p2), .val (.int sel), .unset, .unset, .unset, .unset, .unset, .unset, .unset] [(.int sel)])) _
        refine XS.iconst X0.here hx rfl (hb hby at_39) ?_
        exact k
      rcases Classical.em (sel = (2 : Int32)) with hs2 | hs2
      · refine OEnds.st (S' := T0.setTop (mkF m 43 #[.val (.int p0), .val (.int p1), .val (.int p2), .val (.int sel), .unset, .unset, .unset, .unset, .unset, .unset, .unset] [])) (fun _ k => ?_) ?_
        · show Steps p.tables e below (T0.setTop (mkF m 40 #[.val (.int p0), .val (.int p1), .val (.int p2), .val (.int sel), .unset, .unset, .unset, .unset, .unset, .unset, .unset] [(.int (2 : Int32)), (.int sel)])) _
          refine XS.icmpNo X0.here hx rfl (hb hby at_40) rfl (teq hs2).2 ?_
          exact k
        obtain ⟨T1, X1, e1, st1⟩ := getS2 X0 hx hZ hown (host := "") (Or.inl (hw _ (List.mem_of_getElem? (i := 245) rfl))) Via.refl e0 (S_K2.ext O0) (g := (mkF m 43 #[.val (.int p0), .val (.int p1), .val (.int p2), .val (.int sel), .unset, .unset, .unset, .unset, .unset, .unset, .unset] [])) rfl (hb hby at_43)
        refine OEnds.st (S' := T1.setTop (mkF m 46 #[.val (.int p0), .val (.int p1), .val (.int p2), .val (.int sel), .unset, .unset, .unset, .unset, .unset, .unset, .unset] [(.ref k2)])) st1 ?_
        refine OEnds.st (S' := T1.setTop (mkF m 78 #[.val (.int p0), .val (.int p1), .val (.int p2), .val (.int sel), .val (.ref k2), .val (.int (1 : Int32)), .unset, .unset, .unset, .unset, .unset] [])) (fun _ k => ?_) ?_
        · show Steps p.tables e below (T1.setTop (mkF m 46 #[.val (.int p0), .val (.int p1), .val (.int p2), .val (.int sel), .unset, .unset, .unset, .unset, .unset, .unset, .unset] [(.ref k2)])) _
          refine XS.astore X1.here hx rfl (hb hby at_46) rfl rfl (l' := #[.val (.int p0), .val (.int p1), .val (.int p2), .val (.int sel), .val (.ref k2), .unset, .unset, .unset, .unset, .unset, .unset]) rfl ?_
          show Steps p.tables e below (T1.setTop (mkF m 48 #[.val (.int p0), .val (.int p1), .val (.int p2), .val (.int sel), .val (.ref k2), .unset, .unset, .unset, .unset, .unset, .unset] [])) _
          refine XS.iconst X1.here hx rfl (hb hby at_48) ?_
          show Steps p.tables e below (T1.setTop (mkF m 49 #[.val (.int p0), .val (.int p1), .val (.int p2), .val (.int sel), .val (.ref k2), .unset, .unset, .unset, .unset, .unset, .unset] [(.int (1 : Int32))])) _
          refine XS.istore X1.here hx rfl (hb hby at_49) rfl (l' := #[.val (.int p0), .val (.int p1), .val (.int p2), .val (.int sel), .val (.ref k2), .val (.int (1 : Int32)), .unset, .unset, .unset, .unset, .unset]) rfl ?_
          show Steps p.tables e below (T1.setTop (mkF m 51 #[.val (.int p0), .val (.int p1), .val (.int p2), .val (.int sel), .val (.ref k2), .val (.int (1 : Int32)), .unset, .unset, .unset, .unset, .unset] [])) _
          refine XS.goto X1.here hx rfl (pc0 := 51) (pc' := 78) rfl (hb hby at_51) (by decide) (by decide) ?_
          exact k
        exact sg_78 hD p0 p1 p2 sel (1 : Int32) k2 k1 O0 X1 hx hZ hby hml hown hnm hret hlk e1 N0 S_K1 (Or.inl ⟨rfl, kn2⟩)
      · refine OEnds.st (S' := T0.setTop (mkF m 56 #[.val (.int p0), .val (.int p1), .val (.int p2), .val (.int sel), .unset, .unset, .unset, .unset, .unset, .unset, .unset] [(.int (3 : Int32)), (.int sel)])) (fun _ k => ?_) ?_
        · show Steps p.tables e below (T0.setTop (mkF m 40 #[.val (.int p0), .val (.int p1), .val (.int p2), .val (.int sel), .unset, .unset, .unset, .unset, .unset, .unset, .unset] [(.int (2 : Int32)), (.int sel)])) _
          refine XS.icmpYes X0.here hx rfl (pc0 := 40) (pc' := 54) rfl (hb hby at_40) rfl (feq hs2).2 (by decide) (by decide) ?_
          show Steps p.tables e below (T0.setTop (mkF m 54 #[.val (.int p0), .val (.int p1), .val (.int p2), .val (.int sel), .unset, .unset, .unset, .unset, .unset, .unset, .unset] [])) _
          refine XS.iloadN X0.here hx rfl (hb hby at_54) rfl ?_
          show Steps p.tables e below (T0.setTop (mkF m 55 #[.val (.int p0), .val (.int p1), .val (.int p2), .val (.int sel), .unset, .unset, .unset, .unset, .unset, .unset, .unset] [(.int sel)])) _
          refine XS.iconst X0.here hx rfl (hb hby at_55) ?_
          exact k
        rcases Classical.em (sel = (3 : Int32)) with hs3 | hs3
        · refine OEnds.st (S' := T0.setTop (mkF m 59 #[.val (.int p0), .val (.int p1), .val (.int p2), .val (.int sel), .unset, .unset, .unset, .unset, .unset, .unset, .unset] [])) (fun _ k => ?_) ?_
          · show Steps p.tables e below (T0.setTop (mkF m 56 #[.val (.int p0), .val (.int p1), .val (.int p2), .val (.int sel), .unset, .unset, .unset, .unset, .unset, .unset, .unset] [(.int (3 : Int32)), (.int sel)])) _
            refine XS.icmpNo X0.here hx rfl (hb hby at_56) rfl (teq hs3).2 ?_
            exact k
          obtain ⟨T1, X1, e1, st1⟩ := getS2 X0 hx hZ hown (host := "") (Or.inl (hw _ (List.mem_of_getElem? (i := 239) rfl))) Via.refl e0 (S_K3.ext O0) (g := (mkF m 59 #[.val (.int p0), .val (.int p1), .val (.int p2), .val (.int sel), .unset, .unset, .unset, .unset, .unset, .unset, .unset] [])) rfl (hb hby at_59)
          refine OEnds.st (S' := T1.setTop (mkF m 62 #[.val (.int p0), .val (.int p1), .val (.int p2), .val (.int sel), .unset, .unset, .unset, .unset, .unset, .unset, .unset] [(.ref k3)])) st1 ?_
          refine OEnds.st (S' := T1.setTop (mkF m 78 #[.val (.int p0), .val (.int p1), .val (.int p2), .val (.int sel), .val (.ref k3), .val (.int (1 : Int32)), .unset, .unset, .unset, .unset, .unset] [])) (fun _ k => ?_) ?_
          · show Steps p.tables e below (T1.setTop (mkF m 62 #[.val (.int p0), .val (.int p1), .val (.int p2), .val (.int sel), .unset, .unset, .unset, .unset, .unset, .unset, .unset] [(.ref k3)])) _
            refine XS.astore X1.here hx rfl (hb hby at_62) rfl rfl (l' := #[.val (.int p0), .val (.int p1), .val (.int p2), .val (.int sel), .val (.ref k3), .unset, .unset, .unset, .unset, .unset, .unset]) rfl ?_
            show Steps p.tables e below (T1.setTop (mkF m 64 #[.val (.int p0), .val (.int p1), .val (.int p2), .val (.int sel), .val (.ref k3), .unset, .unset, .unset, .unset, .unset, .unset] [])) _
            refine XS.iconst X1.here hx rfl (hb hby at_64) ?_
            show Steps p.tables e below (T1.setTop (mkF m 65 #[.val (.int p0), .val (.int p1), .val (.int p2), .val (.int sel), .val (.ref k3), .unset, .unset, .unset, .unset, .unset, .unset] [(.int (1 : Int32))])) _
            refine XS.istore X1.here hx rfl (hb hby at_65) rfl (l' := #[.val (.int p0), .val (.int p1), .val (.int p2), .val (.int sel), .val (.ref k3), .val (.int (1 : Int32)), .unset, .unset, .unset, .unset, .unset]) rfl ?_
            show Steps p.tables e below (T1.setTop (mkF m 67 #[.val (.int p0), .val (.int p1), .val (.int p2), .val (.int sel), .val (.ref k3), .val (.int (1 : Int32)), .unset, .unset, .unset, .unset, .unset] [])) _
            refine XS.goto X1.here hx rfl (pc0 := 67) (pc' := 78) rfl (hb hby at_67) (by decide) (by decide) ?_
            exact k
          exact sg_78 hD p0 p1 p2 sel (1 : Int32) k3 k1 O0 X1 hx hZ hby hml hown hnm hret hlk e1 N0 S_K1 (Or.inl ⟨rfl, kn3⟩)
        · refine OEnds.st (S' := T0.setTop (mkF m 70 #[.val (.int p0), .val (.int p1), .val (.int p2), .val (.int sel), .unset, .unset, .unset, .unset, .unset, .unset, .unset] [])) (fun _ k => ?_) ?_
          · show Steps p.tables e below (T0.setTop (mkF m 56 #[.val (.int p0), .val (.int p1), .val (.int p2), .val (.int sel), .unset, .unset, .unset, .unset, .unset, .unset, .unset] [(.int (3 : Int32)), (.int sel)])) _
            refine XS.icmpYes X0.here hx rfl (pc0 := 56) (pc' := 70) rfl (hb hby at_56) rfl (feq hs3).2 (by decide) (by decide) ?_
            exact k
          obtain ⟨T1, X1, e1, st1⟩ := getS2 X0 hx hZ hown (host := "") (Or.inl (hw _ (List.mem_of_getElem? (i := 233) rfl))) Via.refl e0 (S_K4.ext O0) (g := (mkF m 70 #[.val (.int p0), .val (.int p1), .val (.int p2), .val (.int sel), .unset, .unset, .unset, .unset, .unset, .unset, .unset] [])) rfl (hb hby at_70)
          refine OEnds.st (S' := T1.setTop (mkF m 73 #[.val (.int p0), .val (.int p1), .val (.int p2), .val (.int sel), .unset, .unset, .unset, .unset, .unset, .unset, .unset] [(.ref k4)])) st1 ?_
          refine OEnds.st (S' := T1.setTop (mkF m 78 #[.val (.int p0), .val (.int p1), .val (.int p2), .val (.int sel), .val (.ref k4), .val (.int (1 : Int32)), .unset, .unset, .unset, .unset, .unset] [])) (fun _ k => ?_) ?_
          · show Steps p.tables e below (T1.setTop (mkF m 73 #[.val (.int p0), .val (.int p1), .val (.int p2), .val (.int sel), .unset, .unset, .unset, .unset, .unset, .unset, .unset] [(.ref k4)])) _
            refine XS.astore X1.here hx rfl (hb hby at_73) rfl rfl (l' := #[.val (.int p0), .val (.int p1), .val (.int p2), .val (.int sel), .val (.ref k4), .unset, .unset, .unset, .unset, .unset, .unset]) rfl ?_
            show Steps p.tables e below (T1.setTop (mkF m 75 #[.val (.int p0), .val (.int p1), .val (.int p2), .val (.int sel), .val (.ref k4), .unset, .unset, .unset, .unset, .unset, .unset] [])) _
            refine XS.iconst X1.here hx rfl (hb hby at_75) ?_
            show Steps p.tables e below (T1.setTop (mkF m 76 #[.val (.int p0), .val (.int p1), .val (.int p2), .val (.int sel), .val (.ref k4), .unset, .unset, .unset, .unset, .unset, .unset] [(.int (1 : Int32))])) _
            refine XS.istore X1.here hx rfl (hb hby at_76) rfl (l' := #[.val (.int p0), .val (.int p1), .val (.int p2), .val (.int sel), .val (.ref k4), .val (.int (1 : Int32)), .unset, .unset, .unset, .unset, .unset]) rfl ?_
            exact k
          exact sg_78 hD p0 p1 p2 sel (1 : Int32) k4 k1 O0 X1 hx hZ hby hml hown hnm hret hlk e1 N0 S_K1 (Or.inl ⟨rfl, kn4⟩)
set_option maxRecDepth 65536 in
set_option maxHeartbeats 40000000 in
theorem comes_1 {Post : Tables → Env → Array Value → State → Outcome → State → Prop} (hpost : ∀ tb e args s v u, (limb_1_1.after args s (.returned v) u = true ∧ limb_1_2.after args s (.returned v) u = true ∧ True) → FrameEnd s (.returned v) u (Jvm.fieldLocs frame_1_writes args s ++ Jvm.arrayLocs frame_1_arrays args s ++ Jvm.staticLocs frame_1_statics s) 40 192 → Post tb e args s (.returned v) u) :
    ArmFor flags0 classFile x code maxLocals ret World_1 tables_1 room_1 Calls_1 rest_1 Pre_1 Post := by
  intro l hfl _ _ p e ha hc hk s m args below hf hA hF happ hP
  obtain ⟨hcalls, hrest, hpre⟩ := hP
  obtain ⟨-, -, -, hnamed, -, -, -, hat⟩ := (Spec.applies_iff hf).mp happ
  obtain ⟨hg, hn⟩ := and_e (Cond.before_iff.mp (show (Jvm.Cond.and given_1 narrow_1).before args s = true from hpre))
  obtain ⟨g0, g1⟩ := and_e hg
  obtain ⟨ga0, g2⟩ := and_e g1
  obtain ⟨ga1, g3⟩ := and_e g2
  obtain ⟨w0, w1, w2, rfl⟩ : ∃ w0 w1 w2 : Value, args = #[w0, w1, w2] := by
    have hs : args.size = 3 := by simpa [Cond.value, given_1] using g0
    obtain ⟨L⟩ := args
    match L, hs with
    | [w0, w1, w2], _ => exact ⟨w0, w1, w2, rfl⟩
  have hw := fun d (hd : d ∈ tables_1) => atoms_spec (ws := Jvm.Cond.code x code maxLocals ret :: tables_1) hat d (List.mem_cons_of_mem _ hd)
  have hfit : Fit s := fun {y c} hc i hi => by
    obtain ⟨ha, rfl⟩ := Array.getElem?_eq_some_iff.mp hc
    have q := List.all_eq_true.mp ((Array.all_eq_true_iff_forall_mem.mp hF) _ (Array.getElem_mem ha)) i (List.mem_range.mpr hi)
    simpa [Array.getElem?_eq_getElem hi] using q
  obtain ⟨hsets, hown0⟩ := atoms_of _ (rest_1_c_eq ▸ (show rest_1_c.before _ s = true from hrest))
  obtain ⟨i0, ei0⟩ := is_v ga0
  obtain rfl : w0 = (.int i0) := Option.some.inj ei0
  obtain ⟨i1, ei1⟩ := is_v ga1
  obtain rfl : w1 = (.int i1) := Option.some.inj ei1
  obtain ⟨i2, ei2⟩ := is_v g3
  obtain rfl : w2 = (.int i2) := Option.some.inj ei2
  obtain ⟨cz, ecz⟩ := is_v (Cond.before_iff.mp (hsets _ (List.mem_of_getElem? (i := 1) rfl)))
  have S_CS : Sta s s.heap "java/lang/String" "COMPACT_STRINGS" "Z" (.int cz) := Sta.start ecz (Or.inl (hsets _ (List.mem_of_getElem? (i := 0) rfl)))
  have hcz : ¬ (cz = (0 : Int32)) := gotF (Cond.eq_ints ecz (Term.int_eval (0))) (not_v (Cond.before_iff.mp (hsets _ (List.mem_of_getElem? (i := 2) rfl))))
  obtain ⟨nj0, nr0⟩ := and_e hn
  obtain ⟨nj1, nr1⟩ := and_e nr0
  obtain ⟨nj2, nr2⟩ := and_e nr1
  obtain ⟨nj3, nr3⟩ := and_e nr2
  obtain ⟨nj4, nr4⟩ := and_e nr3
  obtain ⟨nj5, nr5⟩ := and_e nr4
  obtain ⟨nj6, nr6⟩ := and_e nr5
  obtain ⟨nj7, nr7⟩ := and_e nr6
  obtain ⟨nj8, nr8⟩ := and_e nr7
  have nj9 := nr8
  obtain ⟨k0, ek0⟩ := exa_v nj0
  have S_K0 : Sta s s.heap "com/example/gridtally/gridtally/determinant/Column$Kind" "DECIMAL" "Lcom/example/gridtally/gridtally/determinant/Column$Kind;" (.ref k0) := Sta.start ek0 (Or.inr ⟨hw _ (List.mem_of_getElem? (i := 2) rfl), hw _ (List.mem_of_getElem? (i := 3) rfl)⟩)
  have F_K0 : Fld s s.heap k0 "java/lang/Enum" "ordinal" "I" (.int 0) := Fld.start ((fld_at ek0).symm.trans (Cond.eq_int (Cond.before_iff.mpr nj2) rfl))
  obtain ⟨k1, ek1⟩ := exa_v nj1
  have S_K1 : Sta s s.heap "com/example/gridtally/gridtally/determinant/Column$Kind" "OPTIONAL_DECIMAL" "Lcom/example/gridtally/gridtally/determinant/Column$Kind;" (.ref k1) := Sta.start ek1 (Or.inr ⟨hw _ (List.mem_of_getElem? (i := 2) rfl), hw _ (List.mem_of_getElem? (i := 212) rfl)⟩)
  have F_K1 : Fld s s.heap k1 "java/lang/Enum" "ordinal" "I" (.int 1) := Fld.start ((fld_at ek1).symm.trans (Cond.eq_int (Cond.before_iff.mpr nj3) rfl))
  obtain ⟨k2, ek2⟩ := exa_v nj8
  have S_K2 : Sta s s.heap "com/example/gridtally/gridtally/determinant/Column$Kind" "YES_NO" "Lcom/example/gridtally/gridtally/determinant/Column$Kind;" (.ref k2) := Sta.start ek2 (Or.inr ⟨hw _ (List.mem_of_getElem? (i := 2) rfl), hw _ (List.mem_of_getElem? (i := 246) rfl)⟩)
  have F_K2 : Fld s s.heap k2 "java/lang/Enum" "ordinal" "I" (.int 2) := Fld.start ((fld_at ek2).symm.trans (Cond.eq_int (Cond.before_iff.mpr nj9) rfl))
  obtain ⟨k3, ek3⟩ := exa_v nj6
  have S_K3 : Sta s s.heap "com/example/gridtally/gridtally/determinant/Column$Kind" "TEXT" "Lcom/example/gridtally/gridtally/determinant/Column$Kind;" (.ref k3) := Sta.start ek3 (Or.inr ⟨hw _ (List.mem_of_getElem? (i := 2) rfl), hw _ (List.mem_of_getElem? (i := 240) rfl)⟩)
  have F_K3 : Fld s s.heap k3 "java/lang/Enum" "ordinal" "I" (.int 3) := Fld.start ((fld_at ek3).symm.trans (Cond.eq_int (Cond.before_iff.mpr nj7) rfl))
  obtain ⟨k4, ek4⟩ := exa_v nj4
  have S_K4 : Sta s s.heap "com/example/gridtally/gridtally/determinant/Column$Kind" "KEY" "Lcom/example/gridtally/gridtally/determinant/Column$Kind;" (.ref k4) := Sta.start ek4 (Or.inr ⟨hw _ (List.mem_of_getElem? (i := 2) rfl), hw _ (List.mem_of_getElem? (i := 234) rfl)⟩)
  have F_K4 : Fld s s.heap k4 "java/lang/Enum" "ordinal" "I" (.int 4) := Fld.start ((fld_at ek4).symm.trans (Cond.eq_int (Cond.before_iff.mpr nj5) rfl))
  have kn0 : k0 ≠ k1 := F_K0.ne F_K1 (by decide)
  have kn2 : k2 ≠ k1 := F_K2.ne F_K1 (by decide)
  have kn3 : k3 ≠ k1 := F_K3.ne F_K1 (by decide)
  have kn4 : k4 ≠ k1 := F_K4.ne F_K1 (by decide)
  obtain ⟨xde, ede⟩ := arr_v (Cond.before_iff.mp (hsets _ (List.mem_of_getElem? (i := 15) rfl)))
  have S_DE : Sta s s.heap "java/util/ArrayList" "DEFAULTCAPACITY_EMPTY_ELEMENTDATA" "[Ljava/lang/Object;" (.ref xde) := Sta.start ede (Or.inr ⟨hw _ (List.mem_of_getElem? (i := 36) rfl), (hsets _ (List.mem_of_getElem? (i := 11) rfl))⟩)
  obtain ⟨cde, Ade⟩ := Arr.start ede (Cond.before_iff.mp (hsets _ (List.mem_of_getElem? (i := 15) rfl)))
  have V_DE : Arv s s.heap xde cde.cls (.object "java/lang/Object") (0 : Int32) [] .null := arv_empty hfit Ade ede (Cond.eq_int (hsets _ (List.mem_of_getElem? (i := 17) rfl)) rfl)
  obtain ⟨aEM, eEM⟩ := exa_v (Cond.before_iff.mp (hsets _ (List.mem_of_getElem? (i := 20) rfl)))
  have S_EM : Sta s s.heap "java/util/ImmutableCollections" "EMPTY" "Ljava/lang/Object;" (.ref aEM) := Sta.start eEM (Or.inl (hsets _ (List.mem_of_getElem? (i := 19) rfl)))
  obtain ⟨aEL, eEL⟩ := exa_v (Cond.before_iff.mp (hsets _ (List.mem_of_getElem? (i := 26) rfl)))
  have S_EL : Sta s s.heap "java/util/ImmutableCollections" "EMPTY_LIST" "Ljava/util/ImmutableCollections$ListN;" (.ref aEL) := Sta.start eEL (Or.inl (hsets _ (List.mem_of_getElem? (i := 25) rfl)))
  obtain ⟨⟨cO, kO, mrO, mir1, mir2, mir3, -⟩, -⟩ := hcalls
  have hD : Wd s _ := ⟨hw, ⟨cz, S_CS, hcz⟩, ⟨xde, _, S_DE, V_DE⟩, ⟨aEM, S_EM⟩, ⟨aEL, S_EL⟩, ⟨cO, kO, mrO, mir1, mir2, mir3⟩, ⟨k0, k1, k2, k3, k4, S_K0, S_K1, S_K2, S_K3, S_K4, kn0, kn2, kn3, kn4⟩⟩
  obtain ⟨n, o, h1, h2, h3, _, L, rfl, ⟨rfl, N⟩, hq⟩ := rm_law l hD i0 i1 i2 (ext_refl s.heap) p e ha hc hk s m _ below hf ((Spec.applies_iff_loose hf).mp happ).1 ⟨rfl, State.Warmed39.refl s, rfl⟩ trivial
  refine ⟨n, _, h1, h2, h3, hpost _ _ _ _ _ _ ⟨Cond.after_iff.mpr rfl, Cond.after_iff.mpr (eq_i res_at (Term.int_eval (1)) rfl), trivial⟩ ⟨hq.1, hq.2.1, (hq.2.2.sift fun y hy => Or.inr (N y hy)).mono (by decide) (by decide)⟩⟩
theorem main_1_1 : Claimed_1_1 := comes_1 fun _ _ _ _ _ _ h hF => ⟨h.1, hF⟩
theorem main_1_2 : Claimed_1_2 := comes_1 fun _ _ _ _ _ _ h hF => ⟨h.2.1, hF⟩
end Jvm.Pilot.@@N@@
namespace Jvm.Pilot.@@N@@
open Jvm Jvm.ClassFile Sem Op Lib Jvm.Free Jvm.Stand Jvm.Pilot.@@N@@.Jvm.D
/-! MADE BY PROGRAM (witnessworld.py) out of the Statement's table words and the real class files: 41 classes; the members and pool entries that the words name. The judged class is class 1, her method 1. -/
namespace start1
open Jvm.ClassFile
def u (s : String) : CpInfo := .utf8 (stringToUtf16 s)
/-- a pool by its gaps: so many unusable entries, then the entry; so many at the end -/
def gap : Nat → List CpInfo → List CpInfo
  | 0, r => r
  | n + 1, r => .unusable :: gap n r
def poolList (es : List (Nat × CpInfo)) (last : Nat) : List CpInfo := es.foldr (fun e r => gap e.1 (e.2 :: r)) (gap last [])
def pool (es : List (Nat × CpInfo)) (last : Nat) : Array CpInfo := ⟨poolList es last⟩
def fileOf (pool : Array CpInfo) (this : Nat) (attrs : Array Attribute := #[]) (ms : Array MethodInfo := #[]) (fl : Nat := 33) (sup : Nat := 0) (ifs : Array Nat := #[]) (fds : Array FieldInfo := #[]) : ClassFile where
  minorVersion := 0
  majorVersion := 65
  constantPool := pool
  accessFlags := fl
  thisClass := this
  superClass := sup
  interfaces := ifs
  fields := fds
  methods := ms
  attributes := attrs
def plain (name : String) (sup : Option ClassId) : Class where
  name := name
  kind := .ordinary
  loader := none
  accessFlags := 33
  super := sup
  interfaces := #[]
  cf := none
  fields := #[]
  methods := #[]
  instanceTypes := #[]
  staticTypes := #[]
  resolved := #[]
  callSites := []
  init := .initialized
  statics := none
  mirror := none

def pool0 : Array CpInfo := pool [(5, u "<init>"), (0, u "()V"), (1, .class_ 10), (1, u "java/lang/Object"), (0, u "getClass"), (0, u "()Ljava/lang/Class;")] 111

def k0c0 : Code := { maxStack := 0, maxLocals := 1, code := object_method_1_code, exceptionTable := #[], attributes := #[] }
def k0m0 : Method := { name := "<init>", desc := "()V", sig := { parameters := [], returnType := none }, accessFlags := 1, code := some k0c0 }
def k0m1 : Method := { name := "getClass", desc := "()Ljava/lang/Class;", sig := { parameters := [], returnType := some (.object "java/lang/Class") }, accessFlags := 273, code := none }
/-- java/lang/Object -/
def k0 : Class := { plain "java/lang/Object" none with
  accessFlags := 33
  interfaces := #[]
  cf := some (fileOf pool0 8 #[] #[{ accessFlags := 1, nameIndex := 5, descriptorIndex := 6, attributes := #[] }, { accessFlags := 273, nameIndex := 11, descriptorIndex := 12, attributes := #[] }] 33 0 #[] #[])
  fields := #[]
  methods := #[k0m0, k0m1]
  instanceTypes := #[]
  staticTypes := #[]
  resolved := Array.replicate 124 none
  statics := none }

def pool1 : Array CpInfo := pool [(2, .class_ 4), (0, .nameAndType 5 6), (0, u "java/lang/Object"), (0, u "<init>"), (0, u "()V"), (0, .integer 2147483647), (0, .fieldref 9 10), (0, .class_ 11), (0, .nameAndType 12 13), (0, u "com/example/gridtally/gridtally/determinant/Column$Kind"), (0, u "DECIMAL"), (0, u "Lcom/example/gridtally/gridtally/determinant/Column$Kind;"), (0, .fieldref 9 15), (0, .nameAndType 16 13), (0, u "OPTIONAL_DECIMAL"), (0, .fieldref 9 18), (0, .nameAndType 19 13), (0, u "YES_NO"), (0, .fieldref 9 21), (0, .nameAndType 22 13), (0, u "TEXT"), (0, .fieldref 9 24), (0, .nameAndType 25 13), (0, u "KEY"), (0, .class_ 27), (0, u "java/lang/String"), (0, .methodref 26 29), (0, .nameAndType 5 30), (0, u "([C)V"), (0, .class_ 32), (0, u "java/util/ArrayList"), (0, .methodref 31 3), (0, .methodref 26 35), (0, .nameAndType 36 37), (0, u "valueOf"), (0, u "(C)Ljava/lang/String;"), (0, .methodref 31 39), (0, .nameAndType 40 41), (0, u "add"), (0, u "(Ljava/lang/Object;)Z"), (0, .class_ 43), (0, u "com/example/gridtally/gridtally/determinant/Column"), (0, .methodref 42 45), (0, .nameAndType 5 46), (0, u "(Ljava/lang/String;Lcom/example/gridtally/gridtally/determinant/Column$Kind;Ljava/util/List;)V"), (0, .methodref 42 48), (0, .nameAndType 49 50), (0, u "required"), (0, u "()Z"), (0, .class_ 52), (0, u "com/example/gridtally/gridtally/determinant/ColumnRequiredPinLaw"), (2, u "law"), (0, u "(III)Z")] 7

def k1m0 : Method := { name := "<init>", desc := "()V", sig := { parameters := [], returnType := none }, accessFlags := 1, code := none }
def k1c1 : Code := { maxStack := 5, maxLocals := 11, code := code, exceptionTable := #[], attributes := #[] }
def k1m1 : Method := { name := "law", desc := "(III)Z", sig := { parameters := [.int, .int, .int], returnType := some .boolean }, accessFlags := 9, code := some k1c1 }
/-- com/example/gridtally/gridtally/determinant/ColumnRequiredPinLaw -/
def k1 : Class := { plain "com/example/gridtally/gridtally/determinant/ColumnRequiredPinLaw" (some 0) with
  accessFlags := 49
  interfaces := #[]
  cf := some (fileOf pool1 51 #[] #[{ accessFlags := 1, nameIndex := 5, descriptorIndex := 6, attributes := #[] }, { accessFlags := 9, nameIndex := 55, descriptorIndex := 56, attributes := #[] }] 49 2 #[] #[])
  fields := #[]
  methods := #[k1m0, k1m1]
  instanceTypes := #[]
  staticTypes := #[]
  resolved := Array.replicate 64 none
  statics := none }

def pool2 : Array CpInfo := pool [(1, .class_ 2), (0, u "java/lang/constant/Constable"), (0, .class_ 4), (0, u "java/lang/Object")] 6

/-- java/lang/constant/Constable -/
def k2 : Class := { plain "java/lang/constant/Constable" (some 0) with
  accessFlags := 1537
  interfaces := #[]
  cf := some (fileOf pool2 1 #[] #[] 1537 3 #[] #[])
  fields := #[]
  methods := #[]
  instanceTypes := #[]
  staticTypes := #[]
  resolved := Array.replicate 11 none
  statics := none }

def pool3 : Array CpInfo := pool [(1, .class_ 2), (0, u "java/lang/Comparable"), (0, .class_ 4), (0, u "java/lang/Object")] 7

/-- java/lang/Comparable -/
def k3 : Class := { plain "java/lang/Comparable" (some 0) with
  accessFlags := 1537
  interfaces := #[]
  cf := some (fileOf pool3 1 #[] #[] 1537 3 #[] #[])
  fields := #[]
  methods := #[]
  instanceTypes := #[]
  staticTypes := #[]
  resolved := Array.replicate 12 none
  statics := none }

def pool4 : Array CpInfo := pool [(1, .class_ 2), (0, u "java/io/Serializable"), (0, .class_ 4), (0, u "java/lang/Object")] 2

/-- java/io/Serializable -/
def k4 : Class := { plain "java/io/Serializable" (some 0) with
  accessFlags := 1537
  interfaces := #[]
  cf := some (fileOf pool4 1 #[] #[] 1537 3 #[] #[])
  fields := #[]
  methods := #[]
  instanceTypes := #[]
  staticTypes := #[]
  resolved := Array.replicate 7 none
  statics := none }

def pool5 : Array CpInfo := pool [(2, .class_ 4), (1, u "java/lang/Enum"), (0, u "name"), (0, u "Ljava/lang/String;"), (2, u "ordinal"), (0, u "I"), (1, .class_ 14), (1, u "java/lang/Object"), (4, u "hash"), (86, .class_ 108), (1, u "java/lang/Enum$EnumDesc"), (2, .class_ 112), (0, u "java/lang/constant/Constable"), (0, .class_ 114), (0, u "java/lang/Comparable"), (0, .class_ 116), (0, u "java/io/Serializable")] 87

/-- java/lang/Enum -/
def k5 : Class := { plain "java/lang/Enum" (some 0) with
  accessFlags := 1057
  interfaces := #[2, 3, 4]
  cf := some (fileOf pool5 2 #[.nestMembers #[106]] #[] 1057 12 #[111, 113, 115] #[{ accessFlags := 18, nameIndex := 5, descriptorIndex := 6, attributes := #[] }, { accessFlags := 18, nameIndex := 9, descriptorIndex := 10, attributes := #[] }, { accessFlags := 2, nameIndex := 19, descriptorIndex := 10, attributes := #[] }])
  fields := #[{ name := "name", type := (.object "java/lang/String"), accessFlags := 18, slot := 0, constantValue := 0 }, { name := "ordinal", type := .int, accessFlags := 18, slot := 1, constantValue := 0 }, { name := "hash", type := .int, accessFlags := 2, slot := 2, constantValue := 0 }]
  methods := #[]
  instanceTypes := #[(.object "java/lang/String"), .int, .int]
  staticTypes := #[]
  resolved := Array.replicate 204 none
  statics := none }

def pool6 : Array CpInfo := pool [(1, .class_ 2), (0, u "com/example/gridtally/gridtally/determinant/Column$Kind"), (2, u "DECIMAL"), (0, u "Lcom/example/gridtally/gridtally/determinant/Column$Kind;"), (2, u "OPTIONAL_DECIMAL"), (2, u "YES_NO"), (2, u "TEXT"), (2, u "KEY"), (2, u "$VALUES"), (0, u "[Lcom/example/gridtally/gridtally/determinant/Column$Kind;"), (6, .class_ 31), (1, u "java/lang/Enum"), (28, .class_ 61), (0, u "com/example/gridtally/gridtally/determinant/Column")] 2

/-- com/example/gridtally/gridtally/determinant/Column$Kind -/
def k6 : Class := { plain "com/example/gridtally/gridtally/determinant/Column$Kind" (some 5) with
  accessFlags := 16433
  interfaces := #[]
  cf := some (fileOf pool6 1 #[.nestHost 60] #[] 16433 29 #[] #[{ accessFlags := 16409, nameIndex := 5, descriptorIndex := 6, attributes := #[] }, { accessFlags := 16409, nameIndex := 9, descriptorIndex := 6, attributes := #[] }, { accessFlags := 16409, nameIndex := 12, descriptorIndex := 6, attributes := #[] }, { accessFlags := 16409, nameIndex := 15, descriptorIndex := 6, attributes := #[] }, { accessFlags := 16409, nameIndex := 18, descriptorIndex := 6, attributes := #[] }, { accessFlags := 4122, nameIndex := 21, descriptorIndex := 22, attributes := #[] }])
  fields := #[{ name := "DECIMAL", type := (.object "com/example/gridtally/gridtally/determinant/Column$Kind"), accessFlags := 16409, slot := 0, constantValue := 0 }, { name := "OPTIONAL_DECIMAL", type := (.object "com/example/gridtally/gridtally/determinant/Column$Kind"), accessFlags := 16409, slot := 1, constantValue := 0 }, { name := "YES_NO", type := (.object "com/example/gridtally/gridtally/determinant/Column$Kind"), accessFlags := 16409, slot := 2, constantValue := 0 }, { name := "TEXT", type := (.object "com/example/gridtally/gridtally/determinant/Column$Kind"), accessFlags := 16409, slot := 3, constantValue := 0 }, { name := "KEY", type := (.object "com/example/gridtally/gridtally/determinant/Column$Kind"), accessFlags := 16409, slot := 4, constantValue := 0 }, { name := "$VALUES", type := (.array (.object "com/example/gridtally/gridtally/determinant/Column$Kind")), accessFlags := 4122, slot := 5, constantValue := 0 }]
  methods := #[]
  instanceTypes := #[(.object "java/lang/String"), .int, .int]
  staticTypes := #[(.object "com/example/gridtally/gridtally/determinant/Column$Kind"), (.object "com/example/gridtally/gridtally/determinant/Column$Kind"), (.object "com/example/gridtally/gridtally/determinant/Column$Kind"), (.object "com/example/gridtally/gridtally/determinant/Column$Kind"), (.object "com/example/gridtally/gridtally/determinant/Column$Kind"), (.array (.object "com/example/gridtally/gridtally/determinant/Column$Kind"))]
  resolved := Array.replicate 64 none
  statics := some 0 }

def pool7 : Array CpInfo := pool [(2, .class_ 4), (1, u "java/lang/CharSequence"), (42, .class_ 48), (0, u "java/lang/CharSequence$1CodePointIterator"), (10, .class_ 60), (0, u "java/lang/CharSequence$1CharIterator"), (5, .class_ 67), (0, u "java/lang/Object")] 63

/-- java/lang/CharSequence -/
def k7 : Class := { plain "java/lang/CharSequence" (some 0) with
  accessFlags := 1537
  interfaces := #[]
  cf := some (fileOf pool7 2 #[.nestMembers #[47, 59]] #[] 1537 66 #[] #[])
  fields := #[]
  methods := #[]
  instanceTypes := #[]
  staticTypes := #[]
  resolved := Array.replicate 131 none
  statics := none }

def pool8 : Array CpInfo := pool [(1, .class_ 2), (0, u "java/lang/constant/ConstantDesc"), (0, .class_ 4), (0, u "java/lang/Object")] 32

/-- java/lang/constant/ConstantDesc -/
def k8 : Class := { plain "java/lang/constant/ConstantDesc" (some 0) with
  accessFlags := 1537
  interfaces := #[]
  cf := some (fileOf pool8 1 #[] #[] 1537 3 #[] #[])
  fields := #[]
  methods := #[]
  instanceTypes := #[]
  staticTypes := #[]
  resolved := Array.replicate 37 none
  statics := none }

def pool9 : Array CpInfo := pool [(1, .methodref 2 3), (0, .class_ 4), (0, .nameAndType 5 6), (0, u "java/lang/Object"), (0, u "<init>"), (0, u "()V"), (2, .fieldref 10 11), (0, .class_ 12), (0, .nameAndType 13 14), (0, u "java/lang/String"), (0, u "value"), (0, u "[B"), (0, .fieldref 10 16), (0, .nameAndType 17 18), (0, u "coder"), (0, u "B"), (2, u "hash"), (0, u "I"), (2, u "hashIsZero"), (0, u "Z"), (0, .methodref 10 28), (0, .nameAndType 5 29), (0, u "([CIILjava/lang/Void;)V"), (8, .fieldref 10 39), (0, .nameAndType 40 26), (0, u "COMPACT_STRINGS"), (1, .class_ 44), (1, u "java/lang/StringUTF16"), (0, u "compress"), (1, .methodref 42 48), (0, .nameAndType 49 50), (0, u "coderFromArrayLen"), (0, u "([BI)B"), (2, u "toBytes"), (53, .class_ 109), (1, u "java/lang/StringLatin1"), (67, .methodref 42 178), (0, .nameAndType 45 179), (0, u "([CII)[B"), (29, .methodref 10 210), (0, .nameAndType 5 211), (0, u "([BB)V"), (157, u "(C)Z"), (205, .class_ 576), (0, u "java/lang/CharSequence"), (22, u "CASE_INSENSITIVE_ORDER"), (0, u "Ljava/util/Comparator;"), (181, u "valueOf"), (0, u "(C)Ljava/lang/String;"), (226, u "([C)V"), (4, .methodref 107 1016), (0, .nameAndType 1017 369), (0, u "canEncode"), (0, .methodref 107 1019), (0, .nameAndType 53 1020), (0, u "(C)[B"), (80, u "serialPersistentFields"), (0, u "[Ljava/io/ObjectStreamField;"), (0, .class_ 1104), (0, u "java/lang/String$CaseInsensitiveComparator"), (1, .class_ 1107), (0, u "java/io/Serializable"), (0, .class_ 1109), (0, u "java/lang/Comparable"), (0, .class_ 1111), (0, u "java/lang/constant/Constable"), (0, .class_ 1113), (0, u "java/lang/constant/ConstantDesc"), (2, u "serialVersionUID"), (0, u "J"), (3, u "REPL"), (0, u "C"), (2, u "LATIN1"), (1, u "UTF16")] 323

def k9m0 : Method := { name := "<init>", desc := "()V", sig := { parameters := [], returnType := none }, accessFlags := 1, code := none }
def k9c1 : Code := { maxStack := 5, maxLocals := 2, code := jdk_42_method_3_code, exceptionTable := #[], attributes := #[] }
def k9m1 : Method := { name := "<init>", desc := "([C)V", sig := { parameters := [(.array .char)], returnType := none }, accessFlags := 1, code := some k9c1 }
def k9c2 : Code := { maxStack := 4, maxLocals := 1, code := jdk_42_method_139_code, exceptionTable := #[], attributes := #[] }
def k9m2 : Method := { name := "valueOf", desc := "(C)Ljava/lang/String;", sig := { parameters := [.char], returnType := some (.object "java/lang/String") }, accessFlags := 9, code := some k9c2 }
def k9c3 : Code := { maxStack := 4, maxLocals := 6, code := jdk_42_method_149_code, exceptionTable := #[], attributes := #[] }
def k9m3 : Method := { name := "<init>", desc := "([CIILjava/lang/Void;)V", sig := { parameters := [(.array .char), .int, .int, (.object "java/lang/Void")], returnType := none }, accessFlags := 2, code := some k9c3 }
def k9c4 : Code := { maxStack := 2, maxLocals := 3, code := jdk_42_method_151_code, exceptionTable := #[], attributes := #[] }
def k9m4 : Method := { name := "<init>", desc := "([BB)V", sig := { parameters := [(.array .byte), .byte], returnType := none }, accessFlags := 0, code := some k9c4 }
/-- java/lang/String -/
def k9 : Class := { plain "java/lang/String" (some 0) with
  accessFlags := 49
  interfaces := #[4, 3, 7, 2, 8]
  cf := some (fileOf pool9 10 #[.nestMembers #[1103]] #[{ accessFlags := 1, nameIndex := 5, descriptorIndex := 6, attributes := #[] }, { accessFlags := 1, nameIndex := 5, descriptorIndex := 1010, attributes := #[] }, { accessFlags := 9, nameIndex := 782, descriptorIndex := 783, attributes := #[] }, { accessFlags := 2, nameIndex := 5, descriptorIndex := 29, attributes := #[] }, { accessFlags := 0, nameIndex := 5, descriptorIndex := 211, attributes := #[] }] 49 2 #[1106, 1108, 575, 1110, 1112] #[{ accessFlags := 18, nameIndex := 13, descriptorIndex := 14, attributes := #[] }, { accessFlags := 18, nameIndex := 17, descriptorIndex := 18, attributes := #[] }, { accessFlags := 2, nameIndex := 21, descriptorIndex := 22, attributes := #[] }, { accessFlags := 2, nameIndex := 25, descriptorIndex := 26, attributes := #[] }, { accessFlags := 26, nameIndex := 1116, descriptorIndex := 1117, attributes := #[] }, { accessFlags := 24, nameIndex := 40, descriptorIndex := 26, attributes := #[] }, { accessFlags := 26, nameIndex := 1101, descriptorIndex := 1102, attributes := #[] }, { accessFlags := 26, nameIndex := 1121, descriptorIndex := 1122, attributes := #[] }, { accessFlags := 25, nameIndex := 599, descriptorIndex := 600, attributes := #[] }, { accessFlags := 24, nameIndex := 1125, descriptorIndex := 18, attributes := #[] }, { accessFlags := 24, nameIndex := 1127, descriptorIndex := 18, attributes := #[] }])
  fields := #[{ name := "value", type := (.array .byte), accessFlags := 18, slot := 0, constantValue := 0 }, { name := "coder", type := .byte, accessFlags := 18, slot := 1, constantValue := 0 }, { name := "hash", type := .int, accessFlags := 2, slot := 2, constantValue := 0 }, { name := "hashIsZero", type := .boolean, accessFlags := 2, slot := 3, constantValue := 0 }, { name := "serialVersionUID", type := .long, accessFlags := 26, slot := 0, constantValue := 0 }, { name := "COMPACT_STRINGS", type := .boolean, accessFlags := 24, slot := 1, constantValue := 0 }, { name := "serialPersistentFields", type := (.array (.object "java/io/ObjectStreamField")), accessFlags := 26, slot := 2, constantValue := 0 }, { name := "REPL", type := .char, accessFlags := 26, slot := 3, constantValue := 0 }, { name := "CASE_INSENSITIVE_ORDER", type := (.object "java/util/Comparator"), accessFlags := 25, slot := 4, constantValue := 0 }, { name := "LATIN1", type := .byte, accessFlags := 24, slot := 5, constantValue := 0 }, { name := "UTF16", type := .byte, accessFlags := 24, slot := 6, constantValue := 0 }]
  methods := #[k9m0, k9m1, k9m2, k9m3, k9m4]
  instanceTypes := #[(.array .byte), .byte, .int, .boolean]
  staticTypes := #[.long, .boolean, (.array (.object "java/io/ObjectStreamField")), .char, (.object "java/util/Comparator"), .byte, .byte]
  resolved := Array.replicate 1451 none
  statics := some 1 }

def pool10 : Array CpInfo := pool [(6, .class_ 8), (1, u "java/lang/Object"), (0, u "<init>"), (0, u "()V"), (1, .class_ 14), (1, u "java/lang/StringUTF16"), (31, u "$assertionsDisabled"), (0, u "Z"), (13, u "HI_BYTE_SHIFT"), (0, u "I"), (2, u "LO_BYTE_SHIFT"), (49, .methodref 12 116), (0, .nameAndType 117 118), (0, u "compress"), (0, u "([CI[BII)I"), (3, u "([CII)[B"), (138, u "coderFromArrayLen"), (0, u "([BI)B"), (106, .class_ 371), (1, u "java/lang/StringUTF16$LinesSpliterator"), (58, u "MAX_LENGTH"), (196, .class_ 628), (0, u "java/lang/StringUTF16$CodePointsSpliterator"), (0, .class_ 630), (0, u "java/lang/StringUTF16$CharsSpliterator")] 4

def k10m0 : Method := { name := "<init>", desc := "()V", sig := { parameters := [], returnType := none }, accessFlags := 0, code := none }
def k10c1 : Code := { maxStack := 2, maxLocals := 2, code := jdk_52_method_15_code, exceptionTable := #[], attributes := #[] }
def k10m1 : Method := { name := "coderFromArrayLen", desc := "([BI)B", sig := { parameters := [(.array .byte), .int], returnType := some .byte }, accessFlags := 8, code := some k10c1 }
def k10c2 : Code := { maxStack := 5, maxLocals := 6, code := jdk_52_method_16_code, exceptionTable := #[], attributes := #[] }
def k10m2 : Method := { name := "compress", desc := "([CII)[B", sig := { parameters := [(.array .char), .int, .int], returnType := some (.array .byte) }, accessFlags := 9, code := some k10c2 }
def k10c3 : Code := { maxStack := 3, maxLocals := 7, code := jdk_52_method_21_code, exceptionTable := #[], attributes := #[] }
def k10m3 : Method := { name := "compress", desc := "([CI[BII)I", sig := { parameters := [(.array .char), .int, (.array .byte), .int, .int], returnType := some .int }, accessFlags := 9, code := some k10c3 }
/-- java/lang/StringUTF16 -/
def k10 : Class := { plain "java/lang/StringUTF16" (some 0) with
  accessFlags := 48
  interfaces := #[]
  cf := some (fileOf pool10 12 #[.nestMembers #[627, 629, 369]] #[{ accessFlags := 0, nameIndex := 9, descriptorIndex := 10, attributes := #[] }, { accessFlags := 8, nameIndex := 261, descriptorIndex := 262, attributes := #[] }, { accessFlags := 9, nameIndex := 117, descriptorIndex := 122, attributes := #[] }, { accessFlags := 9, nameIndex := 117, descriptorIndex := 118, attributes := #[] }] 48 6 #[] #[{ accessFlags := 26, nameIndex := 61, descriptorIndex := 62, attributes := #[] }, { accessFlags := 26, nameIndex := 65, descriptorIndex := 62, attributes := #[] }, { accessFlags := 24, nameIndex := 430, descriptorIndex := 62, attributes := #[] }, { accessFlags := 4120, nameIndex := 46, descriptorIndex := 47, attributes := #[] }])
  fields := #[{ name := "HI_BYTE_SHIFT", type := .int, accessFlags := 26, slot := 0, constantValue := 0 }, { name := "LO_BYTE_SHIFT", type := .int, accessFlags := 26, slot := 1, constantValue := 0 }, { name := "MAX_LENGTH", type := .int, accessFlags := 24, slot := 2, constantValue := 0 }, { name := "$assertionsDisabled", type := .boolean, accessFlags := 4120, slot := 3, constantValue := 0 }]
  methods := #[k10m0, k10m1, k10m2, k10m3]
  instanceTypes := #[]
  staticTypes := #[.int, .int, .int, .boolean]
  resolved := Array.replicate 635 none
  statics := none }

def pool11 : Array CpInfo := pool [(8, .class_ 10), (1, u "java/lang/Iterable"), (24, .class_ 36), (0, u "java/lang/Object")] 25

/-- java/lang/Iterable -/
def k11 : Class := { plain "java/lang/Iterable" (some 0) with
  accessFlags := 1537
  interfaces := #[]
  cf := some (fileOf pool11 8 #[] #[] 1537 35 #[] #[])
  fields := #[]
  methods := #[]
  instanceTypes := #[]
  staticTypes := #[]
  resolved := Array.replicate 62 none
  statics := none }

def pool12 : Array CpInfo := pool [(10, .class_ 12), (1, u "java/util/Collection"), (0, u "toArray"), (16, u "()Z"), (29, .class_ 61), (0, u "java/lang/Object"), (0, .class_ 63), (0, u "java/lang/Iterable"), (2, u "isEmpty"), (3, u "()[Ljava/lang/Object;")] 44

def k12m0 : Method := { name := "isEmpty", desc := "()Z", sig := { parameters := [], returnType := some .boolean }, accessFlags := 1025, code := none }
def k12m1 : Method := { name := "toArray", desc := "()[Ljava/lang/Object;", sig := { parameters := [], returnType := some (.array (.object "java/lang/Object")) }, accessFlags := 1025, code := none }
/-- java/util/Collection -/
def k12 : Class := { plain "java/util/Collection" (some 0) with
  accessFlags := 1537
  interfaces := #[11]
  cf := some (fileOf pool12 10 #[] #[{ accessFlags := 1025, nameIndex := 66, descriptorIndex := 30, attributes := #[] }, { accessFlags := 1025, nameIndex := 13, descriptorIndex := 70, attributes := #[] }] 1537 60 #[62] #[])
  fields := #[]
  methods := #[k12m0, k12m1]
  instanceTypes := #[]
  staticTypes := #[]
  resolved := Array.replicate 115 none
  statics := none }

def pool13 : Array CpInfo := pool [(1, .methodref 2 3), (0, .class_ 4), (0, .nameAndType 5 6), (0, u "java/lang/Object"), (0, u "<init>"), (0, u "()V"), (1, .class_ 10), (1, u "java/util/AbstractCollection"), (66, .class_ 78), (0, u "java/util/Collection")] 81

def k13c0 : Code := { maxStack := 1, maxLocals := 1, code := jdk_22_method_1_code, exceptionTable := #[], attributes := #[] }
def k13m0 : Method := { name := "<init>", desc := "()V", sig := { parameters := [], returnType := none }, accessFlags := 4, code := some k13c0 }
/-- java/util/AbstractCollection -/
def k13 : Class := { plain "java/util/AbstractCollection" (some 0) with
  accessFlags := 1057
  interfaces := #[12]
  cf := some (fileOf pool13 8 #[] #[{ accessFlags := 4, nameIndex := 5, descriptorIndex := 6, attributes := #[] }] 1057 2 #[77] #[])
  fields := #[]
  methods := #[k13m0]
  instanceTypes := #[]
  staticTypes := #[]
  resolved := Array.replicate 160 none
  statics := none }

def pool14 : Array CpInfo := pool [(8, .class_ 10), (1, u "java/util/SequencedCollection"), (15, .class_ 27), (0, u "java/lang/Object"), (0, .class_ 29), (0, u "java/util/Collection")] 27

/-- java/util/SequencedCollection -/
def k14 : Class := { plain "java/util/SequencedCollection" (some 0) with
  accessFlags := 1537
  interfaces := #[12]
  cf := some (fileOf pool14 8 #[] #[] 1537 26 #[28] #[])
  fields := #[]
  methods := #[]
  instanceTypes := #[]
  staticTypes := #[]
  resolved := Array.replicate 57 none
  statics := none }

def pool15 : Array CpInfo := pool [(8, .class_ 10), (1, u "java/util/List"), (20, u "(Ljava/lang/Object;)V"), (16, u "<init>"), (39, u "of"), (1, .fieldref 91 92), (0, .class_ 93), (0, .nameAndType 94 95), (0, u "java/util/ImmutableCollections"), (0, u "EMPTY_LIST"), (0, u "Ljava/util/ImmutableCollections$ListN;"), (0, .class_ 97), (0, u "java/util/ImmutableCollections$List12"), (0, .methodref 96 99), (0, .nameAndType 48 31), (0, .methodref 96 101), (0, .nameAndType 48 102), (0, u "(Ljava/lang/Object;Ljava/lang/Object;)V"), (0, .class_ 104), (0, u "java/lang/Object"), (3, u "([Ljava/lang/Object;)Ljava/util/List;"), (0, .methodref 91 110), (0, .nameAndType 111 108), (0, u "listFromArray"), (0, .methodref 91 113), (0, .nameAndType 114 115), (0, u "listCopy"), (0, u "(Ljava/util/Collection;)Ljava/util/List;"), (3, u "()Ljava/util/List;"), (0, .class_ 121), (0, u "java/util/SequencedCollection"), (112, u "copyOf")] 16

def k15c0 : Code := { maxStack := 1, maxLocals := 0, code := jdk_40_method_36_code, exceptionTable := #[], attributes := #[] }
def k15m0 : Method := { name := "of", desc := "()Ljava/util/List;", sig := { parameters := [], returnType := some (.object "java/util/List") }, accessFlags := 9, code := some k15c0 }
def k15c1 : Code := { maxStack := 5, maxLocals := 2, code := jdk_40_method_47_code, exceptionTable := #[], attributes := #[] }
def k15m1 : Method := { name := "of", desc := "([Ljava/lang/Object;)Ljava/util/List;", sig := { parameters := [(.array (.object "java/lang/Object"))], returnType := some (.object "java/util/List") }, accessFlags := 137, code := some k15c1 }
def k15c2 : Code := { maxStack := 1, maxLocals := 1, code := jdk_40_method_48_code, exceptionTable := #[], attributes := #[] }
def k15m2 : Method := { name := "copyOf", desc := "(Ljava/util/Collection;)Ljava/util/List;", sig := { parameters := [(.object "java/util/Collection")], returnType := some (.object "java/util/List") }, accessFlags := 9, code := some k15c2 }
/-- java/util/List -/
def k15 : Class := { plain "java/util/List" (some 0) with
  accessFlags := 1537
  interfaces := #[14]
  cf := some (fileOf pool15 8 #[] #[{ accessFlags := 9, nameIndex := 88, descriptorIndex := 119, attributes := #[] }, { accessFlags := 137, nameIndex := 88, descriptorIndex := 108, attributes := #[] }, { accessFlags := 9, nameIndex := 234, descriptorIndex := 115, attributes := #[] }] 1537 103 #[120] #[])
  fields := #[]
  methods := #[k15m0, k15m1, k15m2]
  instanceTypes := #[]
  staticTypes := #[]
  resolved := Array.replicate 251 none
  statics := none }

def pool16 : Array CpInfo := pool [(1, .methodref 2 3), (0, .class_ 4), (0, .nameAndType 5 6), (0, u "java/util/AbstractCollection"), (0, u "<init>"), (0, u "()V"), (0, .fieldref 8 9), (0, .class_ 10), (0, .nameAndType 11 12), (0, u "java/util/AbstractList"), (0, u "modCount"), (0, u "I"), (64, .class_ 78), (0, u "java/util/AbstractList$Itr"), (3, .class_ 83), (0, u "java/util/AbstractList$ListItr"), (9, .class_ 94), (0, u "java/util/AbstractList$RandomAccessSubList"), (3, .class_ 99), (0, u "java/util/AbstractList$SubList"), (33, .class_ 134), (0, u "java/util/List"), (73, .class_ 209), (0, u "java/util/AbstractList$SubList$1"), (0, .class_ 211), (0, u "java/util/AbstractList$RandomAccessSpliterator")] 6

def k16c0 : Code := { maxStack := 2, maxLocals := 1, code := jdk_39_method_1_code, exceptionTable := #[], attributes := #[] }
def k16m0 : Method := { name := "<init>", desc := "()V", sig := { parameters := [], returnType := none }, accessFlags := 4, code := some k16c0 }
/-- java/util/AbstractList -/
def k16 : Class := { plain "java/util/AbstractList" (some 13) with
  accessFlags := 1057
  interfaces := #[15]
  cf := some (fileOf pool16 8 #[.nestMembers #[93, 98, 208, 210, 82, 77]] #[{ accessFlags := 4, nameIndex := 5, descriptorIndex := 6, attributes := #[] }] 1057 2 #[133] #[{ accessFlags := 132, nameIndex := 11, descriptorIndex := 12, attributes := #[] }])
  fields := #[{ name := "modCount", type := .int, accessFlags := 132, slot := 0, constantValue := 0 }]
  methods := #[k16m0]
  instanceTypes := #[.int]
  staticTypes := #[]
  resolved := Array.replicate 218 none
  statics := none }

def pool17 : Array CpInfo := pool [(1, .class_ 2), (0, u "java/util/RandomAccess"), (0, .class_ 4), (0, u "java/lang/Object")] 2

/-- java/util/RandomAccess -/
def k17 : Class := { plain "java/util/RandomAccess" (some 0) with
  accessFlags := 1537
  interfaces := #[]
  cf := some (fileOf pool17 1 #[] #[] 1537 3 #[] #[])
  fields := #[]
  methods := #[]
  instanceTypes := #[]
  staticTypes := #[]
  resolved := Array.replicate 7 none
  statics := none }

def pool18 : Array CpInfo := pool [(1, .class_ 2), (0, u "java/lang/Cloneable"), (0, .class_ 4), (0, u "java/lang/Object")] 2

/-- java/lang/Cloneable -/
def k18 : Class := { plain "java/lang/Cloneable" (some 0) with
  accessFlags := 1537
  interfaces := #[]
  cf := some (fileOf pool18 1 #[] #[] 1537 3 #[] #[])
  fields := #[]
  methods := #[]
  instanceTypes := #[]
  staticTypes := #[]
  resolved := Array.replicate 7 none
  statics := none }

def pool19 : Array CpInfo := pool [(1, .methodref 2 3), (0, .class_ 4), (0, .nameAndType 5 6), (0, u "java/util/AbstractList"), (0, u "<init>"), (0, u "()V"), (0, .class_ 8), (0, u "java/lang/Object"), (0, .fieldref 10 11), (0, .class_ 12), (0, .nameAndType 13 14), (0, u "java/util/ArrayList"), (0, u "elementData"), (0, u "[Ljava/lang/Object;"), (2, u "EMPTY_ELEMENTDATA"), (21, .fieldref 10 40), (0, .nameAndType 41 14), (0, u "DEFAULTCAPACITY_EMPTY_ELEMENTDATA"), (4, u "toArray"), (0, u "()[Ljava/lang/Object;"), (0, .fieldref 10 49), (0, .nameAndType 50 51), (0, u "size"), (0, u "I"), (6, .class_ 60), (1, u "java/util/Arrays"), (0, u "copyOf"), (1, .fieldref 10 64), (0, .nameAndType 65 51), (0, u "modCount"), (0, .methodref 58 67), (0, .nameAndType 61 68), (0, u "([Ljava/lang/Object;I)[Ljava/lang/Object;"), (0, .methodref 10 70), (0, .nameAndType 71 72), (0, u "grow"), (0, u "(I)[Ljava/lang/Object;"), (6, .methodref 80 81), (0, .class_ 82), (0, .nameAndType 83 84), (0, u "java/lang/Math"), (0, u "max"), (0, u "(II)I"), (11, u "(Ljava/lang/Object;)Z"), (32, .methodref 10 130), (0, .nameAndType 71 47), (0, .methodref 10 132), (0, .nameAndType 133 134), (0, u "add"), (0, u "(Ljava/lang/Object;[Ljava/lang/Object;I)V"), (13, .class_ 149), (0, u "java/util/List"), (23, u "()Z"), (88, .class_ 263), (0, u "java/util/ArrayList$ListItr"), (3, .class_ 268), (0, u "java/util/ArrayList$Itr"), (7, .class_ 277), (0, u "java/util/ArrayList$SubList"), (12, .class_ 291), (0, u "java/util/ArrayList$ArrayListSpliterator"), (37, .class_ 330), (0, u "java/util/RandomAccess"), (0, .class_ 332), (0, u "java/lang/Cloneable"), (0, .class_ 334), (0, u "java/io/Serializable"), (0, u "serialVersionUID"), (0, u "J"), (3, u "DEFAULT_CAPACITY"), (22, u "isEmpty"), (136, .class_ 501), (0, u "java/util/ArrayList$SubList$2"), (0, .class_ 503), (0, u "java/util/ArrayList$SubList$1")] 5

def k19c0 : Code := { maxStack := 2, maxLocals := 1, code := jdk_38_method_2_code, exceptionTable := #[], attributes := #[] }
def k19m0 : Method := { name := "<init>", desc := "()V", sig := { parameters := [], returnType := none }, accessFlags := 1, code := some k19c0 }
def k19c1 : Code := { maxStack := 4, maxLocals := 4, code := jdk_38_method_6_code, exceptionTable := #[], attributes := #[] }
def k19m1 : Method := { name := "grow", desc := "(I)[Ljava/lang/Object;", sig := { parameters := [.int], returnType := some (.array (.object "java/lang/Object")) }, accessFlags := 2, code := some k19c1 }
def k19c2 : Code := { maxStack := 3, maxLocals := 1, code := jdk_38_method_7_code, exceptionTable := #[], attributes := #[] }
def k19m2 : Method := { name := "grow", desc := "()[Ljava/lang/Object;", sig := { parameters := [], returnType := some (.array (.object "java/lang/Object")) }, accessFlags := 2, code := some k19c2 }
def k19c3 : Code := { maxStack := 1, maxLocals := 1, code := jdk_38_method_9_code, exceptionTable := #[], attributes := #[] }
def k19m3 : Method := { name := "isEmpty", desc := "()Z", sig := { parameters := [], returnType := some .boolean }, accessFlags := 1, code := some k19c3 }
def k19c4 : Code := { maxStack := 2, maxLocals := 1, code := jdk_38_method_16_code, exceptionTable := #[], attributes := #[] }
def k19m4 : Method := { name := "toArray", desc := "()[Ljava/lang/Object;", sig := { parameters := [], returnType := some (.array (.object "java/lang/Object")) }, accessFlags := 1, code := some k19c4 }
def k19c5 : Code := { maxStack := 3, maxLocals := 4, code := jdk_38_method_24_code, exceptionTable := #[], attributes := #[] }
def k19m5 : Method := { name := "add", desc := "(Ljava/lang/Object;[Ljava/lang/Object;I)V", sig := { parameters := [(.object "java/lang/Object"), (.array (.object "java/lang/Object")), .int], returnType := none }, accessFlags := 2, code := some k19c5 }
def k19c6 : Code := { maxStack := 4, maxLocals := 2, code := jdk_38_method_25_code, exceptionTable := #[], attributes := #[] }
def k19m6 : Method := { name := "add", desc := "(Ljava/lang/Object;)Z", sig := { parameters := [(.object "java/lang/Object")], returnType := some .boolean }, accessFlags := 1, code := some k19c6 }
/-- java/util/ArrayList -/
def k19 : Class := { plain "java/util/ArrayList" (some 16) with
  accessFlags := 33
  interfaces := #[15, 17, 18, 4]
  cf := some (fileOf pool19 10 #[.nestMembers #[290, 276, 500, 502, 262, 267]] #[{ accessFlags := 1, nameIndex := 5, descriptorIndex := 6, attributes := #[] }, { accessFlags := 2, nameIndex := 71, descriptorIndex := 72, attributes := #[] }, { accessFlags := 2, nameIndex := 71, descriptorIndex := 47, attributes := #[] }, { accessFlags := 1, nameIndex := 363, descriptorIndex := 173, attributes := #[] }, { accessFlags := 1, nameIndex := 46, descriptorIndex := 47, attributes := #[] }, { accessFlags := 2, nameIndex := 133, descriptorIndex := 134, attributes := #[] }, { accessFlags := 1, nameIndex := 133, descriptorIndex := 96, attributes := #[] }] 33 2 #[148, 329, 331, 333] #[{ accessFlags := 26, nameIndex := 335, descriptorIndex := 336, attributes := #[] }, { accessFlags := 26, nameIndex := 340, descriptorIndex := 51, attributes := #[] }, { accessFlags := 26, nameIndex := 17, descriptorIndex := 14, attributes := #[] }, { accessFlags := 26, nameIndex := 41, descriptorIndex := 14, attributes := #[] }, { accessFlags := 128, nameIndex := 13, descriptorIndex := 14, attributes := #[] }, { accessFlags := 2, nameIndex := 50, descriptorIndex := 51, attributes := #[] }])
  fields := #[{ name := "serialVersionUID", type := .long, accessFlags := 26, slot := 0, constantValue := 0 }, { name := "DEFAULT_CAPACITY", type := .int, accessFlags := 26, slot := 1, constantValue := 0 }, { name := "EMPTY_ELEMENTDATA", type := (.array (.object "java/lang/Object")), accessFlags := 26, slot := 2, constantValue := 0 }, { name := "DEFAULTCAPACITY_EMPTY_ELEMENTDATA", type := (.array (.object "java/lang/Object")), accessFlags := 26, slot := 3, constantValue := 0 }, { name := "elementData", type := (.array (.object "java/lang/Object")), accessFlags := 128, slot := 1, constantValue := 0 }, { name := "size", type := .int, accessFlags := 2, slot := 2, constantValue := 0 }]
  methods := #[k19m0, k19m1, k19m2, k19m3, k19m4, k19m5, k19m6]
  instanceTypes := #[.int, (.array (.object "java/lang/Object")), .int]
  staticTypes := #[.long, .int, (.array (.object "java/lang/Object")), (.array (.object "java/lang/Object"))]
  resolved := Array.replicate 509 none
  statics := some 2 }

def pool20 : Array CpInfo := pool [(4, .class_ 6), (1, u "java/lang/Object"), (0, u "<init>"), (0, u "()V"), (5, .class_ 16), (1, u "java/lang/StringLatin1"), (73, u "canEncode"), (14, u "(C)Z"), (15, u "$assertionsDisabled"), (0, u "Z"), (98, .class_ 223), (1, u "java/lang/StringLatin1$LinesSpliterator"), (156, u "toBytes"), (1, u "(C)[B"), (7, .class_ 391), (0, u "java/lang/StringLatin1$CharsSpliterator")] 3

def k20m0 : Method := { name := "<init>", desc := "()V", sig := { parameters := [], returnType := none }, accessFlags := 0, code := none }
def k20c1 : Code := { maxStack := 2, maxLocals := 1, code := jdk_43_method_3_code, exceptionTable := #[], attributes := #[] }
def k20m1 : Method := { name := "canEncode", desc := "(C)Z", sig := { parameters := [.char], returnType := some .boolean }, accessFlags := 9, code := some k20c1 }
def k20c2 : Code := { maxStack := 4, maxLocals := 1, code := jdk_43_method_46_code, exceptionTable := #[], attributes := #[] }
def k20m2 : Method := { name := "toBytes", desc := "(C)[B", sig := { parameters := [.char], returnType := some (.array .byte) }, accessFlags := 9, code := some k20c2 }
/-- java/lang/StringLatin1 -/
def k20 : Class := { plain "java/lang/StringLatin1" (some 0) with
  accessFlags := 48
  interfaces := #[]
  cf := some (fileOf pool20 14 #[.nestMembers #[390, 221]] #[{ accessFlags := 0, nameIndex := 7, descriptorIndex := 8, attributes := #[] }, { accessFlags := 9, nameIndex := 90, descriptorIndex := 105, attributes := #[] }, { accessFlags := 9, nameIndex := 380, descriptorIndex := 382, attributes := #[] }] 48 4 #[] #[{ accessFlags := 4120, nameIndex := 121, descriptorIndex := 122, attributes := #[] }])
  fields := #[{ name := "$assertionsDisabled", type := .boolean, accessFlags := 4120, slot := 0, constantValue := 0 }]
  methods := #[k20m0, k20m1, k20m2]
  instanceTypes := #[]
  staticTypes := #[.boolean]
  resolved := Array.replicate 395 none
  statics := none }

def pool21 : Array CpInfo := pool [(1, .class_ 2), (0, u "java/lang/Math"), (1, .class_ 6), (1, u "java/lang/Object"), (0, u "<init>"), (0, u "()V"), (89, .class_ 100), (1, u "java/lang/Math$RandomNumberGeneratorHolder"), (71, u "negativeZeroFloatBits"), (0, u "J"), (2, u "negativeZeroDoubleBits"), (21, u "max"), (2, u "min"), (43, u "$assertionsDisabled"), (0, u "Z"), (88, u "(II)I"), (2, u "twoToTheDoubleScaleDown"), (0, u "D"), (4, u "twoToTheDoubleScaleUp"), (9, u "E"), (3, u "PI"), (2, u "TAU"), (2, u "DEGREES_TO_RADIANS"), (0, u "RADIANS_TO_DEGREES")] 94

def k21m0 : Method := { name := "<init>", desc := "()V", sig := { parameters := [], returnType := none }, accessFlags := 2, code := none }
def k21c1 : Code := { maxStack := 2, maxLocals := 2, code := jdk_29_method_65_code, exceptionTable := #[], attributes := #[] }
def k21m1 : Method := { name := "max", desc := "(II)I", sig := { parameters := [.int, .int], returnType := some .int }, accessFlags := 9, code := some k21c1 }
def k21c2 : Code := { maxStack := 2, maxLocals := 2, code := jdk_29_method_69_code, exceptionTable := #[], attributes := #[] }
def k21m2 : Method := { name := "min", desc := "(II)I", sig := { parameters := [.int, .int], returnType := some .int }, accessFlags := 9, code := some k21c2 }
/-- java/lang/Math -/
def k21 : Class := { plain "java/lang/Math" (some 0) with
  accessFlags := 49
  interfaces := #[]
  cf := some (fileOf pool21 1 #[.nestMembers #[98]] #[{ accessFlags := 2, nameIndex := 7, descriptorIndex := 8, attributes := #[] }, { accessFlags := 9, nameIndex := 198, descriptorIndex := 335, attributes := #[] }, { accessFlags := 9, nameIndex := 201, descriptorIndex := 335, attributes := #[] }] 49 4 #[] #[{ accessFlags := 25, nameIndex := 354, descriptorIndex := 339, attributes := #[] }, { accessFlags := 25, nameIndex := 358, descriptorIndex := 339, attributes := #[] }, { accessFlags := 25, nameIndex := 361, descriptorIndex := 339, attributes := #[] }, { accessFlags := 26, nameIndex := 364, descriptorIndex := 339, attributes := #[] }, { accessFlags := 26, nameIndex := 365, descriptorIndex := 339, attributes := #[] }, { accessFlags := 26, nameIndex := 172, descriptorIndex := 173, attributes := #[] }, { accessFlags := 26, nameIndex := 176, descriptorIndex := 173, attributes := #[] }, { accessFlags := 8, nameIndex := 344, descriptorIndex := 339, attributes := #[] }, { accessFlags := 8, nameIndex := 338, descriptorIndex := 339, attributes := #[] }, { accessFlags := 4120, nameIndex := 245, descriptorIndex := 246, attributes := #[] }])
  fields := #[{ name := "E", type := .double, accessFlags := 25, slot := 0, constantValue := 0 }, { name := "PI", type := .double, accessFlags := 25, slot := 1, constantValue := 0 }, { name := "TAU", type := .double, accessFlags := 25, slot := 2, constantValue := 0 }, { name := "DEGREES_TO_RADIANS", type := .double, accessFlags := 26, slot := 3, constantValue := 0 }, { name := "RADIANS_TO_DEGREES", type := .double, accessFlags := 26, slot := 4, constantValue := 0 }, { name := "negativeZeroFloatBits", type := .long, accessFlags := 26, slot := 5, constantValue := 0 }, { name := "negativeZeroDoubleBits", type := .long, accessFlags := 26, slot := 6, constantValue := 0 }, { name := "twoToTheDoubleScaleUp", type := .double, accessFlags := 8, slot := 7, constantValue := 0 }, { name := "twoToTheDoubleScaleDown", type := .double, accessFlags := 8, slot := 8, constantValue := 0 }, { name := "$assertionsDisabled", type := .boolean, accessFlags := 4120, slot := 9, constantValue := 0 }]
  methods := #[k21m0, k21m1, k21m2]
  instanceTypes := #[]
  staticTypes := #[.double, .double, .double, .double, .double, .long, .long, .double, .double, .boolean]
  resolved := Array.replicate 460 none
  statics := none }

def pool22 : Array CpInfo := pool [(1, .methodref 2 3), (0, .class_ 4), (0, .nameAndType 5 6), (0, u "java/lang/Object"), (0, u "<init>"), (0, u "()V"), (0, .class_ 8), (0, u "java/lang/Record")] 13

def k22c0 : Code := { maxStack := 1, maxLocals := 1, code := jdk_30_method_1_code, exceptionTable := #[], attributes := #[] }
def k22m0 : Method := { name := "<init>", desc := "()V", sig := { parameters := [], returnType := none }, accessFlags := 4, code := some k22c0 }
/-- java/lang/Record -/
def k22 : Class := { plain "java/lang/Record" (some 0) with
  accessFlags := 1057
  interfaces := #[]
  cf := some (fileOf pool22 7 #[] #[{ accessFlags := 4, nameIndex := 5, descriptorIndex := 6, attributes := #[] }] 1057 2 #[] #[])
  fields := #[]
  methods := #[k22m0]
  instanceTypes := #[]
  staticTypes := #[]
  resolved := Array.replicate 22 none
  statics := none }

def pool23 : Array CpInfo := pool [(1, .methodref 2 3), (0, .class_ 4), (0, .nameAndType 5 6), (0, u "java/lang/Record"), (0, u "<init>"), (0, u "()V"), (0, .interfaceMethodref 8 9), (0, .class_ 10), (0, .nameAndType 11 12), (0, u "java/util/List"), (0, u "copyOf"), (0, u "(Ljava/util/Collection;)Ljava/util/List;"), (0, .fieldref 14 15), (0, .class_ 16), (0, .nameAndType 17 18), (0, u "com/example/gridtally/gridtally/determinant/Column"), (0, u "name"), (0, u "Ljava/lang/String;"), (0, .fieldref 14 20), (0, .nameAndType 21 22), (0, u "kind"), (0, u "Lcom/example/gridtally/gridtally/determinant/Column$Kind;"), (0, .fieldref 14 24), (0, .nameAndType 25 26), (0, u "values"), (0, u "Ljava/util/List;"), (1, .class_ 30), (1, u "com/example/gridtally/gridtally/determinant/Column$Kind"), (7, u "(Ljava/lang/String;Lcom/example/gridtally/gridtally/determinant/Column$Kind;Ljava/util/List;)V"), (16, .fieldref 28 56), (0, .nameAndType 57 22), (0, u "OPTIONAL_DECIMAL"), (40, u "required"), (0, u "()Z")] 43

def k23c0 : Code := { maxStack := 2, maxLocals := 4, code := prog_3_method_1_code, exceptionTable := #[], attributes := #[] }
def k23m0 : Method := { name := "<init>", desc := "(Ljava/lang/String;Lcom/example/gridtally/gridtally/determinant/Column$Kind;Ljava/util/List;)V", sig := { parameters := [(.object "java/lang/String"), (.object "com/example/gridtally/gridtally/determinant/Column$Kind"), (.object "java/util/List")], returnType := none }, accessFlags := 1, code := some k23c0 }
def k23c1 : Code := { maxStack := 2, maxLocals := 1, code := prog_3_method_8_code, exceptionTable := #[], attributes := #[] }
def k23m1 : Method := { name := "required", desc := "()Z", sig := { parameters := [], returnType := some .boolean }, accessFlags := 0, code := some k23c1 }
/-- com/example/gridtally/gridtally/determinant/Column -/
def k23 : Class := { plain "com/example/gridtally/gridtally/determinant/Column" (some 22) with
  accessFlags := 49
  interfaces := #[]
  cf := some (fileOf pool23 14 #[.nestMembers #[28]] #[{ accessFlags := 1, nameIndex := 5, descriptorIndex := 38, attributes := #[] }, { accessFlags := 0, nameIndex := 98, descriptorIndex := 99, attributes := #[] }] 49 2 #[] #[{ accessFlags := 18, nameIndex := 17, descriptorIndex := 18, attributes := #[] }, { accessFlags := 18, nameIndex := 21, descriptorIndex := 22, attributes := #[] }, { accessFlags := 18, nameIndex := 25, descriptorIndex := 26, attributes := #[] }])
  fields := #[{ name := "name", type := (.object "java/lang/String"), accessFlags := 18, slot := 0, constantValue := 0 }, { name := "kind", type := (.object "com/example/gridtally/gridtally/determinant/Column$Kind"), accessFlags := 18, slot := 1, constantValue := 0 }, { name := "values", type := (.object "java/util/List"), accessFlags := 18, slot := 2, constantValue := 0 }]
  methods := #[k23m0, k23m1]
  instanceTypes := #[(.object "java/lang/String"), (.object "com/example/gridtally/gridtally/determinant/Column$Kind"), (.object "java/util/List")]
  staticTypes := #[]
  resolved := Array.replicate 143 none
  statics := none }

def pool24 : Array CpInfo := pool [(2, .class_ 4), (1, u "java/lang/Object"), (0, u "<init>"), (0, u "()V"), (3, .class_ 11), (0, u "java/util/ImmutableCollections$List12"), (0, .class_ 13), (0, u "java/util/ImmutableCollections$ListN"), (3, u "Z"), (0, .class_ 19), (0, u "java/util/List"), (0, .interfaceMethodref 21 22), (0, .class_ 23), (0, .nameAndType 24 25), (0, u "java/util/Collection"), (0, u "isEmpty"), (0, u "()Z"), (0, .interfaceMethodref 18 27), (0, .nameAndType 28 29), (0, u "of"), (0, u "()Ljava/util/List;"), (0, .interfaceMethodref 21 31), (0, .nameAndType 32 33), (0, u "toArray"), (0, u "()[Ljava/lang/Object;"), (0, .interfaceMethodref 18 35), (0, .nameAndType 28 36), (0, u "([Ljava/lang/Object;)Ljava/util/List;"), (0, .methodref 38 39), (0, .class_ 40), (0, .nameAndType 41 42), (0, u "java/util/Objects"), (0, u "requireNonNull"), (0, u "(Ljava/lang/Object;)Ljava/lang/Object;"), (0, .methodref 12 44), (0, .nameAndType 5 45), (0, u "([Ljava/lang/Object;Z)V"), (1, .class_ 49), (1, u "java/util/ImmutableCollections"), (0, u "$assertionsDisabled"), (5, u "[Ljava/lang/Object;"), (5, u "EMPTY_LIST"), (0, u "Ljava/util/ImmutableCollections$ListN;"), (8, u "EMPTY_LIST_NULLS"), (22, u "SALT32L"), (0, u "J"), (2, u "REVERSE"), (6, u "archivedObjects"), (2, u "EMPTY"), (0, u "Ljava/lang/Object;"), (0, .class_ 112), (0, u "java/util/ImmutableCollections$SetN"), (5, u "EMPTY_SET"), (0, u "Ljava/util/ImmutableCollections$SetN;"), (0, .class_ 121), (0, u "java/util/ImmutableCollections$MapN"), (3, u "EMPTY_MAP"), (0, u "Ljava/util/ImmutableCollections$MapN;"), (4, u "EXPAND_FACTOR"), (0, u "I"), (9, u "listCopy"), (0, u "(Ljava/util/Collection;)Ljava/util/List;"), (7, u "listFromArray"), (17, .class_ 170), (0, u "java/util/ImmutableCollections$MapN$MapNIterator"), (0, .class_ 172), (0, u "java/util/ImmutableCollections$MapN$1"), (0, .class_ 174), (0, u "java/util/ImmutableCollections$Map1"), (0, .class_ 176), (0, u "java/util/ImmutableCollections$AbstractImmutableMap"), (0, .class_ 178), (0, u "java/util/ImmutableCollections$SetN$SetNIterator"), (0, .class_ 180), (0, u "java/util/ImmutableCollections$Set12"), (0, .class_ 182), (0, u "java/util/ImmutableCollections$Set12$1"), (0, .class_ 184), (0, u "java/util/ImmutableCollections$AbstractImmutableSet"), (0, .class_ 186), (0, u "java/util/ImmutableCollections$SubList"), (0, .class_ 188), (0, u "java/util/ImmutableCollections$ListItr"), (0, .class_ 190), (0, u "java/util/ImmutableCollections$AbstractImmutableList"), (0, .class_ 192), (0, u "java/util/ImmutableCollections$AbstractImmutableCollection"), (0, .class_ 194), (0, u "java/util/ImmutableCollections$Access"), (0, .class_ 196), (0, u "java/util/ImmutableCollections$Access$1")] 16

def k24m0 : Method := { name := "<init>", desc := "()V", sig := { parameters := [], returnType := none }, accessFlags := 2, code := none }
def k24c1 : Code := { maxStack := 1, maxLocals := 2, code := jdk_56_method_3_code, exceptionTable := #[], attributes := #[] }
def k24m1 : Method := { name := "listCopy", desc := "(Ljava/util/Collection;)Ljava/util/List;", sig := { parameters := [(.object "java/util/Collection")], returnType := some (.object "java/util/List") }, accessFlags := 8, code := some k24c1 }
def k24c2 : Code := { maxStack := 4, maxLocals := 3, code := jdk_56_method_4_code, exceptionTable := #[], attributes := #[] }
def k24m2 : Method := { name := "listFromArray", desc := "([Ljava/lang/Object;)Ljava/util/List;", sig := { parameters := [(.array (.object "java/lang/Object"))], returnType := some (.object "java/util/List") }, accessFlags := 136, code := some k24c2 }
/-- java/util/ImmutableCollections -/
def k24 : Class := { plain "java/util/ImmutableCollections" (some 0) with
  accessFlags := 32
  interfaces := #[]
  cf := some (fileOf pool24 47 #[.nestMembers #[120, 169, 171, 173, 175, 111, 177, 179, 181, 183, 12, 10, 185, 187, 189, 191, 193, 195]] #[{ accessFlags := 2, nameIndex := 5, descriptorIndex := 6, attributes := #[] }, { accessFlags := 8, nameIndex := 142, descriptorIndex := 143, attributes := #[] }, { accessFlags := 136, nameIndex := 151, descriptorIndex := 36, attributes := #[] }] 32 2 #[] #[{ accessFlags := 26, nameIndex := 95, descriptorIndex := 96, attributes := #[] }, { accessFlags := 26, nameIndex := 99, descriptorIndex := 17, attributes := #[] }, { accessFlags := 10, nameIndex := 106, descriptorIndex := 56, attributes := #[] }, { accessFlags := 26, nameIndex := 109, descriptorIndex := 110, attributes := #[] }, { accessFlags := 24, nameIndex := 62, descriptorIndex := 63, attributes := #[] }, { accessFlags := 24, nameIndex := 72, descriptorIndex := 63, attributes := #[] }, { accessFlags := 24, nameIndex := 118, descriptorIndex := 119, attributes := #[] }, { accessFlags := 24, nameIndex := 125, descriptorIndex := 126, attributes := #[] }, { accessFlags := 24, nameIndex := 131, descriptorIndex := 132, attributes := #[] }, { accessFlags := 4120, nameIndex := 50, descriptorIndex := 17, attributes := #[] }])
  fields := #[{ name := "SALT32L", type := .long, accessFlags := 26, slot := 0, constantValue := 0 }, { name := "REVERSE", type := .boolean, accessFlags := 26, slot := 1, constantValue := 0 }, { name := "archivedObjects", type := (.array (.object "java/lang/Object")), accessFlags := 10, slot := 2, constantValue := 0 }, { name := "EMPTY", type := (.object "java/lang/Object"), accessFlags := 26, slot := 3, constantValue := 0 }, { name := "EMPTY_LIST", type := (.object "java/util/ImmutableCollections$ListN"), accessFlags := 24, slot := 4, constantValue := 0 }, { name := "EMPTY_LIST_NULLS", type := (.object "java/util/ImmutableCollections$ListN"), accessFlags := 24, slot := 5, constantValue := 0 }, { name := "EMPTY_SET", type := (.object "java/util/ImmutableCollections$SetN"), accessFlags := 24, slot := 6, constantValue := 0 }, { name := "EMPTY_MAP", type := (.object "java/util/ImmutableCollections$MapN"), accessFlags := 24, slot := 7, constantValue := 0 }, { name := "EXPAND_FACTOR", type := .int, accessFlags := 24, slot := 8, constantValue := 0 }, { name := "$assertionsDisabled", type := .boolean, accessFlags := 4120, slot := 9, constantValue := 0 }]
  methods := #[k24m0, k24m1, k24m2]
  instanceTypes := #[]
  staticTypes := #[.long, .boolean, (.array (.object "java/lang/Object")), (.object "java/lang/Object"), (.object "java/util/ImmutableCollections$ListN"), (.object "java/util/ImmutableCollections$ListN"), (.object "java/util/ImmutableCollections$SetN"), (.object "java/util/ImmutableCollections$MapN"), .int, .boolean]
  resolved := Array.replicate 213 none
  statics := some 3 }

def pool25 : Array CpInfo := pool [(1, .methodref 2 3), (0, .class_ 4), (0, .nameAndType 5 6), (0, u "java/util/AbstractCollection"), (0, u "<init>"), (0, u "()V"), (1, .class_ 10), (1, u "java/util/ImmutableCollections"), (2, .class_ 14), (0, u "java/util/ImmutableCollections$AbstractImmutableCollection")] 41

def k25c0 : Code := { maxStack := 1, maxLocals := 1, code := jdk_47_method_1_code, exceptionTable := #[], attributes := #[] }
def k25m0 : Method := { name := "<init>", desc := "()V", sig := { parameters := [], returnType := none }, accessFlags := 0, code := some k25c0 }
/-- java/util/ImmutableCollections$AbstractImmutableCollection -/
def k25 : Class := { plain "java/util/ImmutableCollections$AbstractImmutableCollection" (some 13) with
  accessFlags := 1056
  interfaces := #[]
  cf := some (fileOf pool25 13 #[.nestHost 8] #[{ accessFlags := 0, nameIndex := 5, descriptorIndex := 6, attributes := #[] }] 1056 2 #[] #[])
  fields := #[]
  methods := #[k25m0]
  instanceTypes := #[]
  staticTypes := #[]
  resolved := Array.replicate 56 none
  statics := none }

def pool26 : Array CpInfo := pool [(1, .methodref 2 3), (0, .class_ 4), (0, .nameAndType 5 6), (0, u "java/util/ImmutableCollections$AbstractImmutableCollection"), (0, u "<init>"), (0, u "()V"), (1, .class_ 10), (1, u "java/util/ImmutableCollections"), (3, .class_ 16), (1, u "java/util/ImmutableCollections$AbstractImmutableList"), (60, .class_ 78), (0, u "java/util/List"), (45, .class_ 125), (0, u "java/util/RandomAccess")] 70

def k26c0 : Code := { maxStack := 1, maxLocals := 1, code := jdk_46_method_1_code, exceptionTable := #[], attributes := #[] }
def k26m0 : Method := { name := "<init>", desc := "()V", sig := { parameters := [], returnType := none }, accessFlags := 0, code := some k26c0 }
/-- java/util/ImmutableCollections$AbstractImmutableList -/
def k26 : Class := { plain "java/util/ImmutableCollections$AbstractImmutableList" (some 25) with
  accessFlags := 1056
  interfaces := #[15, 17]
  cf := some (fileOf pool26 14 #[.nestHost 8] #[{ accessFlags := 0, nameIndex := 5, descriptorIndex := 6, attributes := #[] }] 1056 2 #[77, 124] #[])
  fields := #[]
  methods := #[k26m0]
  instanceTypes := #[]
  staticTypes := #[]
  resolved := Array.replicate 196 none
  statics := none }

def pool27 : Array CpInfo := pool [(1, .methodref 2 3), (0, .class_ 4), (0, .nameAndType 5 6), (0, u "java/util/ImmutableCollections$AbstractImmutableList"), (0, u "<init>"), (0, u "()V"), (0, .methodref 8 9), (0, .class_ 10), (0, .nameAndType 11 12), (0, u "java/util/Objects"), (0, u "requireNonNull"), (0, u "(Ljava/lang/Object;)Ljava/lang/Object;"), (0, .fieldref 14 15), (0, .class_ 16), (0, .nameAndType 17 18), (0, u "java/util/ImmutableCollections$List12"), (0, u "e0"), (0, u "Ljava/lang/Object;"), (0, .fieldref 20 21), (0, .class_ 22), (0, .nameAndType 23 18), (0, u "java/util/ImmutableCollections"), (0, u "EMPTY"), (0, .fieldref 14 25), (0, .nameAndType 26 18), (0, u "e1"), (43, .class_ 71), (0, u "java/io/Serializable"), (4, u "(Ljava/lang/Object;)V"), (8, u "(Ljava/lang/Object;Ljava/lang/Object;)V")] 39

def k27c0 : Code := { maxStack := 2, maxLocals := 2, code := jdk_44_method_1_code, exceptionTable := #[], attributes := #[] }
def k27m0 : Method := { name := "<init>", desc := "(Ljava/lang/Object;)V", sig := { parameters := [(.object "java/lang/Object")], returnType := none }, accessFlags := 0, code := some k27c0 }
def k27c1 : Code := { maxStack := 2, maxLocals := 3, code := jdk_44_method_2_code, exceptionTable := #[], attributes := #[] }
def k27m1 : Method := { name := "<init>", desc := "(Ljava/lang/Object;Ljava/lang/Object;)V", sig := { parameters := [(.object "java/lang/Object"), (.object "java/lang/Object")], returnType := none }, accessFlags := 0, code := some k27c1 }
/-- java/util/ImmutableCollections$List12 -/
def k27 : Class := { plain "java/util/ImmutableCollections$List12" (some 26) with
  accessFlags := 48
  interfaces := #[4]
  cf := some (fileOf pool27 14 #[.nestHost 20] #[{ accessFlags := 0, nameIndex := 5, descriptorIndex := 76, attributes := #[] }, { accessFlags := 0, nameIndex := 5, descriptorIndex := 85, attributes := #[] }] 48 2 #[70] #[{ accessFlags := 18, nameIndex := 17, descriptorIndex := 18, attributes := #[] }, { accessFlags := 18, nameIndex := 26, descriptorIndex := 18, attributes := #[] }])
  fields := #[{ name := "e0", type := (.object "java/lang/Object"), accessFlags := 18, slot := 0, constantValue := 0 }, { name := "e1", type := (.object "java/lang/Object"), accessFlags := 18, slot := 1, constantValue := 0 }]
  methods := #[k27m0, k27m1]
  instanceTypes := #[(.object "java/lang/Object"), (.object "java/lang/Object")]
  staticTypes := #[]
  resolved := Array.replicate 125 none
  statics := none }

def pool28 : Array CpInfo := pool [(1, .methodref 2 3), (0, .class_ 4), (0, .nameAndType 5 6), (0, u "java/util/ImmutableCollections$AbstractImmutableList"), (0, u "<init>"), (0, u "()V"), (0, .fieldref 8 9), (0, .class_ 10), (0, .nameAndType 11 12), (0, u "java/util/ImmutableCollections$ListN"), (0, u "elements"), (0, u "[Ljava/lang/Object;"), (0, .fieldref 8 14), (0, .nameAndType 15 16), (0, u "allowNulls"), (0, u "Z"), (42, .class_ 60), (0, u "java/io/Serializable"), (4, u "([Ljava/lang/Object;Z)V"), (48, .class_ 115), (0, u "java/util/ImmutableCollections")] 3

def k28c0 : Code := { maxStack := 2, maxLocals := 3, code := jdk_45_method_1_code, exceptionTable := #[], attributes := #[] }
def k28m0 : Method := { name := "<init>", desc := "([Ljava/lang/Object;Z)V", sig := { parameters := [(.array (.object "java/lang/Object")), .boolean], returnType := none }, accessFlags := 2, code := some k28c0 }
/-- java/util/ImmutableCollections$ListN -/
def k28 : Class := { plain "java/util/ImmutableCollections$ListN" (some 26) with
  accessFlags := 48
  interfaces := #[4]
  cf := some (fileOf pool28 8 #[.nestHost 114] #[{ accessFlags := 2, nameIndex := 5, descriptorIndex := 65, attributes := #[] }] 48 2 #[59] #[{ accessFlags := 18, nameIndex := 11, descriptorIndex := 12, attributes := #[] }, { accessFlags := 18, nameIndex := 15, descriptorIndex := 16, attributes := #[] }])
  fields := #[{ name := "elements", type := (.array (.object "java/lang/Object")), accessFlags := 18, slot := 0, constantValue := 0 }, { name := "allowNulls", type := .boolean, accessFlags := 18, slot := 1, constantValue := 0 }]
  methods := #[k28m0]
  instanceTypes := #[(.array (.object "java/lang/Object")), .boolean]
  staticTypes := #[]
  resolved := Array.replicate 119 none
  statics := none }

def pool29 : Array CpInfo := pool [(2, .class_ 4), (1, u "java/lang/Object"), (0, u "<init>"), (0, u "()V"), (7, .class_ 16), (1, u "java/util/Arrays"), (57, .class_ 76), (1, u "java/util/Arrays$NaturalOrder"), (9, .methodref 2 87), (0, .nameAndType 88 89), (0, u "getClass"), (0, u "()Ljava/lang/Class;"), (20, .class_ 111), (0, u "[Ljava/lang/Object;"), (1, .class_ 115), (1, u "java/util/Arrays$LegacyMergeSort"), (1, u "Z"), (32, .methodref 151 152), (0, .class_ 153), (0, .nameAndType 154 155), (0, u "java/lang/System"), (0, u "arraycopy"), (0, u "(Ljava/lang/Object;ILjava/lang/Object;II)V"), (144, .methodref 14 301), (0, .nameAndType 302 303), (0, u "copyOf"), (0, u "([Ljava/lang/Object;ILjava/lang/Class;)[Ljava/lang/Object;"), (0, .methodref 305 306), (0, .class_ 307), (0, .nameAndType 308 309), (0, u "java/lang/Math"), (0, u "min"), (0, u "(II)I"), (65, .class_ 376), (0, u "java/util/Arrays$ArrayList"), (68, u "$assertionsDisabled"), (269, u "MIN_ARRAY_SORT_GRAN"), (0, u "I"), (2, u "INSERTIONSORT_THRESHOLD"), (140, u "([Ljava/lang/Object;I)[Ljava/lang/Object;"), (114, .class_ 976), (0, u "java/util/Arrays$ArrayItr")] 52

def k29m0 : Method := { name := "<init>", desc := "()V", sig := { parameters := [], returnType := none }, accessFlags := 2, code := none }
def k29c1 : Code := { maxStack := 3, maxLocals := 2, code := jdk_65_method_119_code, exceptionTable := #[], attributes := #[] }
def k29m1 : Method := { name := "copyOf", desc := "([Ljava/lang/Object;I)[Ljava/lang/Object;", sig := { parameters := [(.array (.object "java/lang/Object")), .int], returnType := some (.array (.object "java/lang/Object")) }, accessFlags := 9, code := some k29c1 }
def k29c2 : Code := { maxStack := 6, maxLocals := 4, code := jdk_65_method_120_code, exceptionTable := #[], attributes := #[] }
def k29m2 : Method := { name := "copyOf", desc := "([Ljava/lang/Object;ILjava/lang/Class;)[Ljava/lang/Object;", sig := { parameters := [(.array (.object "java/lang/Object")), .int, (.object "java/lang/Class")], returnType := some (.array (.object "java/lang/Object")) }, accessFlags := 9, code := some k29c2 }
/-- java/util/Arrays -/
def k29 : Class := { plain "java/util/Arrays" (some 0) with
  accessFlags := 49
  interfaces := #[]
  cf := some (fileOf pool29 14 #[.nestMembers #[975, 375, 113, 74]] #[{ accessFlags := 2, nameIndex := 5, descriptorIndex := 6, attributes := #[] }, { accessFlags := 9, nameIndex := 302, descriptorIndex := 860, attributes := #[] }, { accessFlags := 9, nameIndex := 302, descriptorIndex := 303, attributes := #[] }] 49 2 #[] #[{ accessFlags := 26, nameIndex := 715, descriptorIndex := 716, attributes := #[] }, { accessFlags := 26, nameIndex := 719, descriptorIndex := 716, attributes := #[] }, { accessFlags := 4120, nameIndex := 445, descriptorIndex := 117, attributes := #[] }])
  fields := #[{ name := "MIN_ARRAY_SORT_GRAN", type := .int, accessFlags := 26, slot := 0, constantValue := 0 }, { name := "INSERTIONSORT_THRESHOLD", type := .int, accessFlags := 26, slot := 1, constantValue := 0 }, { name := "$assertionsDisabled", type := .boolean, accessFlags := 4120, slot := 2, constantValue := 0 }]
  methods := #[k29m0, k29m1, k29m2]
  instanceTypes := #[]
  staticTypes := #[.int, .int, .boolean]
  resolved := Array.replicate 1029 none
  statics := none }

def pool30 : Array CpInfo := pool [(2, .class_ 4), (1, u "java/lang/Object"), (0, u "<init>"), (0, u "()V"), (1, .class_ 10), (1, u "java/lang/System"), (0, u "allowSecurityManager"), (0, u "I"), (16, u "cons"), (0, u "Ljava/io/Console;"), (77, .class_ 110), (1, u "java/lang/System$CallersHolder"), (43, u "initialErrStream"), (0, u "Ljava/io/PrintStream;"), (19, u "security"), (0, u "Ljava/lang/SecurityManager;"), (31, .class_ 209), (0, u "java/lang/System$1"), (7, u "props"), (0, u "Ljava/util/Properties;"), (2, u "lineSeparator"), (0, u "Ljava/lang/String;"), (96, .class_ 321), (1, u "java/lang/System$LoggerFinder"), (5, .class_ 328), (0, u "java/lang/System$Logger"), (67, u "err"), (2, u "out"), (91, u "notSupportedJnuEncoding"), (15, u "in"), (17, u "initialIn"), (0, u "Ljava/io/InputStream;"), (35, u "bootLayer"), (0, u "Ljava/lang/ModuleLayer;"), (99, .class_ 664), (0, u "java/lang/System$2"), (9, u "NEVER"), (2, u "MAYBE"), (49, u "arraycopy"), (0, u "(Ljava/lang/Object;ILjava/lang/Object;II)V"), (72, .class_ 802), (0, u "java/lang/System$Logger$Level")] 31

def k30m0 : Method := { name := "<init>", desc := "()V", sig := { parameters := [], returnType := none }, accessFlags := 2, code := none }
def k30m1 : Method := { name := "arraycopy", desc := "(Ljava/lang/Object;ILjava/lang/Object;II)V", sig := { parameters := [(.object "java/lang/Object"), .int, (.object "java/lang/Object"), .int, .int], returnType := none }, accessFlags := 265, code := none }
/-- java/lang/System -/
def k30 : Class := { plain "java/lang/System" (some 0) with
  accessFlags := 49
  interfaces := #[]
  cf := some (fileOf pool30 8 #[.nestMembers #[319, 327, 801, 108, 663, 208]] #[{ accessFlags := 2, nameIndex := 5, descriptorIndex := 6, attributes := #[] }, { accessFlags := 265, nameIndex := 727, descriptorIndex := 728, attributes := #[] }] 49 2 #[] #[{ accessFlags := 25, nameIndex := 507, descriptorIndex := 526, attributes := #[] }, { accessFlags := 25, nameIndex := 399, descriptorIndex := 155, attributes := #[] }, { accessFlags := 25, nameIndex := 396, descriptorIndex := 155, attributes := #[] }, { accessFlags := 10, nameIndex := 525, descriptorIndex := 526, attributes := #[] }, { accessFlags := 26, nameIndex := 674, descriptorIndex := 12, attributes := #[] }, { accessFlags := 26, nameIndex := 677, descriptorIndex := 12, attributes := #[] }, { accessFlags := 10, nameIndex := 11, descriptorIndex := 12, attributes := #[] }, { accessFlags := 74, nameIndex := 175, descriptorIndex := 176, attributes := #[] }, { accessFlags := 10, nameIndex := 491, descriptorIndex := 222, attributes := #[] }, { accessFlags := 74, nameIndex := 29, descriptorIndex := 30, attributes := #[] }, { accessFlags := 74, nameIndex := 154, descriptorIndex := 155, attributes := #[] }, { accessFlags := 10, nameIndex := 217, descriptorIndex := 218, attributes := #[] }, { accessFlags := 10, nameIndex := 221, descriptorIndex := 222, attributes := #[] }, { accessFlags := 8, nameIndex := 562, descriptorIndex := 563, attributes := #[] }])
  fields := #[{ name := "in", type := (.object "java/io/InputStream"), accessFlags := 25, slot := 0, constantValue := 0 }, { name := "out", type := (.object "java/io/PrintStream"), accessFlags := 25, slot := 1, constantValue := 0 }, { name := "err", type := (.object "java/io/PrintStream"), accessFlags := 25, slot := 2, constantValue := 0 }, { name := "initialIn", type := (.object "java/io/InputStream"), accessFlags := 10, slot := 3, constantValue := 0 }, { name := "NEVER", type := .int, accessFlags := 26, slot := 4, constantValue := 0 }, { name := "MAYBE", type := .int, accessFlags := 26, slot := 5, constantValue := 0 }, { name := "allowSecurityManager", type := .int, accessFlags := 10, slot := 6, constantValue := 0 }, { name := "security", type := (.object "java/lang/SecurityManager"), accessFlags := 74, slot := 7, constantValue := 0 }, { name := "notSupportedJnuEncoding", type := (.object "java/lang/String"), accessFlags := 10, slot := 8, constantValue := 0 }, { name := "cons", type := (.object "java/io/Console"), accessFlags := 74, slot := 9, constantValue := 0 }, { name := "initialErrStream", type := (.object "java/io/PrintStream"), accessFlags := 74, slot := 10, constantValue := 0 }, { name := "props", type := (.object "java/util/Properties"), accessFlags := 10, slot := 11, constantValue := 0 }, { name := "lineSeparator", type := (.object "java/lang/String"), accessFlags := 10, slot := 12, constantValue := 0 }, { name := "bootLayer", type := (.object "java/lang/ModuleLayer"), accessFlags := 8, slot := 13, constantValue := 0 }]
  methods := #[k30m0, k30m1]
  instanceTypes := #[]
  staticTypes := #[(.object "java/io/InputStream"), (.object "java/io/PrintStream"), (.object "java/io/PrintStream"), (.object "java/io/InputStream"), .int, .int, .int, (.object "java/lang/SecurityManager"), (.object "java/lang/String"), (.object "java/io/Console"), (.object "java/io/PrintStream"), (.object "java/util/Properties"), (.object "java/lang/String"), (.object "java/lang/ModuleLayer")]
  resolved := Array.replicate 834 none
  statics := none }

def pool31 : Array CpInfo := pool [(2, .class_ 4), (1, u "java/lang/Object"), (0, u "<init>"), (0, u "()V"), (35, .class_ 44), (1, u "java/util/Objects"), (0, u "requireNonNull"), (0, u "(Ljava/lang/Object;)Ljava/lang/Object;")] 137

def k31m0 : Method := { name := "<init>", desc := "()V", sig := { parameters := [], returnType := none }, accessFlags := 2, code := none }
def k31c1 : Code := { maxStack := 2, maxLocals := 1, code := jdk_31_method_10_code, exceptionTable := #[], attributes := #[] }
def k31m1 : Method := { name := "requireNonNull", desc := "(Ljava/lang/Object;)Ljava/lang/Object;", sig := { parameters := [(.object "java/lang/Object")], returnType := some (.object "java/lang/Object") }, accessFlags := 9, code := some k31c1 }
/-- java/util/Objects -/
def k31 : Class := { plain "java/util/Objects" (some 0) with
  accessFlags := 49
  interfaces := #[]
  cf := some (fileOf pool31 42 #[] #[{ accessFlags := 2, nameIndex := 5, descriptorIndex := 6, attributes := #[] }, { accessFlags := 9, nameIndex := 45, descriptorIndex := 46, attributes := #[] }] 49 2 #[] #[])
  fields := #[]
  methods := #[k31m0, k31m1]
  instanceTypes := #[]
  staticTypes := #[]
  resolved := Array.replicate 184 none
  statics := none }

def pool32 : Array CpInfo := pool [(2, .class_ 4), (1, u "java/lang/Object"), (0, u "<init>"), (0, u "()V"), (17, .class_ 26), (1, u "jdk/internal/util/Preconditions"), (28, .class_ 56), (0, u "jdk/internal/util/Preconditions$4"), (57, .class_ 115), (0, u "jdk/internal/util/Preconditions$1"), (7, u "SIOOBE_FORMATTER"), (0, u "Ljava/util/function/BiFunction;"), (0, .class_ 126), (0, u "jdk/internal/util/Preconditions$2"), (3, u "AIOOBE_FORMATTER"), (0, .class_ 132), (0, u "jdk/internal/util/Preconditions$3"), (3, u "IOOBE_FORMATTER")] 57

def k32m0 : Method := { name := "<init>", desc := "()V", sig := { parameters := [], returnType := none }, accessFlags := 1, code := none }
/-- jdk/internal/util/Preconditions -/
def k32 : Class := { plain "jdk/internal/util/Preconditions" (some 0) with
  accessFlags := 33
  interfaces := #[]
  cf := some (fileOf pool32 24 #[.nestMembers #[55, 131, 125, 114]] #[{ accessFlags := 1, nameIndex := 5, descriptorIndex := 6, attributes := #[] }] 33 2 #[] #[{ accessFlags := 25, nameIndex := 123, descriptorIndex := 124, attributes := #[] }, { accessFlags := 25, nameIndex := 130, descriptorIndex := 124, attributes := #[] }, { accessFlags := 25, nameIndex := 136, descriptorIndex := 124, attributes := #[] }])
  fields := #[{ name := "SIOOBE_FORMATTER", type := (.object "java/util/function/BiFunction"), accessFlags := 25, slot := 0, constantValue := 0 }, { name := "AIOOBE_FORMATTER", type := (.object "java/util/function/BiFunction"), accessFlags := 25, slot := 1, constantValue := 0 }, { name := "IOOBE_FORMATTER", type := (.object "java/util/function/BiFunction"), accessFlags := 25, slot := 2, constantValue := 0 }]
  methods := #[k32m0]
  instanceTypes := #[]
  staticTypes := #[(.object "java/util/function/BiFunction"), (.object "java/util/function/BiFunction"), (.object "java/util/function/BiFunction")]
  resolved := Array.replicate 194 none
  statics := some 4 }

def pool33 : Array CpInfo := pool [(9, u "<init>"), (6, .class_ 18), (1, u "java/lang/Object"), (0, u "()V"), (1, .class_ 23), (1, u "jdk/internal/util/ArraysSupport"), (0, u "LOG2_ARRAY_LONG_INDEX_SCALE"), (0, u "I"), (2, u "U"), (0, u "Ljdk/internal/misc/Unsafe;"), (8, u "BIG_ENDIAN"), (0, u "Z"), (8, u "LOG2_BYTE_BIT_SIZE"), (4, u "LOG2_ARRAY_INT_INDEX_SCALE"), (54, u "JLA"), (0, u "Ljdk/internal/access/JavaLangAccess;"), (11, u "LOG2_ARRAY_BOOLEAN_INDEX_SCALE"), (9, u "LOG2_ARRAY_BYTE_INDEX_SCALE"), (5, u "LOG2_ARRAY_CHAR_INDEX_SCALE"), (5, u "LOG2_ARRAY_SHORT_INDEX_SCALE"), (18, u "LOG2_ARRAY_FLOAT_INDEX_SCALE"), (24, u "LOG2_ARRAY_DOUBLE_INDEX_SCALE"), (89, u "T_BOOLEAN"), (2, u "T_CHAR"), (1, u "T_FLOAT"), (1, u "T_DOUBLE"), (1, u "T_BYTE"), (1, u "T_SHORT"), (1, u "T_INT"), (1, u "T_LONG"), (1, u "SOFT_MAX_ARRAY_LENGTH")] 83

def k33m0 : Method := { name := "<init>", desc := "()V", sig := { parameters := [], returnType := none }, accessFlags := 2, code := none }
/-- jdk/internal/util/ArraysSupport -/
def k33 : Class := { plain "jdk/internal/util/ArraysSupport" (some 0) with
  accessFlags := 33
  interfaces := #[]
  cf := some (fileOf pool33 21 #[] #[{ accessFlags := 2, nameIndex := 9, descriptorIndex := 19, attributes := #[] }] 33 16 #[] #[{ accessFlags := 24, nameIndex := 28, descriptorIndex := 29, attributes := #[] }, { accessFlags := 26, nameIndex := 38, descriptorIndex := 39, attributes := #[] }, { accessFlags := 25, nameIndex := 121, descriptorIndex := 25, attributes := #[] }, { accessFlags := 25, nameIndex := 131, descriptorIndex := 25, attributes := #[] }, { accessFlags := 25, nameIndex := 137, descriptorIndex := 25, attributes := #[] }, { accessFlags := 25, nameIndex := 143, descriptorIndex := 25, attributes := #[] }, { accessFlags := 25, nameIndex := 53, descriptorIndex := 25, attributes := #[] }, { accessFlags := 25, nameIndex := 24, descriptorIndex := 25, attributes := #[] }, { accessFlags := 25, nameIndex := 162, descriptorIndex := 25, attributes := #[] }, { accessFlags := 25, nameIndex := 187, descriptorIndex := 25, attributes := #[] }, { accessFlags := 26, nameIndex := 48, descriptorIndex := 25, attributes := #[] }, { accessFlags := 25, nameIndex := 277, descriptorIndex := 25, attributes := #[] }, { accessFlags := 25, nameIndex := 280, descriptorIndex := 25, attributes := #[] }, { accessFlags := 25, nameIndex := 282, descriptorIndex := 25, attributes := #[] }, { accessFlags := 25, nameIndex := 284, descriptorIndex := 25, attributes := #[] }, { accessFlags := 25, nameIndex := 286, descriptorIndex := 25, attributes := #[] }, { accessFlags := 25, nameIndex := 288, descriptorIndex := 25, attributes := #[] }, { accessFlags := 25, nameIndex := 290, descriptorIndex := 25, attributes := #[] }, { accessFlags := 25, nameIndex := 292, descriptorIndex := 25, attributes := #[] }, { accessFlags := 26, nameIndex := 108, descriptorIndex := 109, attributes := #[] }, { accessFlags := 25, nameIndex := 294, descriptorIndex := 25, attributes := #[] }])
  fields := #[{ name := "U", type := (.object "jdk/internal/misc/Unsafe"), accessFlags := 24, slot := 0, constantValue := 0 }, { name := "BIG_ENDIAN", type := .boolean, accessFlags := 26, slot := 1, constantValue := 0 }, { name := "LOG2_ARRAY_BOOLEAN_INDEX_SCALE", type := .int, accessFlags := 25, slot := 2, constantValue := 0 }, { name := "LOG2_ARRAY_BYTE_INDEX_SCALE", type := .int, accessFlags := 25, slot := 3, constantValue := 0 }, { name := "LOG2_ARRAY_CHAR_INDEX_SCALE", type := .int, accessFlags := 25, slot := 4, constantValue := 0 }, { name := "LOG2_ARRAY_SHORT_INDEX_SCALE", type := .int, accessFlags := 25, slot := 5, constantValue := 0 }, { name := "LOG2_ARRAY_INT_INDEX_SCALE", type := .int, accessFlags := 25, slot := 6, constantValue := 0 }, { name := "LOG2_ARRAY_LONG_INDEX_SCALE", type := .int, accessFlags := 25, slot := 7, constantValue := 0 }, { name := "LOG2_ARRAY_FLOAT_INDEX_SCALE", type := .int, accessFlags := 25, slot := 8, constantValue := 0 }, { name := "LOG2_ARRAY_DOUBLE_INDEX_SCALE", type := .int, accessFlags := 25, slot := 9, constantValue := 0 }, { name := "LOG2_BYTE_BIT_SIZE", type := .int, accessFlags := 26, slot := 10, constantValue := 0 }, { name := "T_BOOLEAN", type := .int, accessFlags := 25, slot := 11, constantValue := 0 }, { name := "T_CHAR", type := .int, accessFlags := 25, slot := 12, constantValue := 0 }, { name := "T_FLOAT", type := .int, accessFlags := 25, slot := 13, constantValue := 0 }, { name := "T_DOUBLE", type := .int, accessFlags := 25, slot := 14, constantValue := 0 }, { name := "T_BYTE", type := .int, accessFlags := 25, slot := 15, constantValue := 0 }, { name := "T_SHORT", type := .int, accessFlags := 25, slot := 16, constantValue := 0 }, { name := "T_INT", type := .int, accessFlags := 25, slot := 17, constantValue := 0 }, { name := "T_LONG", type := .int, accessFlags := 25, slot := 18, constantValue := 0 }, { name := "JLA", type := (.object "jdk/internal/access/JavaLangAccess"), accessFlags := 26, slot := 19, constantValue := 0 }, { name := "SOFT_MAX_ARRAY_LENGTH", type := .int, accessFlags := 25, slot := 20, constantValue := 0 }]
  methods := #[k33m0]
  instanceTypes := #[]
  staticTypes := #[(.object "jdk/internal/misc/Unsafe"), .boolean, .int, .int, .int, .int, .int, .int, .int, .int, .int, .int, .int, .int, .int, .int, .int, .int, .int, (.object "jdk/internal/access/JavaLangAccess"), .int]
  resolved := Array.replicate 378 none
  statics := none }

/-- the primitive byte -/
def k34 : Class := { plain "byte" none with kind := .primitive 'B', accessFlags := 0x411 }
/-- [B -/
def k35 : Class := { plain "[B" (some 0) with kind := .array 34 .byte, interfaces := #[18, 4], accessFlags := 1041 }

/-- the primitive char -/
def k36 : Class := { plain "char" none with kind := .primitive 'C', accessFlags := 0x411 }
/-- [C -/
def k37 : Class := { plain "[C" (some 0) with kind := .array 36 .char, interfaces := #[18, 4], accessFlags := 1041 }

/-- the primitive int -/
def k38 : Class := { plain "int" none with kind := .primitive 'I', accessFlags := 0x411 }
/-- [I -/
def k39 : Class := { plain "[I" (some 0) with kind := .array 38 .int, interfaces := #[18, 4], accessFlags := 1041 }

/-- [Ljava/lang/Object; -/
def k40 : Class := { plain "[Ljava/lang/Object;" (some 0) with mirror := some 15, kind := .array 0 (.object "java/lang/Object"), interfaces := #[18, 4], accessFlags := 1041 }

/-- the class of Class objects -/
def k41 : Class := plain "java/lang/Class" (some 0)

def heap : Heap := #[{ cls := 6, slots := #[.ref 6, .ref 7, .ref 8, .ref 9, .ref 10, .null], vm := .statics 6 },
  { cls := 9, slots := #[.long 0, .int 1, .null, .int 0, .null, .int 0, .int 0], vm := .statics 9 },
  { cls := 19, slots := #[.long 0, .int 0, .ref 12, .ref 13], vm := .statics 19 },
  { cls := 24, slots := #[.long 0, .int 0, .null, .ref 14, .ref 11, .null, .null, .null, .int 0, .int 1], vm := .statics 24 },
  { cls := 32, slots := #[.null, .null, .null], vm := .statics 32 },
  { cls := 40, slots := #[], vm := .none },
  { cls := 6, slots := #[.null, .int 0, .int 0], vm := .none },
  { cls := 6, slots := #[.null, .int 1, .int 0], vm := .none },
  { cls := 6, slots := #[.null, .int 2, .int 0], vm := .none },
  { cls := 6, slots := #[.null, .int 3, .int 0], vm := .none },
  { cls := 6, slots := #[.null, .int 4, .int 0], vm := .none },
  { cls := 28, slots := #[.ref 5, .int 0], vm := .none },
  { cls := 40, slots := #[], vm := .none },
  { cls := 40, slots := #[], vm := .none },
  { cls := 0, slots := #[], vm := .none },
  { cls := 41, slots := #[], vm := .mirror 40 }]
def classes : Array Class := #[k0, k1, k2, k3, k4, k5, k6, k7, k8, k9, k10, k11, k12, k13, k14, k15, k16, k17, k18, k19, k20, k21, k22, k23, k24, k25, k26, k27, k28, k29, k30, k31, k32, k33, k34, k35, k36, k37, k38, k39, k40, k41]
def interned : List (Array UInt16 × Addr) := []
def slotsUsed : Nat := 47
def theMethod : MethodId := ⟨1, 1⟩
def args0 : Array Value := #[.int 5, .int 5, .int 3]
def aboutOver (below : List Frame) : State where
  vm := { classes := classes, interned := interned.toArray }
  heap := heap
  slotsUsed := slotsUsed
  threads := #[{ frames := .invoking theMethod args0 :: below }]
def below0 : List Frame := [.native { method := ⟨0, 0⟩, args := #[] }]
def about1 : State := aboutOver below0
def p0 : Program := .bare "" "" ""
def e0 : Env := launch0.env 0 0 0
theorem w_frames : about1.frames = Frame.invoking theMethod args0 :: below0 := rfl
set_option maxRecDepth 65536 in
theorem w_args : argsFit about1.vm theMethod args0 = true := by decide +kernel
set_option maxRecDepth 65536 in
theorem w_heap : heapFits about1 = true := by decide +kernel
set_option maxRecDepth 65536 in
theorem w_runnable : about1.curStatus? = some .runnable := by decide +kernel
set_option maxRecDepth 65536 in
theorem w_alone : about1.alone = true := by decide +kernel
set_option maxRecDepth 65536 in
theorem w_named : about1.methodNamed? x = some theMethod := by decide +kernel
set_option maxRecDepth 65536 in
theorem w_hears : about1.hears theMethod below0 = true := by decide +kernel
set_option maxRecDepth 65536 in
theorem w_ripe : about1.ripe theMethod args0 below0 = true := by decide +kernel
theorem w_running : about1.status = .running := rfl
set_option maxRecDepth 65536 in
theorem w_room : about1.hasRoom e0.platform room_1 = true :=
  launch0.hasRoom_least _ room_1 (by decide +kernel) (by decide +kernel) (by decide +kernel) (by decide +kernel) (by decide +kernel) (by decide +kernel)
theorem allAtoms_all (ts : List Jvm.Cond) (a : Array Jvm.Value) (st : Jvm.State) : (allAtoms ts).before a st = ts.all (fun c => c.before a st) := by
  induction ts with
  | nil => rfl
  | cons c t ih =>
    show (Jvm.Cond.and c (allAtoms t)).before a st = _
    rw [Jvm.Cond.before_and, ih, List.all_cons]
def words1 : List Jvm.Cond := Jvm.Cond.code x code maxLocals ret :: tables_1
/-- a 'code' word, met by the world's own term for the bytes: nothing is compared byte by byte -/
theorem code_word {y : MethodName} {bytes : ByteArray} {mx : Nat} {rt : Option FieldType} {a : Array Value} {s : State} {m : MethodId} {meth : Method} {c : Code} (h1 : s.methodNamed? y = some m) (h2 : s.vm.method? m = some meth) (h3 : meth.code = some c) (h4 : c.code = bytes)
    (h5 : (c.maxLocals == mx && c.exceptionTable.isEmpty && decide (c.maxStack ≤ mostOperands) && decide (meth.sig.returnType = rt) && !meth.locks && decide (parseMethodDescriptor y.desc = some meth.sig)) = true) : (Jvm.Cond.code y bytes mx rt).before a s = true := by
  simp only [Bool.and_eq_true, beq_iff_eq, Bool.not_eq_true', decide_eq_true_eq] at h5
  obtain ⟨⟨⟨⟨⟨g1, g2⟩, g3⟩, g4⟩, g5⟩, g6⟩ := h5
  simp [Cond.before, Cond.holds, Cond.value, h1, h2, h3, h4, g1, g2, g3, g4, g5, g6]
def isCode : Jvm.Cond → Bool
  | .code _ _ _ _ => true
  | _ => false
theorem all_split {L : List Jvm.Cond} {P : Jvm.Cond → Bool} (h1 : L.all (fun c => isCode c || P c) = true) (h2 : ∀ c ∈ L.filter isCode, P c = true) : L.all P = true := by
  refine List.all_eq_true.mpr fun c hc => ?_
  have h := List.all_eq_true.mp h1 c hc
  rcases Bool.eq_false_or_eq_true (isCode c) with hi | hi
  · exact h2 c (List.mem_filter.mpr ⟨hc, hi⟩)
  · simpa [hi] using h
set_option maxRecDepth 65536 in
theorem w_c0 : (Jvm.Cond.code x code maxLocals ret).before args0 about1 = true := code_word (m := ⟨1, 1⟩) (meth := k1m1) (c := k1c1) (by decide +kernel) rfl rfl rfl (by decide +kernel)
set_option maxRecDepth 65536 in
theorem w_c1 : (Jvm.Cond.code ({ cls := "java/lang/String", name := "<init>", desc := "([C)V" } : Jvm.MethodName) jdk_42_method_3_code (2 : Nat) (Option.none : Option Jvm.ClassFile.FieldType)).before args0 about1 = true := code_word (m := ⟨9, 1⟩) (meth := k9m1) (c := k9c1) (by decide +kernel) rfl rfl rfl (by decide +kernel)
set_option maxRecDepth 65536 in
theorem w_c2 : (Jvm.Cond.code ({ cls := "java/lang/String", name := "<init>", desc := "([CIILjava/lang/Void;)V" } : Jvm.MethodName) jdk_42_method_149_code (6 : Nat) (Option.none : Option Jvm.ClassFile.FieldType)).before args0 about1 = true := code_word (m := ⟨9, 3⟩) (meth := k9m3) (c := k9c3) (by decide +kernel) rfl rfl rfl (by decide +kernel)
set_option maxRecDepth 65536 in
theorem w_c3 : (Jvm.Cond.code ({ cls := "java/lang/Object", name := "<init>", desc := "()V" } : Jvm.MethodName) object_method_1_code (1 : Nat) (Option.none : Option Jvm.ClassFile.FieldType)).before args0 about1 = true := code_word (m := ⟨0, 0⟩) (meth := k0m0) (c := k0c0) (by decide +kernel) rfl rfl rfl (by decide +kernel)
set_option maxRecDepth 65536 in
theorem w_c4 : (Jvm.Cond.code ({ cls := "java/lang/StringUTF16", name := "compress", desc := "([CII)[B" } : Jvm.MethodName) jdk_52_method_16_code (6 : Nat) (Option.some (Jvm.ClassFile.FieldType.array Jvm.ClassFile.FieldType.byte))).before args0 about1 = true := code_word (m := ⟨10, 2⟩) (meth := k10m2) (c := k10c2) (by decide +kernel) rfl rfl rfl (by decide +kernel)
set_option maxRecDepth 65536 in
theorem w_c5 : (Jvm.Cond.code ({ cls := "java/lang/StringUTF16", name := "compress", desc := "([CI[BII)I" } : Jvm.MethodName) jdk_52_method_21_code (7 : Nat) (Option.some Jvm.ClassFile.FieldType.int)).before args0 about1 = true := code_word (m := ⟨10, 3⟩) (meth := k10m3) (c := k10c3) (by decide +kernel) rfl rfl rfl (by decide +kernel)
set_option maxRecDepth 65536 in
theorem w_c6 : (Jvm.Cond.code ({ cls := "java/lang/StringUTF16", name := "coderFromArrayLen", desc := "([BI)B" } : Jvm.MethodName) jdk_52_method_15_code (2 : Nat) (Option.some Jvm.ClassFile.FieldType.byte)).before args0 about1 = true := code_word (m := ⟨10, 1⟩) (meth := k10m1) (c := k10c1) (by decide +kernel) rfl rfl rfl (by decide +kernel)
set_option maxRecDepth 65536 in
theorem w_c7 : (Jvm.Cond.code ({ cls := "java/util/ArrayList", name := "<init>", desc := "()V" } : Jvm.MethodName) jdk_38_method_2_code (1 : Nat) (Option.none : Option Jvm.ClassFile.FieldType)).before args0 about1 = true := code_word (m := ⟨19, 0⟩) (meth := k19m0) (c := k19c0) (by decide +kernel) rfl rfl rfl (by decide +kernel)
set_option maxRecDepth 65536 in
theorem w_c8 : (Jvm.Cond.code ({ cls := "java/util/AbstractList", name := "<init>", desc := "()V" } : Jvm.MethodName) jdk_39_method_1_code (1 : Nat) (Option.none : Option Jvm.ClassFile.FieldType)).before args0 about1 = true := code_word (m := ⟨16, 0⟩) (meth := k16m0) (c := k16c0) (by decide +kernel) rfl rfl rfl (by decide +kernel)
set_option maxRecDepth 65536 in
theorem w_c9 : (Jvm.Cond.code ({ cls := "java/util/AbstractCollection", name := "<init>", desc := "()V" } : Jvm.MethodName) jdk_22_method_1_code (1 : Nat) (Option.none : Option Jvm.ClassFile.FieldType)).before args0 about1 = true := code_word (m := ⟨13, 0⟩) (meth := k13m0) (c := k13c0) (by decide +kernel) rfl rfl rfl (by decide +kernel)
set_option maxRecDepth 65536 in
theorem w_c10 : (Jvm.Cond.code ({ cls := "java/lang/String", name := "valueOf", desc := "(C)Ljava/lang/String;" } : Jvm.MethodName) jdk_42_method_139_code (1 : Nat) (Option.some (Jvm.ClassFile.FieldType.object "java/lang/String"))).before args0 about1 = true := code_word (m := ⟨9, 2⟩) (meth := k9m2) (c := k9c2) (by decide +kernel) rfl rfl rfl (by decide +kernel)
set_option maxRecDepth 65536 in
theorem w_c11 : (Jvm.Cond.code ({ cls := "java/lang/StringLatin1", name := "canEncode", desc := "(C)Z" } : Jvm.MethodName) jdk_43_method_3_code (1 : Nat) (Option.some Jvm.ClassFile.FieldType.boolean)).before args0 about1 = true := code_word (m := ⟨20, 1⟩) (meth := k20m1) (c := k20c1) (by decide +kernel) rfl rfl rfl (by decide +kernel)
set_option maxRecDepth 65536 in
theorem w_c12 : (Jvm.Cond.code ({ cls := "java/lang/StringLatin1", name := "toBytes", desc := "(C)[B" } : Jvm.MethodName) jdk_43_method_46_code (1 : Nat) (Option.some (Jvm.ClassFile.FieldType.array Jvm.ClassFile.FieldType.byte))).before args0 about1 = true := code_word (m := ⟨20, 2⟩) (meth := k20m2) (c := k20c2) (by decide +kernel) rfl rfl rfl (by decide +kernel)
set_option maxRecDepth 65536 in
theorem w_c13 : (Jvm.Cond.code ({ cls := "java/lang/String", name := "<init>", desc := "([BB)V" } : Jvm.MethodName) jdk_42_method_151_code (3 : Nat) (Option.none : Option Jvm.ClassFile.FieldType)).before args0 about1 = true := code_word (m := ⟨9, 4⟩) (meth := k9m4) (c := k9c4) (by decide +kernel) rfl rfl rfl (by decide +kernel)
set_option maxRecDepth 65536 in
theorem w_c14 : (Jvm.Cond.code ({ cls := "java/util/ArrayList", name := "add", desc := "(Ljava/lang/Object;)Z" } : Jvm.MethodName) jdk_38_method_25_code (2 : Nat) (Option.some Jvm.ClassFile.FieldType.boolean)).before args0 about1 = true := code_word (m := ⟨19, 6⟩) (meth := k19m6) (c := k19c6) (by decide +kernel) rfl rfl rfl (by decide +kernel)
set_option maxRecDepth 65536 in
theorem w_c15 : (Jvm.Cond.code ({ cls := "java/util/ArrayList", name := "add", desc := "(Ljava/lang/Object;[Ljava/lang/Object;I)V" } : Jvm.MethodName) jdk_38_method_24_code (4 : Nat) (Option.none : Option Jvm.ClassFile.FieldType)).before args0 about1 = true := code_word (m := ⟨19, 5⟩) (meth := k19m5) (c := k19c5) (by decide +kernel) rfl rfl rfl (by decide +kernel)
set_option maxRecDepth 65536 in
theorem w_c16 : (Jvm.Cond.code ({ cls := "java/util/ArrayList", name := "grow", desc := "()[Ljava/lang/Object;" } : Jvm.MethodName) jdk_38_method_7_code (1 : Nat) (Option.some (Jvm.ClassFile.FieldType.array (Jvm.ClassFile.FieldType.object "java/lang/Object")))).before args0 about1 = true := code_word (m := ⟨19, 2⟩) (meth := k19m2) (c := k19c2) (by decide +kernel) rfl rfl rfl (by decide +kernel)
set_option maxRecDepth 65536 in
theorem w_c17 : (Jvm.Cond.code ({ cls := "java/util/ArrayList", name := "grow", desc := "(I)[Ljava/lang/Object;" } : Jvm.MethodName) jdk_38_method_6_code (4 : Nat) (Option.some (Jvm.ClassFile.FieldType.array (Jvm.ClassFile.FieldType.object "java/lang/Object")))).before args0 about1 = true := code_word (m := ⟨19, 1⟩) (meth := k19m1) (c := k19c1) (by decide +kernel) rfl rfl rfl (by decide +kernel)
set_option maxRecDepth 65536 in
theorem w_c18 : (Jvm.Cond.code ({ cls := "java/lang/Math", name := "max", desc := "(II)I" } : Jvm.MethodName) jdk_29_method_65_code (2 : Nat) (Option.some Jvm.ClassFile.FieldType.int)).before args0 about1 = true := code_word (m := ⟨21, 1⟩) (meth := k21m1) (c := k21c1) (by decide +kernel) rfl rfl rfl (by decide +kernel)
set_option maxRecDepth 65536 in
theorem w_c19 : (Jvm.Cond.code ({ cls := "com/example/gridtally/gridtally/determinant/Column", name := "<init>", desc := "(Ljava/lang/String;Lcom/example/gridtally/gridtally/determinant/Column$Kind;Ljava/util/List;)V" } : Jvm.MethodName) prog_3_method_1_code (4 : Nat) (Option.none : Option Jvm.ClassFile.FieldType)).before args0 about1 = true := code_word (m := ⟨23, 0⟩) (meth := k23m0) (c := k23c0) (by decide +kernel) rfl rfl rfl (by decide +kernel)
set_option maxRecDepth 65536 in
theorem w_c20 : (Jvm.Cond.code ({ cls := "java/lang/Record", name := "<init>", desc := "()V" } : Jvm.MethodName) jdk_30_method_1_code (1 : Nat) (Option.none : Option Jvm.ClassFile.FieldType)).before args0 about1 = true := code_word (m := ⟨22, 0⟩) (meth := k22m0) (c := k22c0) (by decide +kernel) rfl rfl rfl (by decide +kernel)
set_option maxRecDepth 65536 in
theorem w_c21 : (Jvm.Cond.code ({ cls := "java/util/List", name := "copyOf", desc := "(Ljava/util/Collection;)Ljava/util/List;" } : Jvm.MethodName) jdk_40_method_48_code (1 : Nat) (Option.some (Jvm.ClassFile.FieldType.object "java/util/List"))).before args0 about1 = true := code_word (m := ⟨15, 2⟩) (meth := k15m2) (c := k15c2) (by decide +kernel) rfl rfl rfl (by decide +kernel)
set_option maxRecDepth 65536 in
theorem w_c22 : (Jvm.Cond.code ({ cls := "java/util/ImmutableCollections", name := "listCopy", desc := "(Ljava/util/Collection;)Ljava/util/List;" } : Jvm.MethodName) jdk_56_method_3_code (2 : Nat) (Option.some (Jvm.ClassFile.FieldType.object "java/util/List"))).before args0 about1 = true := code_word (m := ⟨24, 1⟩) (meth := k24m1) (c := k24c1) (by decide +kernel) rfl rfl rfl (by decide +kernel)
set_option maxRecDepth 65536 in
theorem w_c23 : (Jvm.Cond.code ({ cls := "java/util/ArrayList", name := "isEmpty", desc := "()Z" } : Jvm.MethodName) jdk_38_method_9_code (1 : Nat) (Option.some Jvm.ClassFile.FieldType.boolean)).before args0 about1 = true := code_word (m := ⟨19, 3⟩) (meth := k19m3) (c := k19c3) (by decide +kernel) rfl rfl rfl (by decide +kernel)
set_option maxRecDepth 65536 in
theorem w_c24 : (Jvm.Cond.code ({ cls := "java/util/ArrayList", name := "toArray", desc := "()[Ljava/lang/Object;" } : Jvm.MethodName) jdk_38_method_16_code (1 : Nat) (Option.some (Jvm.ClassFile.FieldType.array (Jvm.ClassFile.FieldType.object "java/lang/Object")))).before args0 about1 = true := code_word (m := ⟨19, 4⟩) (meth := k19m4) (c := k19c4) (by decide +kernel) rfl rfl rfl (by decide +kernel)
set_option maxRecDepth 65536 in
theorem w_c25 : (Jvm.Cond.code ({ cls := "java/util/Arrays", name := "copyOf", desc := "([Ljava/lang/Object;I)[Ljava/lang/Object;" } : Jvm.MethodName) jdk_65_method_119_code (2 : Nat) (Option.some (Jvm.ClassFile.FieldType.array (Jvm.ClassFile.FieldType.object "java/lang/Object")))).before args0 about1 = true := code_word (m := ⟨29, 1⟩) (meth := k29m1) (c := k29c1) (by decide +kernel) rfl rfl rfl (by decide +kernel)
set_option maxRecDepth 65536 in
theorem w_c26 : (Jvm.Cond.code ({ cls := "java/util/Arrays", name := "copyOf", desc := "([Ljava/lang/Object;ILjava/lang/Class;)[Ljava/lang/Object;" } : Jvm.MethodName) jdk_65_method_120_code (4 : Nat) (Option.some (Jvm.ClassFile.FieldType.array (Jvm.ClassFile.FieldType.object "java/lang/Object")))).before args0 about1 = true := code_word (m := ⟨29, 2⟩) (meth := k29m2) (c := k29c2) (by decide +kernel) rfl rfl rfl (by decide +kernel)
set_option maxRecDepth 65536 in
theorem w_c27 : (Jvm.Cond.code ({ cls := "java/lang/Math", name := "min", desc := "(II)I" } : Jvm.MethodName) jdk_29_method_69_code (2 : Nat) (Option.some Jvm.ClassFile.FieldType.int)).before args0 about1 = true := code_word (m := ⟨21, 2⟩) (meth := k21m2) (c := k21c2) (by decide +kernel) rfl rfl rfl (by decide +kernel)
set_option maxRecDepth 65536 in
theorem w_c28 : (Jvm.Cond.code ({ cls := "java/util/List", name := "of", desc := "([Ljava/lang/Object;)Ljava/util/List;" } : Jvm.MethodName) jdk_40_method_47_code (2 : Nat) (Option.some (Jvm.ClassFile.FieldType.object "java/util/List"))).before args0 about1 = true := code_word (m := ⟨15, 1⟩) (meth := k15m1) (c := k15c1) (by decide +kernel) rfl rfl rfl (by decide +kernel)
set_option maxRecDepth 65536 in
theorem w_c29 : (Jvm.Cond.code ({ cls := "java/util/ImmutableCollections$List12", name := "<init>", desc := "(Ljava/lang/Object;Ljava/lang/Object;)V" } : Jvm.MethodName) jdk_44_method_2_code (3 : Nat) (Option.none : Option Jvm.ClassFile.FieldType)).before args0 about1 = true := code_word (m := ⟨27, 1⟩) (meth := k27m1) (c := k27c1) (by decide +kernel) rfl rfl rfl (by decide +kernel)
set_option maxRecDepth 65536 in
theorem w_c30 : (Jvm.Cond.code ({ cls := "java/util/ImmutableCollections$AbstractImmutableList", name := "<init>", desc := "()V" } : Jvm.MethodName) jdk_46_method_1_code (1 : Nat) (Option.none : Option Jvm.ClassFile.FieldType)).before args0 about1 = true := code_word (m := ⟨26, 0⟩) (meth := k26m0) (c := k26c0) (by decide +kernel) rfl rfl rfl (by decide +kernel)
set_option maxRecDepth 65536 in
theorem w_c31 : (Jvm.Cond.code ({ cls := "java/util/ImmutableCollections$AbstractImmutableCollection", name := "<init>", desc := "()V" } : Jvm.MethodName) jdk_47_method_1_code (1 : Nat) (Option.none : Option Jvm.ClassFile.FieldType)).before args0 about1 = true := code_word (m := ⟨25, 0⟩) (meth := k25m0) (c := k25c0) (by decide +kernel) rfl rfl rfl (by decide +kernel)
set_option maxRecDepth 65536 in
theorem w_c32 : (Jvm.Cond.code ({ cls := "java/util/Objects", name := "requireNonNull", desc := "(Ljava/lang/Object;)Ljava/lang/Object;" } : Jvm.MethodName) jdk_31_method_10_code (1 : Nat) (Option.some (Jvm.ClassFile.FieldType.object "java/lang/Object"))).before args0 about1 = true := code_word (m := ⟨31, 1⟩) (meth := k31m1) (c := k31c1) (by decide +kernel) rfl rfl rfl (by decide +kernel)
set_option maxRecDepth 65536 in
theorem w_c33 : (Jvm.Cond.code ({ cls := "com/example/gridtally/gridtally/determinant/Column", name := "required", desc := "()Z" } : Jvm.MethodName) prog_3_method_8_code (1 : Nat) (Option.some Jvm.ClassFile.FieldType.boolean)).before args0 about1 = true := code_word (m := ⟨23, 1⟩) (meth := k23m1) (c := k23c1) (by decide +kernel) rfl rfl rfl (by decide +kernel)
set_option maxRecDepth 65536 in
theorem w_c34 : (Jvm.Cond.code ({ cls := "java/util/ImmutableCollections", name := "listFromArray", desc := "([Ljava/lang/Object;)Ljava/util/List;" } : Jvm.MethodName) jdk_56_method_4_code (3 : Nat) (Option.some (Jvm.ClassFile.FieldType.object "java/util/List"))).before args0 about1 = true := code_word (m := ⟨24, 2⟩) (meth := k24m2) (c := k24c2) (by decide +kernel) rfl rfl rfl (by decide +kernel)
set_option maxRecDepth 65536 in
theorem w_c35 : (Jvm.Cond.code ({ cls := "java/util/ImmutableCollections$ListN", name := "<init>", desc := "([Ljava/lang/Object;Z)V" } : Jvm.MethodName) jdk_45_method_1_code (3 : Nat) (Option.none : Option Jvm.ClassFile.FieldType)).before args0 about1 = true := code_word (m := ⟨28, 0⟩) (meth := k28m0) (c := k28c0) (by decide +kernel) rfl rfl rfl (by decide +kernel)
set_option maxRecDepth 65536 in
theorem w_c36 : (Jvm.Cond.code ({ cls := "java/util/ImmutableCollections$List12", name := "<init>", desc := "(Ljava/lang/Object;)V" } : Jvm.MethodName) jdk_44_method_1_code (2 : Nat) (Option.none : Option Jvm.ClassFile.FieldType)).before args0 about1 = true := code_word (m := ⟨27, 0⟩) (meth := k27m0) (c := k27c0) (by decide +kernel) rfl rfl rfl (by decide +kernel)
set_option maxRecDepth 65536 in
theorem w_c37 : (Jvm.Cond.code ({ cls := "java/util/List", name := "of", desc := "()Ljava/util/List;" } : Jvm.MethodName) jdk_40_method_36_code (0 : Nat) (Option.some (Jvm.ClassFile.FieldType.object "java/util/List"))).before args0 about1 = true := code_word (m := ⟨15, 0⟩) (meth := k15m0) (c := k15c0) (by decide +kernel) rfl rfl rfl (by decide +kernel)
def codes1 : List Jvm.Cond := [Jvm.Cond.code x code maxLocals ret, Jvm.Cond.code ({ cls := "java/lang/String", name := "<init>", desc := "([C)V" } : Jvm.MethodName) jdk_42_method_3_code (2 : Nat) (Option.none : Option Jvm.ClassFile.FieldType), Jvm.Cond.code ({ cls := "java/lang/String", name := "<init>", desc := "([CIILjava/lang/Void;)V" } : Jvm.MethodName) jdk_42_method_149_code (6 : Nat) (Option.none : Option Jvm.ClassFile.FieldType), Jvm.Cond.code ({ cls := "java/lang/Object", name := "<init>", desc := "()V" } : Jvm.MethodName) object_method_1_code (1 : Nat) (Option.none : Option Jvm.ClassFile.FieldType), Jvm.Cond.code ({ cls := "java/lang/StringUTF16", name := "compress", desc := "([CII)[B" } : Jvm.MethodName) jdk_52_method_16_code (6 : Nat) (Option.some (Jvm.ClassFile.FieldType.array Jvm.ClassFile.FieldType.byte)), Jvm.Cond.code ({ cls := "java/lang/StringUTF16", name := "compress", desc := "([CI[BII)I" } : Jvm.MethodName) jdk_52_method_21_code (7 : Nat) (Option.some Jvm.ClassFile.FieldType.int), Jvm.Cond.code ({ cls := "java/lang/StringUTF16", name := "coderFromArrayLen", desc := "([BI)B" } : Jvm.MethodName) jdk_52_method_15_code (2 : Nat) (Option.some Jvm.ClassFile.FieldType.byte), Jvm.Cond.code ({ cls := "java/util/ArrayList", name := "<init>", desc := "()V" } : Jvm.MethodName) jdk_38_method_2_code (1 : Nat) (Option.none : Option Jvm.ClassFile.FieldType), Jvm.Cond.code ({ cls := "java/util/AbstractList", name := "<init>", desc := "()V" } : Jvm.MethodName) jdk_39_method_1_code (1 : Nat) (Option.none : Option Jvm.ClassFile.FieldType), Jvm.Cond.code ({ cls := "java/util/AbstractCollection", name := "<init>", desc := "()V" } : Jvm.MethodName) jdk_22_method_1_code (1 : Nat) (Option.none : Option Jvm.ClassFile.FieldType), Jvm.Cond.code ({ cls := "java/lang/String", name := "valueOf", desc := "(C)Ljava/lang/String;" } : Jvm.MethodName) jdk_42_method_139_code (1 : Nat) (Option.some (Jvm.ClassFile.FieldType.object "java/lang/String")), Jvm.Cond.code ({ cls := "java/lang/StringLatin1", name := "canEncode", desc := "(C)Z" } : Jvm.MethodName) jdk_43_method_3_code (1 : Nat) (Option.some Jvm.ClassFile.FieldType.boolean), Jvm.Cond.code ({ cls := "java/lang/StringLatin1", name := "toBytes", desc := "(C)[B" } : Jvm.MethodName) jdk_43_method_46_code (1 : Nat) (Option.some (Jvm.ClassFile.FieldType.array Jvm.ClassFile.FieldType.byte)), Jvm.Cond.code ({ cls := "java/lang/String", name := "<init>", desc := "([BB)V" } : Jvm.MethodName) jdk_42_method_151_code (3 : Nat) (Option.none : Option Jvm.ClassFile.FieldType), Jvm.Cond.code ({ cls := "java/util/ArrayList", name := "add", desc := "(Ljava/lang/Object;)Z" } : Jvm.MethodName) jdk_38_method_25_code (2 : Nat) (Option.some Jvm.ClassFile.FieldType.boolean), Jvm.Cond.code ({ cls := "java/util/ArrayList", name := "add", desc := "(Ljava/lang/Object;[Ljava/lang/Object;I)V" } : Jvm.MethodName) jdk_38_method_24_code (4 : Nat) (Option.none : Option Jvm.ClassFile.FieldType), Jvm.Cond.code ({ cls := "java/util/ArrayList", name := "grow", desc := "()[Ljava/lang/Object;" } : Jvm.MethodName) jdk_38_method_7_code (1 : Nat) (Option.some (Jvm.ClassFile.FieldType.array (Jvm.ClassFile.FieldType.object "java/lang/Object"))), Jvm.Cond.code ({ cls := "java/util/ArrayList", name := "grow", desc := "(I)[Ljava/lang/Object;" } : Jvm.MethodName) jdk_38_method_6_code (4 : Nat) (Option.some (Jvm.ClassFile.FieldType.array (Jvm.ClassFile.FieldType.object "java/lang/Object"))), Jvm.Cond.code ({ cls := "java/lang/Math", name := "max", desc := "(II)I" } : Jvm.MethodName) jdk_29_method_65_code (2 : Nat) (Option.some Jvm.ClassFile.FieldType.int), Jvm.Cond.code ({ cls := "com/example/gridtally/gridtally/determinant/Column", name := "<init>", desc := "(Ljava/lang/String;Lcom/example/gridtally/gridtally/determinant/Column$Kind;Ljava/util/List;)V" } : Jvm.MethodName) prog_3_method_1_code (4 : Nat) (Option.none : Option Jvm.ClassFile.FieldType), Jvm.Cond.code ({ cls := "java/lang/Record", name := "<init>", desc := "()V" } : Jvm.MethodName) jdk_30_method_1_code (1 : Nat) (Option.none : Option Jvm.ClassFile.FieldType), Jvm.Cond.code ({ cls := "java/util/List", name := "copyOf", desc := "(Ljava/util/Collection;)Ljava/util/List;" } : Jvm.MethodName) jdk_40_method_48_code (1 : Nat) (Option.some (Jvm.ClassFile.FieldType.object "java/util/List")), Jvm.Cond.code ({ cls := "java/util/ImmutableCollections", name := "listCopy", desc := "(Ljava/util/Collection;)Ljava/util/List;" } : Jvm.MethodName) jdk_56_method_3_code (2 : Nat) (Option.some (Jvm.ClassFile.FieldType.object "java/util/List")), Jvm.Cond.code ({ cls := "java/util/ArrayList", name := "isEmpty", desc := "()Z" } : Jvm.MethodName) jdk_38_method_9_code (1 : Nat) (Option.some Jvm.ClassFile.FieldType.boolean), Jvm.Cond.code ({ cls := "java/util/ArrayList", name := "toArray", desc := "()[Ljava/lang/Object;" } : Jvm.MethodName) jdk_38_method_16_code (1 : Nat) (Option.some (Jvm.ClassFile.FieldType.array (Jvm.ClassFile.FieldType.object "java/lang/Object"))), Jvm.Cond.code ({ cls := "java/util/Arrays", name := "copyOf", desc := "([Ljava/lang/Object;I)[Ljava/lang/Object;" } : Jvm.MethodName) jdk_65_method_119_code (2 : Nat) (Option.some (Jvm.ClassFile.FieldType.array (Jvm.ClassFile.FieldType.object "java/lang/Object"))), Jvm.Cond.code ({ cls := "java/util/Arrays", name := "copyOf", desc := "([Ljava/lang/Object;ILjava/lang/Class;)[Ljava/lang/Object;" } : Jvm.MethodName) jdk_65_method_120_code (4 : Nat) (Option.some (Jvm.ClassFile.FieldType.array (Jvm.ClassFile.FieldType.object "java/lang/Object"))), Jvm.Cond.code ({ cls := "java/lang/Math", name := "min", desc := "(II)I" } : Jvm.MethodName) jdk_29_method_69_code (2 : Nat) (Option.some Jvm.ClassFile.FieldType.int), Jvm.Cond.code ({ cls := "java/util/List", name := "of", desc := "([Ljava/lang/Object;)Ljava/util/List;" } : Jvm.MethodName) jdk_40_method_47_code (2 : Nat) (Option.some (Jvm.ClassFile.FieldType.object "java/util/List")), Jvm.Cond.code ({ cls := "java/util/ImmutableCollections$List12", name := "<init>", desc := "(Ljava/lang/Object;Ljava/lang/Object;)V" } : Jvm.MethodName) jdk_44_method_2_code (3 : Nat) (Option.none : Option Jvm.ClassFile.FieldType), Jvm.Cond.code ({ cls := "java/util/ImmutableCollections$AbstractImmutableList", name := "<init>", desc := "()V" } : Jvm.MethodName) jdk_46_method_1_code (1 : Nat) (Option.none : Option Jvm.ClassFile.FieldType), Jvm.Cond.code ({ cls := "java/util/ImmutableCollections$AbstractImmutableCollection", name := "<init>", desc := "()V" } : Jvm.MethodName) jdk_47_method_1_code (1 : Nat) (Option.none : Option Jvm.ClassFile.FieldType), Jvm.Cond.code ({ cls := "java/util/Objects", name := "requireNonNull", desc := "(Ljava/lang/Object;)Ljava/lang/Object;" } : Jvm.MethodName) jdk_31_method_10_code (1 : Nat) (Option.some (Jvm.ClassFile.FieldType.object "java/lang/Object")), Jvm.Cond.code ({ cls := "com/example/gridtally/gridtally/determinant/Column", name := "required", desc := "()Z" } : Jvm.MethodName) prog_3_method_8_code (1 : Nat) (Option.some Jvm.ClassFile.FieldType.boolean), Jvm.Cond.code ({ cls := "java/util/ImmutableCollections", name := "listFromArray", desc := "([Ljava/lang/Object;)Ljava/util/List;" } : Jvm.MethodName) jdk_56_method_4_code (3 : Nat) (Option.some (Jvm.ClassFile.FieldType.object "java/util/List")), Jvm.Cond.code ({ cls := "java/util/ImmutableCollections$ListN", name := "<init>", desc := "([Ljava/lang/Object;Z)V" } : Jvm.MethodName) jdk_45_method_1_code (3 : Nat) (Option.none : Option Jvm.ClassFile.FieldType), Jvm.Cond.code ({ cls := "java/util/ImmutableCollections$List12", name := "<init>", desc := "(Ljava/lang/Object;)V" } : Jvm.MethodName) jdk_44_method_1_code (2 : Nat) (Option.none : Option Jvm.ClassFile.FieldType), Jvm.Cond.code ({ cls := "java/util/List", name := "of", desc := "()Ljava/util/List;" } : Jvm.MethodName) jdk_40_method_36_code (0 : Nat) (Option.some (Jvm.ClassFile.FieldType.object "java/util/List"))]
set_option maxRecDepth 65536 in
theorem codes_eq : words1.filter isCode = codes1 := rfl
theorem w_codes : ∀ c ∈ words1.filter isCode, c.before args0 about1 = true := by
  rw [codes_eq]
  intro c hc
  simp only [codes1, List.mem_cons, List.not_mem_nil, or_false] at hc
  rcases hc with rfl | rfl | rfl | rfl | rfl | rfl | rfl | rfl | rfl | rfl | rfl | rfl | rfl | rfl | rfl | rfl | rfl | rfl | rfl | rfl | rfl | rfl | rfl | rfl | rfl | rfl | rfl | rfl | rfl | rfl | rfl | rfl | rfl | rfl | rfl | rfl | rfl | rfl
  · exact w_c0
  · exact w_c1
  · exact w_c2
  · exact w_c3
  · exact w_c4
  · exact w_c5
  · exact w_c6
  · exact w_c7
  · exact w_c8
  · exact w_c9
  · exact w_c10
  · exact w_c11
  · exact w_c12
  · exact w_c13
  · exact w_c14
  · exact w_c15
  · exact w_c16
  · exact w_c17
  · exact w_c18
  · exact w_c19
  · exact w_c20
  · exact w_c21
  · exact w_c22
  · exact w_c23
  · exact w_c24
  · exact w_c25
  · exact w_c26
  · exact w_c27
  · exact w_c28
  · exact w_c29
  · exact w_c30
  · exact w_c31
  · exact w_c32
  · exact w_c33
  · exact w_c34
  · exact w_c35
  · exact w_c36
  · exact w_c37
set_option maxRecDepth 65536 in
theorem w_t1 : (words1.take 24).all (fun c => isCode c || c.before args0 about1) = true := by decide +kernel
set_option maxRecDepth 65536 in
theorem w_t2 : ((words1.drop 24).take 24).all (fun c => isCode c || c.before args0 about1) = true := by decide +kernel
set_option maxRecDepth 65536 in
theorem w_t3 : (((words1.drop 24).drop 24).take 24).all (fun c => isCode c || c.before args0 about1) = true := by decide +kernel
set_option maxRecDepth 65536 in
theorem w_t4 : ((((words1.drop 24).drop 24).drop 24).take 24).all (fun c => isCode c || c.before args0 about1) = true := by decide +kernel
set_option maxRecDepth 65536 in
theorem w_t5 : (((((words1.drop 24).drop 24).drop 24).drop 24).take 24).all (fun c => isCode c || c.before args0 about1) = true := by decide +kernel
set_option maxRecDepth 65536 in
theorem w_t6 : ((((((words1.drop 24).drop 24).drop 24).drop 24).drop 24).take 24).all (fun c => isCode c || c.before args0 about1) = true := by decide +kernel
set_option maxRecDepth 65536 in
theorem w_t7 : (((((((words1.drop 24).drop 24).drop 24).drop 24).drop 24).drop 24).take 24).all (fun c => isCode c || c.before args0 about1) = true := by decide +kernel
set_option maxRecDepth 65536 in
theorem w_t8 : ((((((((words1.drop 24).drop 24).drop 24).drop 24).drop 24).drop 24).drop 24).take 24).all (fun c => isCode c || c.before args0 about1) = true := by decide +kernel
set_option maxRecDepth 65536 in
theorem w_t9 : (((((((((words1.drop 24).drop 24).drop 24).drop 24).drop 24).drop 24).drop 24).drop 24).take 24).all (fun c => isCode c || c.before args0 about1) = true := by decide +kernel
set_option maxRecDepth 65536 in
theorem w_t10 : ((((((((((words1.drop 24).drop 24).drop 24).drop 24).drop 24).drop 24).drop 24).drop 24).drop 24).take 24).all (fun c => isCode c || c.before args0 about1) = true := by decide +kernel
set_option maxRecDepth 65536 in
theorem w_t11 : ((((((((((words1.drop 24).drop 24).drop 24).drop 24).drop 24).drop 24).drop 24).drop 24).drop 24).drop 24).all (fun c => isCode c || c.before args0 about1) = true := by decide +kernel
theorem w_tables : (allAtoms (Jvm.Cond.code x code maxLocals ret :: tables_1)).before args0 about1 = true := by
  rw [allAtoms_all]
  show words1.all (fun c => c.before args0 about1) = true
  refine all_split ?_ w_codes
  rw [← List.take_append_drop 24 words1, List.all_append, w_t1, ← List.take_append_drop 24 (words1.drop 24), List.all_append, w_t2, ← List.take_append_drop 24 ((words1.drop 24).drop 24), List.all_append, w_t3, ← List.take_append_drop 24 (((words1.drop 24).drop 24).drop 24), List.all_append, w_t4, ← List.take_append_drop 24 ((((words1.drop 24).drop 24).drop 24).drop 24), List.all_append, w_t5, ← List.take_append_drop 24 (((((words1.drop 24).drop 24).drop 24).drop 24).drop 24), List.all_append, w_t6, ← List.take_append_drop 24 ((((((words1.drop 24).drop 24).drop 24).drop 24).drop 24).drop 24), List.all_append, w_t7, ← List.take_append_drop 24 (((((((words1.drop 24).drop 24).drop 24).drop 24).drop 24).drop 24).drop 24), List.all_append, w_t8, ← List.take_append_drop 24 ((((((((words1.drop 24).drop 24).drop 24).drop 24).drop 24).drop 24).drop 24).drop 24), List.all_append, w_t9, ← List.take_append_drop 24 (((((((((words1.drop 24).drop 24).drop 24).drop 24).drop 24).drop 24).drop 24).drop 24).drop 24), List.all_append, w_t10, w_t11]
  rfl
set_option maxRecDepth 65536 in
theorem w_rest : rest_1_c.before args0 about1 = true := by decide +kernel
set_option maxRecDepth 65536 in
theorem w_case : (Jvm.Cond.and given_1 narrow_1).before args0 about1 = true := by decide +kernel
theorem w_applies : (headSpec (Jvm.Cond.code x code maxLocals ret :: tables_1) room_1).applies x e0.platform about1 = true :=
  (Spec.applies_iff w_frames).mpr ⟨w_running, w_runnable, w_alone, w_named, w_hears, w_ripe, w_room, w_tables⟩
theorem atStart : AtStart classFile x code maxLocals ret World_1 tables_1 room_1 Calls_1 rest_1 Pre_1 launch0 p0 e0 about1 theMethod args0 below0 :=
  ⟨lists_1, trivial, launch0.admits_env _ _ _, launch0.least_env, fairChoices_fair.cas, fairChoices_fair.clock, w_frames, w_args, w_heap, w_applies, ⟨⟨40, k40, 15, by decide +kernel, rfl, rfl, _, rfl, rfl⟩, trivial⟩, w_rest, w_case⟩
end start1
theorem witness_1 : WitnessClaimed_1 := ⟨start1.p0, start1.e0, start1.about1, start1.theMethod, start1.args0, start1.below0, start1.atStart⟩
end Jvm.Pilot.@@N@@
