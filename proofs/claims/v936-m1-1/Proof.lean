import JvmDerived
import JvmDerived.Pilot.@@N@@Statement
import JvmDerived.Pilot.@@N@@Code
set_option linter.unusedVariables false
set_option linter.unusedSimpArgs false
namespace Jvm.RoadKit
open Sem ClassFile Op Lib Jvm.Stand Jvm.Free Jvm.LawKit
section Own
variable {p : Program} {l : Launch} {e : Env} {R : Room} {s : State} {m : MethodId} {args : Array Value} {below : List Frame} {meth : Method} {c : Code} {T : State} {locs : List Loc} {cells slots : Nat} {Z : State} {a0 : Array Value} {h h' h2 : Heap}
/-- what is left to show of a walk that stands at S -/
def OEnds (p : Program) (e : Env) (below : List Frame) (s : State) (K N : Nat) (Qf : Option Value → Heap → List Loc → Prop) (S : State) : Prop :=
  ∃ s₂ o, Steps p.tables e below S s₂ ∧ s₂.status = .running ∧ Ended s₂ below o ∧ ∃ v L, o = .returned v ∧ Qf v s₂.heap L ∧ FrameEnd s o s₂ L K N
variable {K N : Nat} {Qf : Option Value → Heap → List Loc → Prop}
theorem OEnds.st {S S' : State} (k : ∀ t, Steps p.tables e below S' t → Steps p.tables e below S t) (h : OEnds p e below s K N Qf S') : OEnds p e below s K N Qf S := by
  obtain ⟨s2, o, h1, r⟩ := h
  exact ⟨s2, o, k _ h1, r⟩
theorem OEnds.cast {g g' : JFrame} (q : g = g') (k : OEnds p e below s K N Qf (T.setTop g')) : OEnds p e below s K N Qf (T.setTop g) := q ▸ k
theorem OEnds.ret (X : Stand p l e R s m args below meth c T locs cells slots) (hx : p.tables.exec = Jvm.exec) {pc : Nat} {Ls : Array Slot} {w : Value} {t : FieldType} {i : Instr} {rest : List Value} (hret : meth.sig.returnType = some t) (hlk : meth.locks = false) (hn : narrow t w = w)
    (hi : (i = .ireturn ∧ (t = .int ∨ t = .boolean ∨ t = .byte ∨ t = .char ∨ t = .short) ∧ ∃ z, w = .int z) ∨ (i = .lreturn ∧ t = .long ∧ ∃ z, w = .long z) ∨ (i = .dreturn ∧ t = .double ∧ ∃ z, w = .double z) ∨ (i = .freturn ∧ t = .float ∧ ∃ z, w = .float z) ∨ (i = .areturn ∧ t.isReference = true ∧ w.isRef = true))
    (hd : decode c.code pc = .ok (i, 1)) (hc : cells ≤ K) (hs : slots ≤ N) (q : Qf (some w) T.heap locs) : OEnds p e below s K N Qf (T.setTop (mkF m pc Ls (w :: rest))) := by
  obtain ⟨fs, hr, hrun, hended, hW, hsame⟩ := X.leave (v := some w) (fun h => by rw [hret] at h; cases h) hlk
  exact ⟨_, _, retOut X hx hret hn hi hd hr, hrun, hended, _, _, rfl, q, ⟨_, rfl⟩, hW, hsame.mono hc hs⟩
theorem OEnds.retV (X : Stand p l e R s m args below meth c T locs cells slots) (hx : p.tables.exec = Jvm.exec) {pc : Nat} {Ls : Array Slot} (hret : meth.sig.returnType = none) (hlk : meth.locks = false)
    (hd : decode c.code pc = .ok (.return_, 1)) (hc : cells ≤ K) (hs : slots ≤ N) (q : Qf none T.heap locs) : OEnds p e below s K N Qf (T.setTop (mkF m pc Ls [])) := by
  obtain ⟨fs, hr, hrun, hended, hW, hsame⟩ := X.leave (v := none) (fun _ => rfl) hlk
  exact ⟨_, _, X.returnOut hx hret hd hr, hrun, hended, _, _, rfl, q, ⟨_, rfl⟩, hW, hsame.mono hc hs⟩
/-- a contract -/
def Con (l : Launch) (Z : State) (y : MethodName) (bytes : ByteArray) (maxL : Nat) (ret : Option FieldType) (ws : List Cond) (rm : Room) (as' : Array Value) (h0 : Heap) (Q : Option Value → Heap → List Loc → Prop) : Prop :=
  MetFree l y (head1 (Cond.code y bytes maxL ret :: ws) rm) (fun a U => a = as' ∧ Z.Warmed39 U.vm ∧ U.heap = h0) (fun _ _ _ _ _ => True) (fun _ U o U' => ∃ v L, o = .returned v ∧ Q v U'.heap L ∧ FrameEnd U o U' L rm.cells rm.slots)
variable {y : MethodName} {bytes : ByteArray} {maxL : Nat} {ret : Option FieldType} {ws : List Cond} {rm : Room} {as' : Array Value} {h0 : Heap} {Q : Option Value → Heap → List Loc → Prop}
theorem Con.walk (hpl : plainFor y = true) (body : ∀ (p : Program) (e : Env) (s : State) (m : MethodId) (below : List Frame) (meth : Method) (c : Code) (T : State), Stand p l e rm s m as' below meth c T [] 0 0 → p.tables.exec = Jvm.exec → Z.Warmed39 s.vm → c.code = bytes → c.maxLocals = maxL →
      s.vm.findClass y.cls = some m.cls → meth.name = y.name → meth.sig.returnType = ret → meth.locks = false → T.heap = h0 → OEnds p e below s rm.cells rm.slots Q (T.setTop (entryFrame m as' maxL))) : Con l Z y bytes maxL ret ws rm as' h0 Q := by
  refine MetFree.of_bodySF hpl hisR ?_
  intro p e s m args below meth c s₁ Bd hml0 hP hK
  obtain ⟨rfl, hZ, hh⟩ := hP
  exact body p e s m below meth c s₁ (Stand.of_body Bd) Bd.exec hZ Bd.bytes hml0 (findClass_of_methodNamed Bd.named) (name_of_methodNamed Bd.named Bd.method).1 Bd.returns Bd.notSynchronized (by rw [← hh, Bd.state]; rfl)
/-- who pays a call, in the one form of this text -/
def SB (l : Launch) (R : Room) (p : Program) (e : Env) (below : List Frame) (s : State) (args : Array Value) (y : MethodName) (len W : Nat) (as' : Array Value) (h : Heap) (Q : Option Value → Heap → List Loc → Prop) (kc ks : Nat) : Prop :=
  Back l R p e below s args y len W (fun A a => a = as' ∧ A.U.heap = h ∧ A.cells + kc ≤ R.cells ∧ A.slots + ks ≤ R.slots) (fun A _ v B => ∃ L, Q v B.U.heap L ∧ B.locs = A.locs ++ L ∧ B.cells = A.cells + kc ∧ B.slots = A.slots + ks)
theorem Con.sb {len W : Nat} (hM : Con l Z y bytes maxL ret [] rm as' h Q) (hZ : Z.Warmed39 s.vm) (wc : (Cond.code y bytes maxL ret).before a0 Z = true) (wz : (Cond.initialized y.cls).before a0 Z = true) (hf : rm.frames + 1 ≤ R.frames) (hl : W + (maxL + 11) + rm.locals ≤ R.locals) :
    SB l R p e below s args y len W as' h Q rm.cells rm.slots := backOf hM hZ wc wz hf hl
theorem SB.of {len W kc ks : Nat} (hB : Back l R p e below s args y len W (fun A a => a = as' ∧ A.U.heap = h ∧ A.cells + kc ≤ R.cells ∧ A.slots + ks ≤ R.slots) (fun A _ v B => ∃ L, Q v B.U.heap L ∧ B.locs = A.locs ++ L ∧ B.cells = A.cells + kc ∧ B.slots = A.slots + ks)) : SB l R p e below s args y len W as' h Q kc ks := hB
theorem SB.mono {len W kc ks : Nat} {Q' : Option Value → Heap → List Loc → Prop} (hB : SB l R p e below s args y len W as' h Q kc ks) (f : ∀ v h' L, Q v h' L → Q' v h' L) : SB l R p e below s args y len W as' h Q' kc ks :=
  Back.mono hB (fun _ _ q => q) (fun _ _ _ _ _ ⟨L, q, r⟩ => ⟨L, f _ _ _ q, r⟩)
theorem callC (X : Stand p l e R s m args below meth c T locs cells slots) (hx : p.tables.exec = Jvm.exec) (hZ : Z.Warmed39 s.vm) {own : String} {index : Nat} {y : MethodName} {bytes : ByteArray} {maxL : Nat} {ret : Option FieldType}
    (hown : s.vm.findClass own = some m.cls) (w1 : (Cond.methodLink own index y).before a0 Z = true) (w2 : (Cond.static y).before a0 Z = true) (w3 : (Cond.initialized y.cls).before a0 Z = true)
    (w4 : (Cond.code y bytes maxL ret).before a0 Z = true) (hy : y.cls ≠ "java/lang/invoke/MethodHandle" ∧ y.cls ≠ "java/lang/invoke/VarHandle") {argsL rest : List Value} {W kc ks : Nat} (hK : SB l R p e below s args y 3 W argsL.toArray h Q kc ks) (eT : T.heap = h)
    {g : JFrame} (hg : g.method = m) (hsize : g.locals.size = c.maxLocals) (hlen : ∀ sig, parseMethodDescriptor y.desc = some sig → argsL.length = sig.parameters.length)
    (hstack : g.stack = argsL.reverse ++ rest) (hW : 2 * g.monitorRoom + (rest.map fun v => v.category).sum ≤ W) (hdg : decode c.code g.pc = .ok (.invokestatic index, 3)) (hc : cells + kc ≤ R.cells) (hs : slots + ks ≤ R.slots) :
    ∃ (v : Option Value) (T' : State) (h' : Heap) (L : List Loc), Stand p l e R s m args below meth c T' (locs ++ L) (cells + kc) (slots + ks) ∧ T'.heap = h' ∧ Q v h' L ∧
      ∀ target, Steps p.tables e below (T'.setTop { g with pc := g.pc + 3, stack := v.toList ++ rest }) target → Steps p.tables e below (T.setTop g) target := by
  obtain ⟨v, vm, ⟨T', L', k', n'⟩, -, X', ⟨L, hQ, l1, y1, z1⟩, st⟩ := Jvm.LawKit.callS X hx hown (mvT hZ w1) (mvT hZ w2) (mvT hZ w3) (mvT hZ w4) hy hK hg hsize hlen hstack hW hdg (fun _ _ => ⟨rfl, eT, hc, hs⟩)
  dsimp only [Pt.U, Pt.locs, Pt.cells, Pt.slots] at X' l1 y1 z1 st hQ
  subst l1 y1 z1
  exact ⟨v, T', _, L, X', rfl, hQ, st⟩
theorem specC (X : Stand p l e R s m args below meth c T locs cells slots) (hx : p.tables.exec = Jvm.exec) (hZ : Z.Warmed39 s.vm) {own : String} {index : Nat} {y : MethodName} {bytes : ByteArray} {maxL : Nat} (hy1 : y.name = "<init>")
    (hown : s.vm.findClass own = some m.cls) (w1 : (Cond.methodLink own index y).before a0 Z = true) (w2 : (Cond.instanceMethod y).before a0 Z = true)
    (w4 : (Cond.code y bytes maxL none).before a0 Z = true) (hy : y.cls ≠ "java/lang/invoke/MethodHandle" ∧ y.cls ≠ "java/lang/invoke/VarHandle") {a : Addr} {argsL rest : List Value} {W kc ks : Nat} (hK : SB l R p e below s args y 3 W (.ref a :: argsL).toArray h Q kc ks) (eT : T.heap = h)
    {g : JFrame} (hg : g.method = m) (hsize : g.locals.size = c.maxLocals) (hlen : ∀ sig, parseMethodDescriptor y.desc = some sig → argsL.length = sig.parameters.length)
    (hstack : g.stack = argsL.reverse ++ .ref a :: rest) (hW : 2 * g.monitorRoom + (rest.map fun v => v.category).sum ≤ W) (hdg : decode c.code g.pc = .ok (.invokespecial index, 3)) (hc : cells + kc ≤ R.cells) (hs : slots + ks ≤ R.slots) :
    ∃ (v : Option Value) (T' : State) (h' : Heap) (L : List Loc), Stand p l e R s m args below meth c T' (locs ++ L) (cells + kc) (slots + ks) ∧ T'.heap = h' ∧ Q v h' L ∧
      ∀ target, Steps p.tables e below (T'.setTop { g with pc := g.pc + 3, stack := v.toList ++ rest }) target → Steps p.tables e below (T.setTop g) target := by
  obtain ⟨v, vm, ⟨T', L', k', n'⟩, -, X', ⟨L, hQ, l1, y1, z1⟩, st⟩ := X.specialBack hx hy1 hown (mvT hZ w1) (mvT hZ w2) (mvT hZ w4) hy hK hg hsize (Steps.refl _) hlen hstack hW hdg (fun _ _ => ⟨rfl, eT, hc, hs⟩)
  dsimp only [Pt.U, Pt.locs, Pt.cells, Pt.slots] at X' l1 y1 z1 st hQ
  subst l1 y1 z1
  exact ⟨v, T', _, L, X', rfl, hQ, fun _ k => st.trans k⟩
theorem virtC (X : Stand p l e R s m args below meth c T locs cells slots) (hx : p.tables.exec = Jvm.exec) (hZ : Z.Warmed39 s.vm) {own C : String} {index : Nat} {y z : MethodName}
    (hown : s.vm.findClass own = some m.cls) (w1 : (Cond.methodLink own index y).before a0 Z = true) (w2 : (Cond.declares y).before a0 Z = true) (hnf : NotFace s y) (w3 : (Cond.selects C y z).before a0 Z = true) (w4 : (Cond.instanceMethod z).before a0 Z = true)
    (hy : y.cls ≠ "java/lang/invoke/MethodHandle" ∧ y.cls ≠ "java/lang/invoke/VarHandle") {a : Addr} {argsL rest : List Value} {W kc ks : Nat} (hK : SB l R p e below s args z 3 W (.ref a :: argsL).toArray h Q kc ks) (eT : T.heap = h) (E : Exa Z h a C)
    {g : JFrame} (hg : g.method = m) (hsize : g.locals.size = c.maxLocals) (hlen : ∀ sig, parseMethodDescriptor y.desc = some sig → argsL.length = sig.parameters.length)
    (hstack : g.stack = argsL.reverse ++ .ref a :: rest) (hW : 2 * g.monitorRoom + (rest.map fun v => v.category).sum ≤ W) (hdg : decode c.code g.pc = .ok (.invokevirtual index, 3)) (hc : cells + kc ≤ R.cells) (hs : slots + ks ≤ R.slots) :
    ∃ (v : Option Value) (T' : State) (h' : Heap) (L : List Loc), Stand p l e R s m args below meth c T' (locs ++ L) (cells + kc) (slots + ks) ∧ T'.heap = h' ∧ Q v h' L ∧
      ∀ target, Steps p.tables e below (T'.setTop { g with pc := g.pc + 3, stack := v.toList ++ rest }) target → Steps p.tables e below (T.setTop g) target := by
  obtain ⟨cq, kq, qa, qb, qc⟩ := isOf hZ eT E
  obtain ⟨v, vm, ⟨T', L', k', n'⟩, -, X', ⟨L, hQ, l1, y1, z1⟩, st⟩ := X.virtualBack hx hown (mvT hZ w1) (mvT hZ w2) hnf (mvT hZ w3) (mvT hZ w4) hy hK qa qc hg hsize (Steps.refl _) hlen hstack hW hdg (fun _ _ => ⟨rfl, eT, hc, hs⟩)
  dsimp only [Pt.U, Pt.locs, Pt.cells, Pt.slots] at X' l1 y1 z1 st hQ
  subst l1 y1 z1
  exact ⟨v, T', _, L, X', rfl, hQ, fun _ k => st.trans k⟩
theorem faceC (X : Stand p l e R s m args below meth c T locs cells slots) (hx : p.tables.exec = Jvm.exec) (hZ : Z.Warmed39 s.vm) {own C : String} {index count : Nat} {xi y : MethodName}
    (hown : s.vm.findClass own = some m.cls) (w1 : (Cond.methodLink own index xi).before a0 Z = true) (w2 : (Cond.declares xi).before a0 Z = true) (w3 : (Cond.interfaceMethod xi.cls xi.cls xi.name xi.desc).before a0 Z = true) (w4 : (Cond.selects C xi y).before a0 Z = true) (w5 : (Cond.instanceMethod y).before a0 Z = true)
    (w6 : (Cond.publicMethod y).before a0 Z = true) (w7 : (Cond.unhidden C xi.name xi.desc).before a0 Z = true) (w8 : (Cond.castable C xi.cls).before a0 Z = true)
    (hy : xi.cls ≠ "java/lang/invoke/MethodHandle" ∧ xi.cls ≠ "java/lang/invoke/VarHandle") {a : Addr} {argsL rest : List Value} {W kc ks : Nat} (hK : SB l R p e below s args y 5 W (.ref a :: argsL).toArray h Q kc ks) (eT : T.heap = h) (E : Exa Z h a C)
    {g : JFrame} (hg : g.method = m) (hsize : g.locals.size = c.maxLocals) (hlen : ∀ sig, parseMethodDescriptor xi.desc = some sig → argsL.length = sig.parameters.length)
    (hstack : g.stack = argsL.reverse ++ .ref a :: rest) (hW : 2 * g.monitorRoom + (rest.map fun v => v.category).sum ≤ W) (hdg : decode c.code g.pc = .ok (.invokeinterface index count, 5)) (hc : cells + kc ≤ R.cells) (hs : slots + ks ≤ R.slots) :
    ∃ (v : Option Value) (T' : State) (h' : Heap) (L : List Loc), Stand p l e R s m args below meth c T' (locs ++ L) (cells + kc) (slots + ks) ∧ T'.heap = h' ∧ Q v h' L ∧
      ∀ target, Steps p.tables e below (T'.setTop { g with pc := g.pc + 5, stack := v.toList ++ rest }) target → Steps p.tables e below (T.setTop g) target := by
  obtain ⟨cq, kq, qa, qb, qc⟩ := isOf hZ eT E
  obtain ⟨v, vm, ⟨T', L', k', n'⟩, -, X', ⟨L, hQ, l1, y1, z1⟩, st⟩ := X.interfaceBack hx hown (mvT hZ w1) (mvT hZ w2) (mvT hZ w3 (by simp [Cond.onTables, Cond.keepsFace, Cond.keeps, Cond.steady, Cond.faceAtom]; exact hy)) (mvT hZ w4) (mvT hZ w5) (mvT hZ w6) (mvT hZ w7) (mvT hZ w8) hy hK qa qb qc hg hsize (Steps.refl _) hlen hstack hW hdg (fun _ _ => ⟨rfl, eT, hc, hs⟩)
  dsimp only [Pt.U, Pt.locs, Pt.cells, Pt.slots] at X' l1 y1 z1 st hQ
  subst l1 y1 z1
  exact ⟨v, T', _, L, X', rfl, hQ, fun _ k => st.trans k⟩
theorem privC (X : Stand p l e R s m args below meth c T locs cells slots) (hx : p.tables.exec = Jvm.exec) (hZ : Z.Warmed39 s.vm) {own C : String} {index : Nat} {y : MethodName} {bytes : ByteArray} {maxL : Nat} {ret : Option FieldType}
    (hown : s.vm.findClass own = some m.cls) (w1 : (Cond.methodLink own index y).before a0 Z = true) (w2 : (Cond.instanceMethod y).before a0 Z = true) (w3 : (Cond.selects y.cls y y).before a0 Z = true) (w4 : (Cond.privateMethod y).before a0 Z = true) (w5 : (Cond.code y bytes maxL ret).before a0 Z = true)
    (hy : y.cls ≠ "java/lang/invoke/MethodHandle" ∧ y.cls ≠ "java/lang/invoke/VarHandle") {a : Addr} {argsL rest : List Value} {W kc ks : Nat} (hK : SB l R p e below s args y 3 W (.ref a :: argsL).toArray h Q kc ks) (eT : T.heap = h) (E : Exa Z h a C)
    {g : JFrame} (hg : g.method = m) (hsize : g.locals.size = c.maxLocals) (hlen : ∀ sig, parseMethodDescriptor y.desc = some sig → argsL.length = sig.parameters.length)
    (hstack : g.stack = argsL.reverse ++ .ref a :: rest) (hW : 2 * g.monitorRoom + (rest.map fun v => v.category).sum ≤ W) (hdg : decode c.code g.pc = .ok (.invokevirtual index, 3)) (hc : cells + kc ≤ R.cells) (hs : slots + ks ≤ R.slots) :
    ∃ (v : Option Value) (T' : State) (h' : Heap) (L : List Loc), Stand p l e R s m args below meth c T' (locs ++ L) (cells + kc) (slots + ks) ∧ T'.heap = h' ∧ Q v h' L ∧
      ∀ target, Steps p.tables e below (T'.setTop { g with pc := g.pc + 3, stack := v.toList ++ rest }) target → Steps p.tables e below (T.setTop g) target := by
  obtain ⟨cq, q1, q2⟩ := E.cell
  obtain ⟨v, vm, ⟨T', L', k', n'⟩, -, X', ⟨L, hQ, l1, y1, z1⟩, st⟩ := X.privateBack hx hown (mvT hZ w1) (mvT hZ w2) (mvT hZ w3) (Cond.privateMethod_at (mvP hZ w4 (args := #[]))) (mvT hZ w5) hy hK hg hsize (Steps.refl _) (by rw [eT]; exact q1) q2 hlen hstack hW hdg (fun _ _ => ⟨rfl, eT, hc, hs⟩)
  dsimp only [Pt.U, Pt.locs, Pt.cells, Pt.slots] at X' l1 y1 z1 st hQ
  subst l1 y1 z1
  exact ⟨v, T', _, L, X', rfl, hQ, fun _ k => st.trans k⟩
theorem ne_arv {a b : Addr} {C : String} {k : Nat} {kc : ClassId} {ty : FieldType} {z : Int32} {vs : List Value} {d : Value} (F : Exa Z h a C) (wi : (Cond.instantiable C k).before a0 Z = true) (G : Arv Z h b kc ty z vs d) : a ≠ b := by
  obtain ⟨cl, A, -⟩ := G
  exact ne_arr F wi A
theorem ext_refl (h : Heap) : Ext h h := ⟨Nat.le_refl _, fun _ _ q => q⟩
theorem ext_trans (A : Ext h h') (B : Ext h' h2) : Ext h h2 := ⟨Nat.le_trans A.1 B.1, fun a c q => B.2 a c (A.2 a c q)⟩
theorem ext_keep {ws : List Addr} (O : Ext h h') (Kp : Keep h' h2 ws) (q : ∀ x ∈ ws, h.size ≤ x) : Ext h h2 := ⟨Nat.le_trans O.1 Kp.1, fun a c r => Kp.2.1 a c (O.2 a c r) fun z => absurd (Array.getElem?_eq_some_iff.mp r).1 (Nat.not_lt.mpr (q a z))⟩
theorem ext_wr {a : Addr} {sl : Nat} {v : Value} (O : Ext h h') (W : Wr h' h2 a sl v) (q : h.size ≤ a) : Ext h h2 := ext_keep O (Keep.of_wr W) (allS q all0)
theorem ins_keep {ws : List Addr} {a : Addr} {C : String} {b : Bool} (F : Ins Z h a C b) (Kp : Keep h h' ws) : Ins Z h' a C b := by
  obtain ⟨cell, cT, h1, h2, h3⟩ := F
  obtain ⟨c', q, r1, r2, r3⟩ := Kp.2.2 a cell h1
  exact ⟨c', cT, q, h2, by rw [r1, r2]; exact h3⟩
theorem fits_isRef {ty : FieldType} {v : Value} (ht : ty.isReference = true) (hv : v.isRef = true) : fits ty v = true := by
  rcases ref_cases hv with rfl | ⟨a, rfl⟩ <;> cases ty <;> first | rfl | cases ht
theorem narrow_isRef {ty : FieldType} {v : Value} (ht : ty.isReference = true) : narrow ty v = v := by cases ty <;> first | rfl | cases ht
theorem nf_sel {C : String} {y' z y : MethodName} {s : State} {args : Array Value} (w : (Cond.selects C y' z).before args s = true) (hz : z.cls = y.cls) : NotFace s y := fun r0 h0 => by
  obtain ⟨c2, r2, m2, q1, q2, q3, q4, kP, hkP, hkPi⟩ := Cond.selects_spec w
  have e1 := findClass_of_methodNamed h0
  have e2 := findClass_of_methodNamed q3
  rw [hz] at e2
  have e3 : m2.cls = r0.cls := Option.some.inj (e2.symm.trans e1)
  exact ⟨kP, e3 ▸ hkP, hkPi⟩
theorem decl_of {y : MethodName} {s : State} {args : Array Value} {bytes : ByteArray} {maxL : Nat} {ret : Option FieldType} (w : (Cond.instanceMethod y).before args s = true) (wc : (Cond.code y bytes maxL ret).before args s = true) : (Cond.declares y).before args s = true := by
  obtain ⟨mk, methM, hnamed, hmethM, hstM, habM⟩ := Cond.instanceMethod_spec w
  obtain ⟨m2, cM, q1, -, -, -, -, -, -, hsig⟩ := Cond.code_spec hnamed wc
  cases hmethM.symm.trans q1
  simp [Cond.before, Cond.holds, Cond.value, hnamed, hmethM, hstM, hsig]
theorem same_of {y : MethodName} {s : State} {args : Array Value} (nf : NotFace s y) (w : (Cond.instanceMethod y).before args s = true) (hy : y.cls ≠ "java/lang/invoke/MethodHandle" ∧ y.cls ≠ "java/lang/invoke/VarHandle") : (Cond.sameMethod y.cls y.cls y.name y.desc).before args s = true := by
  obtain ⟨mk, methM, hnamed, hmethM, hstM, habM⟩ := Cond.instanceMethod_spec w
  obtain ⟨kr, h1, h2⟩ := nf _ hnamed
  have h3 := State.methodFound?_of_named hnamed hy
  have h4 := findClass_of_methodNamed hnamed
  have h5 : s.methodNamed? ⟨y.cls, y.name, y.desc⟩ = some mk := hnamed
  simp [Cond.before, Cond.holds, Cond.value, h3, h4, h5, h1, h2]
theorem superC (X : Stand p l e R s m args below meth c T locs cells slots) (hx : p.tables.exec = Jvm.exec) (hZ : Z.Warmed39 s.vm) {own C : String} {index : Nat} {y : MethodName} {bytes : ByteArray} {maxL : Nat} {ret : Option FieldType}
    (hown : s.vm.findClass own = some m.cls) (w1 : (Cond.methodLink own index y).before a0 Z = true) (w2 : (Cond.sameMethod y.cls y.cls y.name y.desc).before a0 Z = true) (w3 : (Cond.instanceMethod y).before a0 Z = true) (w4 : (Cond.superclass own y.cls).before a0 Z = true) (w5 : (Cond.code y bytes maxL ret).before a0 Z = true) (hn : y.name ≠ "<init>")
    {a : Addr} {argsL rest : List Value} {W kc ks : Nat} (hK : SB l R p e below s args y 3 W (.ref a :: argsL).toArray h Q kc ks) (eT : T.heap = h) (E : Exa Z h a C)
    {g : JFrame} (hg : g.method = m) (hsize : g.locals.size = c.maxLocals) (hlen : ∀ sig, parseMethodDescriptor y.desc = some sig → argsL.length = sig.parameters.length)
    (hstack : g.stack = argsL.reverse ++ .ref a :: rest) (hW : 2 * g.monitorRoom + (rest.map fun v => v.category).sum ≤ W) (hdg : decode c.code g.pc = .ok (.invokespecial index, 3)) (hc : cells + kc ≤ R.cells) (hs : slots + ks ≤ R.slots) :
    ∃ (v : Option Value) (T' : State) (h' : Heap) (L : List Loc), Stand p l e R s m args below meth c T' (locs ++ L) (cells + kc) (slots + ks) ∧ T'.heap = h' ∧ Q v h' L ∧
      ∀ target, Steps p.tables e below (T'.setTop { g with pc := g.pc + 3, stack := v.toList ++ rest }) target → Steps p.tables e below (T.setTop g) target := by
  obtain ⟨v, vm, ⟨T', L', k', n'⟩, -, X', ⟨L, hQ, l1, y1, z1⟩, st⟩ := superBack X hx hZ hown w1 w2 w3 w4 hn hK eT (Ins.self E) hg hsize w5 hlen hstack hW hdg (fun _ _ => ⟨rfl, eT, hc, hs⟩)
  dsimp only [Pt.U, Pt.locs, Pt.cells, Pt.slots] at X' l1 y1 z1 st hQ
  subst l1 y1 z1
  exact ⟨v, T', _, L, X', rfl, hQ, fun _ k => st.trans k⟩
theorem shl0 (x : Int32) : x <<< ((0 : Int32) &&& 31) = x := by
  apply Int32.toBitVec_inj.mp
  rw [Int32.toBitVec_shiftLeft]
  simp
theorem shr0 (x : Int32) : x >>> ((0 : Int32) &&& 31) = x := by
  apply Int32.toBitVec_inj.mp
  rw [Int32.toBitVec_shiftRight]
  simp
theorem ofn_add (n k : Nat) : Int32.ofNat n + Int32.ofNat k = Int32.ofNat (n + k) := (Int32.ofNat_add n k).symm
theorem ofn_toInt {n : Nat} (h : n < 2 ^ 31) : (Int32.ofNat n).toInt = n := Int32.toInt_ofNat_small h
theorem ofn_clamp {n : Nat} (h : n < 2 ^ 31) : (Int32.ofNat n).toNatClampNeg = n := by simp only [Int32.toNatClampNeg, ofn_toInt h]; rfl
theorem ofn_nneg {n : Nat} (h : n < 2 ^ 31) : ¬ Int32.ofNat n < 0 := by
  rw [Int32.lt_iff_toInt_lt, ofn_toInt h]; show ¬ (n : Int) < 0; omega
theorem ofn_lt {n k : Nat} (hn : n < 2 ^ 31) (hk : k < 2 ^ 31) : Int32.ofNat n < Int32.ofNat k ↔ n < k := by
  rw [Int32.lt_iff_toInt_lt, ofn_toInt hn, ofn_toInt hk]; omega
theorem ofn_sub_le {n k : Nat} (h : n ≤ k) (hk : k < 2 ^ 31) : ¬ (0 : Int32) < Int32.ofNat n - Int32.ofNat k := by
  have h1 := c_isub (Int32.ofNat n) (Int32.ofNat k)
  rw [ofn_toInt (by omega), ofn_toInt hk] at h1
  have h2 := rng32 (Int32.ofNat n - Int32.ofNat k)
  rw [Int32.lt_iff_toInt_lt]
  have : (0 : Int32).toInt = 0 := rfl
  omega
theorem ofn_succ (n : Nat) : Int32.ofNat n + (1 : Int32) = Int32.ofNat (n + 1) := ofn_add n 1
theorem ofn_ne {n k : Nat} (h : n ≠ k) (hn : n < 2 ^ 31) (hk : k < 2 ^ 31) : ¬ Int32.ofNat n = Int32.ofNat k := fun q => h (by have := congrArg Int32.toInt q; rw [ofn_toInt hn, ofn_toInt hk] at this; omega)
theorem sub0 {x : Int32} : x - (0 : Int32) = x := by simp
theorem nar_b8 {x : Int32} : nar .byte (x.toInt8.toInt32) = x.toInt8.toInt32 := by simp [nar]
theorem nar_char {x : Int32} (h : ¬ x < 0 ∧ ¬ (255 : Int32) < x) : nar .char x = x := by
  obtain ⟨h1, h2⟩ := h
  rw [Int32.lt_iff_toInt_lt] at h1 h2
  have e0 : (0 : Int32).toInt = 0 := rfl
  have e1 : (255 : Int32).toInt = 255 := rfl
  have q := c_i2c x
  show x.toUInt32.toUInt16.toUInt32.toInt32 = x
  apply Int32.toInt_inj.mp
  omega
theorem range_getD {us : List Value} {n : Nat} (h : us.length = n) (d : Value) : (List.range n).map (fun i => us.getD i d) = us := by
  subst h
  apply List.ext_getElem
  · simp
  · intro i h1 h2
    simp [List.getD_eq_getElem?_getD, h2]
theorem cp_list {vs us : List Value} {n k : Nat} {d : Value} (hus : us.length = k) (hn : n < 2 ^ 31) (hk : k < 2 ^ 31) :
    vs.take (Int32.ofNat n).toNatClampNeg ++ (List.range (Int32.ofNat k).toNatClampNeg).map (fun i => us.getD ((0 : Int32).toNatClampNeg + i) d) ++ vs.drop ((Int32.ofNat n).toNatClampNeg + (Int32.ofNat k).toNatClampNeg) = vs.take n ++ us ++ vs.drop (n + k) := by
  rw [ofn_clamp hn, ofn_clamp hk]
  have e : (0 : Int32).toNatClampNeg = 0 := rfl
  simp only [e, Nat.zero_add, range_getD hus]
theorem take_range {vs : List Value} {n : Nat} (h : n ≤ vs.length) (d : Value) : (List.range n).map (fun i => vs.getD i d) = vs.take n := by
  apply List.ext_getElem
  · simp [Nat.min_eq_left h]
  · intro i h1 h2
    have h3 : i < n := by simpa using h1
    simp [List.getD_eq_getElem?_getD, show i < vs.length by omega]
theorem cr_list {vs : List Value} {n : Nat} {d d' : Value} (hn : n ≤ vs.length) (h31 : n < 2 ^ 31) :
    (List.replicate n d').take (0 : Int32).toNatClampNeg ++ (List.range (Int32.ofNat n).toNatClampNeg).map (fun i => vs.getD ((0 : Int32).toNatClampNeg + i) d) ++ (List.replicate n d').drop ((0 : Int32).toNatClampNeg + (Int32.ofNat n).toNatClampNeg) = vs.take n := by
  rw [ofn_clamp h31]
  have e : (0 : Int32).toNatClampNeg = 0 := rfl
  simp only [e, Nat.zero_add, take_range hn, List.take_zero, List.nil_append]
  rw [List.drop_eq_nil_of_le (by simp), List.append_nil]
theorem len_cp {vs us : List Value} {n k cN : Nat} (h : vs.length = cN) (hu : us.length = k) (hr : n + k ≤ cN) : (vs.take n ++ us ++ vs.drop (n + k)).length = cN := by
  simp only [List.length_append, List.length_take, List.length_drop, h, hu]; omega
theorem len_set {vs : List Value} {n cN : Nat} {v : Value} (h : vs.length = cN) : (List.set vs n v).length = cN := by simp [h]
theorem i2c255 {x : Int32} : ¬ (x &&& 255).toUInt32.toUInt16.toUInt32.toInt32 < 0 ∧ ¬ (255 : Int32) < (x &&& 255).toUInt32.toUInt16.toUInt32.toInt32 := by
  rw [i2c_mask]
  have q := c_and x 255 (by decide)
  have e0 : (0 : Int32).toInt = 0 := rfl
  have e1 : (255 : Int32).toInt = 255 := rfl
  rw [Int32.lt_iff_toInt_lt, Int32.lt_iff_toInt_lt]
  omega
end Own
end Jvm.RoadKit
/- laws to paste: Road.backV, Road.eqW, Road.codOf (cut by pick.py; bodies as the Statement names them) -/
namespace Jvm.Pilot.@@N@@
namespace StrChars
open Jvm Sem ClassFile Op Lib Jvm.Stand Jvm.Free.XT Jvm.Free.ALB Jvm.Free.JM Jvm.Free
open Jvm.Lib.Cold (StaticIs)
/-- a char array whose places are chars -/
def Ch (a : Addr) (A : Cell) (U : State) : Prop := Arr .char a A U ∧ Typed .char A
theorem Ch.mv {a : Addr} {A : Cell} {U U' : State} (h : Ch a A U) (hal : U.vm.Alike U'.vm) (hh : U'.heap = U.heap) : Ch a A U' := ⟨h.1.mv hal hh, h.2⟩
theorem Ch.keep {a : Addr} {A : Cell} {U U' : State} (h : Ch a A U) (hal : U.vm.Alike U'.vm) (hk : U'.heap[a]? = some A) : Ch a A U' := ⟨h.1.keep hal hk, h.2⟩
/-- what place i of a char[]'s cell holds -/
def cv (A : Cell) (i : Nat) : Int32 := match A.slots[i]? with | some (.int x) => x | _ => 0
theorem Ch.get {a : Addr} {A : Cell} {U : State} (h : Ch a A U) {i : Nat} (hi : i < A.slots.size) : A.slots[i]? = some (.int (cv A i)) := by
  have e := Array.getElem?_eq_getElem hi
  have f := h.2 i _ e
  unfold cv; rw [e]
  generalize A.slots[i] = v at f
  cases v <;> simp [fits] at f ⊢
/-- the byte that i2b leaves of a char -/
def lo8 (x : Int32) : Int32 := x.toInt8.toInt32
theorem fits_lo8 (y : Int32) : fits .byte (.int (lo8 y)) = true := by
  have h1 := y.toInt8.le_toInt
  have h2 := y.toInt8.toInt_lt
  simp only [lo8, fits, Bool.and_eq_true, decide_eq_true_eq, Int32.le_iff_toInt_le, Int8.toInt_toInt32, show (-128 : Int32).toInt = -128 from by decide, show (127 : Int32).toInt = 127 from by decide]
  omega
/-- A' is A but that each place j of lo .. hi - 1 holds f j -/
def Laid (A A' : Cell) (lo hi : Nat) (f : Nat → Value) : Prop := A'.cls = A.cls ∧ A'.vm = A.vm ∧ A'.slots.size = A.slots.size ∧ ∀ i, A'.slots[i]? = if lo ≤ i ∧ i < hi then some (f i) else A.slots[i]?
theorem Laid.zero (A : Cell) (lo : Nat) (f : Nat → Value) : Laid A A lo (lo + 0) f := ⟨rfl, rfl, rfl, fun i => by rw [if_neg (by omega)]⟩
theorem Laid.step {A Ak : Cell} {lo k : Nat} {f : Nat → Value} {v : Value} (h : Laid A Ak lo k f) (hlo : lo ≤ k) (hk : k < Ak.slots.size) (hv : v = f k) : Laid A (Ak.setSlot k v) lo (k + 1) f := by
  refine ⟨h.1, h.2.1, by simpa [Cell.setSlot] using h.2.2.1, fun i => ?_⟩
  by_cases e : k = i
  · subst e; rw [Cell.slots_setSlot_self v hk, if_pos (by omega), hv]
  · rw [Cell.slots_setSlot_ne v e, h.2.2.2 i]
    by_cases q : lo ≤ i ∧ i < k
    · rw [if_pos q, if_pos (by omega)]
    · rw [if_neg q, if_neg (by omega)]
def U16 : String := "java/lang/StringUTF16"
namespace Cmp5
def yN : MethodName := ⟨"java/lang/StringUTF16", "compress", "([CI[BII)I"⟩
abbrev yB : ByteArray := jdk_52_method_21_code
theorem d0 : decode yB 0 = .ok (.iconst 0, 1) := by decide +kernel
theorem d1 : decode yB 1 = .ok (.istore 5, 2) := by decide +kernel
theorem d3 : decode yB 3 = .ok (.iload 5, 2) := by decide +kernel
theorem d5 : decode yB 5 = .ok (.iload 4, 2) := by decide +kernel
theorem d7 : decode yB 7 = .ok (.if_icmp (.ge) 37, 3) := by decide +kernel
theorem d10 : decode yB 10 = .ok (.aload_n 0, 1) := by decide +kernel
theorem d11 : decode yB 11 = .ok (.iload_n 1, 1) := by decide +kernel
theorem d12 : decode yB 12 = .ok (.caload, 1) := by decide +kernel
theorem d13 : decode yB 13 = .ok (.istore 6, 2) := by decide +kernel
theorem d15 : decode yB 15 = .ok (.iload 6, 2) := by decide +kernel
theorem d17 : decode yB 17 = .ok (.sipush 255, 3) := by decide +kernel
theorem d20 : decode yB 20 = .ok (.if_icmp (.le) 6, 3) := by decide +kernel
theorem d26 : decode yB 26 = .ok (.aload_n 2, 1) := by decide +kernel
theorem d27 : decode yB 27 = .ok (.iload_n 3, 1) := by decide +kernel
theorem d28 : decode yB 28 = .ok (.iload 6, 2) := by decide +kernel
theorem d30 : decode yB 30 = .ok (.i2b, 1) := by decide +kernel
theorem d31 : decode yB 31 = .ok (.bastore, 1) := by decide +kernel
theorem d32 : decode yB 32 = .ok (.iinc 1 1, 3) := by decide +kernel
theorem d35 : decode yB 35 = .ok (.iinc 3 1, 3) := by decide +kernel
theorem d38 : decode yB 38 = .ok (.iinc 5 1, 3) := by decide +kernel
theorem d41 : decode yB 41 = .ok (.goto (-38), 3) := by decide +kernel
theorem d44 : decode yB 44 = .ok (.iload 4, 2) := by decide +kernel
theorem d46 : decode yB 46 = .ok (.ireturn, 1) := by decide +kernel
def site : List Cond := []
def tab : Cond := tabOf yN yB 7 (some .int) site
def P (b : Addr) (A : Cell) (d : Addr) (B : Cell) (o q len : Nat) (args : Array Value) (s : State) : Prop := args = #[.ref b, .int (Int32.ofNat o), .ref d, .int (Int32.ofNat q), .int (Int32.ofNat len)] ∧ Ch b A s ∧ Arr .byte d B s ∧ b ≠ d ∧ o + len ≤ A.slots.size ∧ q + len ≤ B.slots.size ∧ ∀ i, i < len → ¬ 255 < cv A (o + i)
def E (b : Addr) (A : Cell) (d : Addr) (B : Cell) (o q len : Nat) (r : Option Value) (s u : State) : Prop := r = some (.int (Int32.ofNat len)) ∧ ∃ B', Put d B' s u ∧ Laid B B' q (q + len) (fun j => Value.int (lo8 (cv A (o + (j - q)))))
/-- no char of the range above 255: len; the places written hold each char's low byte -/
theorem law (l : Launch) (b : Addr) (A : Cell) (d : Addr) (B : Cell) (o q len : Nat) : Law l yN 5 5 0 0 yB 7 (some .int) site (P b A d B o q len) (E b A d B o q len) (copyLocs d q len) 0 0 := by
  refine Law.of_walk (plainFor_of_name (by decide +kernel)) (by decide +kernel) (by decide +kernel) (by decide) (fun _ _ h => by rw [h.1]; rfl) (fun _ U U' hal hh h => ⟨h.1, h.2.1.mv hal hh, h.2.2.1.mv hal hh, h.2.2.2⟩) (fun r U U' V V' h1 hal h2 h => ⟨h.1, h.2.elim fun B' q => ⟨B', q.1.mv h1 h2, q.2⟩⟩) ?_
  intro p e s m args below meth c s₁ X0 hexec hbytes hml hret hlk hnm hown hh0 W hP
  obtain ⟨rfl, hA, hB, hne, l1, l2, hp⟩ := hP
  have c1 : Steps p.tables e below (s₁.setTop (entryFrame m #[.ref b, .int (Int32.ofNat o), .ref d, .int (Int32.ofNat q), .int (Int32.ofNat len)] 7)) (s₁.setTop (mkF m 0 #[.val (.ref b), .val (.int (Int32.ofNat o)), .val (.ref d), .val (.int (Int32.ofNat q)), .val (.int (Int32.ofNat len)), .unset, .unset] [])) := entry rfl
  have hA0 := hA.1.mv X0.warmed.alike hh0
  have hB0 := hB.mv X0.warmed.alike hh0
  have a31 := hA.1.2.2.2
  have c2 : Steps p.tables e below (s₁.setTop (entryFrame m #[.ref b, .int (Int32.ofNat o), .ref d, .int (Int32.ofNat q), .int (Int32.ofNat len)] 7)) (s₁.setTop (mkF m 3 #[.val (.ref b), .val (.int (Int32.ofNat o)), .val (.ref d), .val (.int (Int32.ofNat q)), .val (.int (Int32.ofNat len)), .val (.int 0), .unset] [])) := c1.trans (by
    refine iconstV X0.here hexec rfl 0 (hb hbytes d0) (by decide) ?_
    refine XS.istore X0.here hexec rfl (hb hbytes d1) rfl rfl ?_
    exact Steps.refl _)
  have loop : ∀ (r i : Nat), i + r = len → ∀ (z : Slot), (z = .unset ∨ ∃ w, z = .val w ∧ w.category = 1) → ∀ (Tl : State) (Bk : Cell), Stand p l e { frames := 0, locals := 0, cells := 0, slots := 0 } s m #[.ref b, .int (Int32.ofNat o), .ref d, .int (Int32.ofNat q), .int (Int32.ofNat len)] below meth c Tl ([] ++ copyLocs d q i) 0 0 → Put d Bk s₁ Tl → Laid B Bk q (q + i) (fun j => Value.int (lo8 (cv A (o + (j - q))))) →
      Steps p.tables e below (s₁.setTop (entryFrame m #[.ref b, .int (Int32.ofNat o), .ref d, .int (Int32.ofNat q), .int (Int32.ofNat len)] 7)) (Tl.setTop (mkF m 3 #[.val (.ref b), .val (.int (Int32.ofNat (o + i))), .val (.ref d), .val (.int (Int32.ofNat (q + i))), .val (.int (Int32.ofNat len)), .val (.int (Int32.ofNat i)), z] [])) → ∃ (T' : State) (B' : Cell) (z' : Slot), Stand p l e { frames := 0, locals := 0, cells := 0, slots := 0 } s m #[.ref b, .int (Int32.ofNat o), .ref d, .int (Int32.ofNat q), .int (Int32.ofNat len)] below meth c T' ([] ++ copyLocs d q len) 0 0 ∧ Put d B' s₁ T' ∧ Laid B B' q (q + len) (fun j => Value.int (lo8 (cv A (o + (j - q))))) ∧
      Steps p.tables e below (s₁.setTop (entryFrame m #[.ref b, .int (Int32.ofNat o), .ref d, .int (Int32.ofNat q), .int (Int32.ofNat len)] 7)) (T'.setTop (mkF m 3 #[.val (.ref b), .val (.int (Int32.ofNat (o + len))), .val (.ref d), .val (.int (Int32.ofNat (q + len))), .val (.int (Int32.ofNat len)), .val (.int (Int32.ofNat len)), z'] [])) := by
    intro r
    induction r with
    | zero =>
      intro i hi z hz Tl Bk Xl pl fl cl
      have hil : i = len := by omega
      rw [hil] at Xl fl cl
      exact ⟨Tl, Bk, z, Xl, pl, fl, cl⟩
    | succ r ih =>
      intro i hi z hz Tl Bk Xl pl fl cl
      have all := X0.warmed.alike.symm.trans Xl.warmed.alike
      have hAl := hA0.keep all (pl.other hne hA0.1)
      have hBk := hB0.like all pl.1 fl.1 fl.2.1 fl.2.2.1
      have hlt : q + i < Bk.slots.size := by rw [fl.2.2.1]; omega
      have c3 : Steps p.tables e below (s₁.setTop (entryFrame m #[.ref b, .int (Int32.ofNat o), .ref d, .int (Int32.ofNat q), .int (Int32.ofNat len)] 7)) (Tl.setTop (mkF m 12 #[.val (.ref b), .val (.int (Int32.ofNat (o + i))), .val (.ref d), .val (.int (Int32.ofNat (q + i))), .val (.int (Int32.ofNat len)), .val (.int (Int32.ofNat i)), z] [.int (Int32.ofNat (o + i)), .ref b])) := cl.trans (by
        refine XS.iload Xl.here hexec rfl (hb hbytes d3) rfl ?_
        refine XS.iload Xl.here hexec rfl (hb hbytes d5) rfl ?_
        refine XS.icmpNo Xl.here hexec rfl (hb hbytes d7) rfl (ii_ge_f (lt32 (by omega) (by omega))) ?_
        refine XS.aloadN Xl.here hexec rfl (hb hbytes d10) rfl rfl ?_
        refine XS.iloadN Xl.here hexec rfl (hb hbytes d11) rfl ?_
        exact Steps.refl _)
      have c4 : Steps p.tables e below (s₁.setTop (entryFrame m #[.ref b, .int (Int32.ofNat o), .ref d, .int (Int32.ofNat q), .int (Int32.ofNat len)] 7)) (Tl.setTop (mkF m 13 #[.val (.ref b), .val (.int (Int32.ofNat (o + i))), .val (.ref d), .val (.int (Int32.ofNat (q + i))), .val (.int (Int32.ofNat len)), .val (.int (Int32.ofNat i)), z] [.int (cv A (o + i))])) := c3.trans (by
        refine Xl.aget hexec hAl rfl (hA.get (i := o + i) (by omega)) rfl rfl (hb hbytes d12) ?_
        exact Steps.refl _)
      have c5 : Steps p.tables e below (s₁.setTop (entryFrame m #[.ref b, .int (Int32.ofNat o), .ref d, .int (Int32.ofNat q), .int (Int32.ofNat len)] 7)) (Tl.setTop (mkF m 15 #[.val (.ref b), .val (.int (Int32.ofNat (o + i))), .val (.ref d), .val (.int (Int32.ofNat (q + i))), .val (.int (Int32.ofNat len)), .val (.int (Int32.ofNat i)), .val (.int (cv A (o + i)))] [])) := c4.trans (by
        refine XS.istoreS Xl.here hexec rfl (hb hbytes d13) rfl rfl hz ?_
        exact Steps.refl _)
      have c6 : Steps p.tables e below (s₁.setTop (entryFrame m #[.ref b, .int (Int32.ofNat o), .ref d, .int (Int32.ofNat q), .int (Int32.ofNat len)] 7)) (Tl.setTop (mkF m 31 #[.val (.ref b), .val (.int (Int32.ofNat (o + i))), .val (.ref d), .val (.int (Int32.ofNat (q + i))), .val (.int (Int32.ofNat len)), .val (.int (Int32.ofNat i)), .val (.int (cv A (o + i)))] [.int (lo8 (cv A (o + i))), .int (Int32.ofNat (q + i)), .ref d])) := c5.trans (by
        refine XS.iload Xl.here hexec rfl (hb hbytes d15) rfl ?_
        refine sipushV Xl.here hexec rfl 255 (hb hbytes d17) (by decide) ?_
        refine XS.icmpYes Xl.here hexec rfl (pc0 := 20) rfl (hb hbytes d20) rfl (ii_le_t (hp i (by omega))) (by decide) rfl ?_
        refine XS.aloadN Xl.here hexec rfl (hb hbytes d26) rfl rfl ?_
        refine XS.iloadN Xl.here hexec rfl (hb hbytes d27) rfl ?_
        refine XS.iload Xl.here hexec rfl (hb hbytes d28) rfl ?_
        refine i2b Xl.here hexec rfl (hb hbytes d30) rfl ?_
        exact Steps.refl _)
      obtain ⟨T7, X7, p7, st7⟩ := Xl.aput hexec hBk rfl hlt rfl (fits_lo8 (cv A (o + i))) (g := (mkF m 31 #[.val (.ref b), .val (.int (Int32.ofNat (o + i))), .val (.ref d), .val (.int (Int32.ofNat (q + i))), .val (.int (Int32.ofNat len)), .val (.int (Int32.ofNat i)), .val (.int (cv A (o + i)))] [.int (lo8 (cv A (o + i))), .int (Int32.ofNat (q + i)), .ref d])) rfl (rest := []) rfl (hb hbytes d31)
      have c8 : Steps p.tables e below (s₁.setTop (entryFrame m #[.ref b, .int (Int32.ofNat o), .ref d, .int (Int32.ofNat q), .int (Int32.ofNat len)] 7)) (T7.setTop (mkF m 32 #[.val (.ref b), .val (.int (Int32.ofNat (o + i))), .val (.ref d), .val (.int (Int32.ofNat (q + i))), .val (.int (Int32.ofNat len)), .val (.int (Int32.ofNat i)), .val (.int (cv A (o + i)))] [])) := c6.trans (st7 _ (Steps.refl _))
      have c9 : Steps p.tables e below (s₁.setTop (entryFrame m #[.ref b, .int (Int32.ofNat o), .ref d, .int (Int32.ofNat q), .int (Int32.ofNat len)] 7)) (T7.setTop (mkF m 3 #[.val (.ref b), .val (.int (Int32.ofNat (o + i) + 1)), .val (.ref d), .val (.int (Int32.ofNat (q + i) + 1)), .val (.int (Int32.ofNat len)), .val (.int (Int32.ofNat i + 1)), .val (.int (cv A (o + i)))] [])) := c8.trans (by
        refine iincV X7.here hexec rfl 1 (hb hbytes d32) (by decide) rfl rfl ?_
        refine iincV X7.here hexec rfl 1 (hb hbytes d35) (by decide) rfl rfl ?_
        refine iincV X7.here hexec rfl 1 (hb hbytes d38) (by decide) rfl rfl ?_
        refine XS.goto X7.here hexec rfl (pc0 := 41) rfl (hb hbytes d41) (by decide) rfl ?_
        exact Steps.refl _)
      have c10 : Steps p.tables e below (s₁.setTop (entryFrame m #[.ref b, .int (Int32.ofNat o), .ref d, .int (Int32.ofNat q), .int (Int32.ofNat len)] 7)) (T7.setTop (mkF m 3 #[.val (.ref b), .val (.int (Int32.ofNat (o + (i + 1)))), .val (.ref d), .val (.int (Int32.ofNat (q + (i + 1)))), .val (.int (Int32.ofNat len)), .val (.int (Int32.ofNat (i + 1))), .val (.int (cv A (o + i)))] [])) := by
        have := c9
        rw [succ32, succ32, succ32] at this
        exact this
      exact ih (i + 1) (by omega) _ (Or.inr ⟨_, rfl, rfl⟩) T7 _ (by rw [copyLocs_step, ← List.append_assoc]; exact X7) (pl.trans p7) (fl.step (by omega) hlt (by simp)) c10
  obtain ⟨T9, B9, z9, X9, p9, f9, g9⟩ := loop len 0 (by omega) .unset (Or.inl rfl) s₁ B (by simpa [copyLocs] using X0) ⟨hB0.1, fun _ _ => rfl, rfl⟩ (Laid.zero _ _ _) c2
  have c11 : Steps p.tables e below (s₁.setTop (entryFrame m #[.ref b, .int (Int32.ofNat o), .ref d, .int (Int32.ofNat q), .int (Int32.ofNat len)] 7)) (T9.setTop (mkF m 46 #[.val (.ref b), .val (.int (Int32.ofNat (o + len))), .val (.ref d), .val (.int (Int32.ofNat (q + len))), .val (.int (Int32.ofNat len)), .val (.int (Int32.ofNat len)), z9] [.int (Int32.ofNat len)])) := g9.trans (by
    refine XS.iload X9.here hexec rfl (hb hbytes d3) rfl ?_
    refine XS.iload X9.here hexec rfl (hb hbytes d5) rfl ?_
    refine XS.icmpYes X9.here hexec rfl (pc0 := 7) rfl (hb hbytes d7) rfl (ii_ge_t (nlt32 (by omega) (Nat.le_refl _))) (by decide) rfl ?_
    refine XS.iload X9.here hexec rfl (hb hbytes d44) rfl ?_
    exact Steps.refl _)
  exact ⟨T9, some (.int (Int32.ofNat len)), _, _, _, X9, by simp, rfl, rfl, (fun h => by cases h), ⟨rfl, B9, p9.from hh0, f9⟩, fun fs hl => c11.trans (X9.ireturnOut hexec hret rfl (Or.inl rfl) (hb hbytes d46) hl)⟩
end Cmp5
namespace Cmp3
def yN : MethodName := ⟨"java/lang/StringUTF16", "compress", "([CII)[B"⟩
abbrev yB : ByteArray := jdk_52_method_16_code
theorem d0 : decode yB 0 = .ok (.iload_n 2, 1) := by decide +kernel
theorem d1 : decode yB 1 = .ok (.newarray .byte, 2) := by decide +kernel
theorem d3 : decode yB 3 = .ok (.astore_n 3, 1) := by decide +kernel
theorem d4 : decode yB 4 = .ok (.aload_n 0, 1) := by decide +kernel
theorem d5 : decode yB 5 = .ok (.iload_n 1, 1) := by decide +kernel
theorem d6 : decode yB 6 = .ok (.aload_n 3, 1) := by decide +kernel
theorem d7 : decode yB 7 = .ok (.iconst 0, 1) := by decide +kernel
theorem d8 : decode yB 8 = .ok (.iload_n 2, 1) := by decide +kernel
theorem d9 : decode yB 9 = .ok (.invokestatic 115, 3) := by decide +kernel
theorem d12 : decode yB 12 = .ok (.istore 4, 2) := by decide +kernel
theorem d14 : decode yB 14 = .ok (.iload 4, 2) := by decide +kernel
theorem d16 : decode yB 16 = .ok (.iload_n 2, 1) := by decide +kernel
theorem d17 : decode yB 17 = .ok (.if_icmp (.eq) 40, 3) := by decide +kernel
theorem d57 : decode yB 57 = .ok (.aload_n 3, 1) := by decide +kernel
theorem d58 : decode yB 58 = .ok (.areturn, 1) := by decide +kernel
def site : List Cond := [.arrayClass .byte, Cmp5.tab] ++ staticW U16 115 Cmp5.yN
def tab : Cond := tabOf yN yB 6 (some (.array .byte)) site
def P (b : Addr) (A : Cell) (o len : Nat) (args : Array Value) (s : State) : Prop := args = #[.ref b, .int (Int32.ofNat o), .int (Int32.ofNat len)] ∧ Ch b A s ∧ o + len ≤ A.slots.size ∧ len ≤ 536870912 ∧ ∀ i, i < len → ¬ 255 < cv A (o + i)
def E (b : Addr) (A : Cell) (o len : Nat) (r : Option Value) (s u : State) : Prop := NewArr .byte "[B" len (fun j => .int (lo8 (cv A (o + j)))) r s u ∧ u.heap.size = s.heap.size + 1
/-- no char of the range above 255: a new byte[] of their low bytes -/
theorem law (l : Launch) (b : Addr) (A : Cell) (o len : Nat) : Law l yN 3 3 1 18 yB 6 (some (.array .byte)) site (P b A o len) (E b A o len) [] 1 len := by
  refine Law.of_walk (plainFor_of_name (by decide +kernel)) (by decide +kernel) (by decide +kernel) (by decide) (fun _ _ h => by rw [h.1]; rfl) (fun _ U U' hal hh h => ⟨h.1, h.2.1.mv hal hh, h.2.2⟩) (fun r U U' V V' h1 hal h2 h => ⟨NewArr.mv r U U' V V' h1 hal h2 h.1, by rw [h1, h2]; exact h.2⟩) ?_
  intro p e s m args below meth c s₁ X0 hexec hbytes hml hret hlk hnm hown hh0 W hP
  obtain ⟨rfl, hA, l1, l2, hp⟩ := hP
  have a31 := hA.1.2.2.2
  have c1 : Steps p.tables e below (s₁.setTop (entryFrame m #[.ref b, .int (Int32.ofNat o), .int (Int32.ofNat len)] 6)) (s₁.setTop (mkF m 0 #[.val (.ref b), .val (.int (Int32.ofNat o)), .val (.int (Int32.ofNat len)), .unset, .unset, .unset] [])) := entry rfl
  have c2 : Steps p.tables e below (s₁.setTop (entryFrame m #[.ref b, .int (Int32.ofNat o), .int (Int32.ofNat len)] 6)) (s₁.setTop (mkF m 1 #[.val (.ref b), .val (.int (Int32.ofNat o)), .val (.int (Int32.ofNat len)), .unset, .unset, .unset] [.int (Int32.ofNat len)])) := c1.trans (by
    refine XS.iloadN X0.here hexec rfl (hb hbytes d0) rfl ?_
    exact Steps.refl _)
  obtain ⟨T3, B3, X3, ba3, bs3, bv3, bh3, bf3, st3⟩ := X0.anew hexec (atype := .byte) (wk W (.arrayClass .byte)) rfl (by show len * 1 ≤ _; omega) (by omega) (g := (mkF m 1 #[.val (.ref b), .val (.int (Int32.ofNat o)), .val (.int (Int32.ofNat len)), .unset, .unset, .unset] [.int (Int32.ofNat len)])) rfl (hb hbytes d1) (rest := []) rfl (Nat.le_refl _) (by show 0 + len ≤ len; omega)
  rw [hh0] at ba3 st3
  have kp3 : XT.Kept s T3 := (XT.Kept.of_eq hh0).push bh3
  have hA3 := hA.keep X3.warmed.alike (kp3 _ _ hA.1.1)
  have hne : b ≠ s.heap.size := hA.1.ne
  have c4 : Steps p.tables e below (s₁.setTop (entryFrame m #[.ref b, .int (Int32.ofNat o), .int (Int32.ofNat len)] 6)) (T3.setTop (mkF m 3 #[.val (.ref b), .val (.int (Int32.ofNat o)), .val (.int (Int32.ofNat len)), .unset, .unset, .unset] [.ref s.heap.size])) := c2.trans (st3 _ (Steps.refl _))
  have c5 : Steps p.tables e below (s₁.setTop (entryFrame m #[.ref b, .int (Int32.ofNat o), .int (Int32.ofNat len)] 6)) (T3.setTop (mkF m 9 #[.val (.ref b), .val (.int (Int32.ofNat o)), .val (.int (Int32.ofNat len)), .val (.ref s.heap.size), .unset, .unset] [.int (Int32.ofNat len), .int 0, .ref s.heap.size, .int (Int32.ofNat o), .ref b])) := c4.trans (by
    refine XS.astoreN X3.here hexec rfl (hb hbytes d3) rfl rfl rfl ?_
    refine XS.aloadN X3.here hexec rfl (hb hbytes d4) rfl rfl ?_
    refine XS.iloadN X3.here hexec rfl (hb hbytes d5) rfl ?_
    refine XS.aloadN X3.here hexec rfl (hb hbytes d6) rfl rfl ?_
    refine iconstV X3.here hexec rfl 0 (hb hbytes d7) (by decide) ?_
    refine XS.iloadN X3.here hexec rfl (hb hbytes d8) rfl ?_
    exact Steps.refl _)
  obtain ⟨v6, T6, X6, E6, g6⟩ := X3.callS hexec (Cmp5.law l b A s.heap.size B3 o 0 len) hown (wks W (staticW U16 115 Cmp5.yN)) (wk W Cmp5.tab) (W := 0) (Nat.le_of_ble_eq_true rfl) (Nat.le_of_ble_eq_true rfl) (Nat.le_refl _) (by show 0 + len + 0 ≤ len; omega) (g := (mkF m 9 #[.val (.ref b), .val (.int (Int32.ofNat o)), .val (.int (Int32.ofNat len)), .val (.ref s.heap.size), .unset, .unset] [.int (Int32.ofNat len), .int (Int32.ofNat 0), .ref s.heap.size, .int (Int32.ofNat o), .ref b])) rfl (by rw [hml]; rfl) c5 (argsL := [.ref b, .int (Int32.ofNat o), .ref s.heap.size, .int (Int32.ofNat 0), .int (Int32.ofNat len)]) (rest := []) rfl rfl (by show 2 * 0 + 0 ≤ _; decide) (hb hbytes d9) (⟨rfl, hA3, ba3, hne, l1, by rw [bs3]; simp, hp⟩)
  obtain ⟨rfl, B6, p6, f6⟩ := E6
  have c7 : Steps p.tables e below (s₁.setTop (entryFrame m #[.ref b, .int (Int32.ofNat o), .int (Int32.ofNat len)] 6)) (T6.setTop (mkF m 12 #[.val (.ref b), .val (.int (Int32.ofNat o)), .val (.int (Int32.ofNat len)), .val (.ref s.heap.size), .unset, .unset] [.int (Int32.ofNat len)])) := g6
  have c8 : Steps p.tables e below (s₁.setTop (entryFrame m #[.ref b, .int (Int32.ofNat o), .int (Int32.ofNat len)] 6)) (T6.setTop (mkF m 58 #[.val (.ref b), .val (.int (Int32.ofNat o)), .val (.int (Int32.ofNat len)), .val (.ref s.heap.size), .val (.int (Int32.ofNat len)), .unset] [.ref s.heap.size])) := c7.trans (by
    refine XS.istore X6.here hexec rfl (hb hbytes d12) rfl rfl ?_
    refine XS.iload X6.here hexec rfl (hb hbytes d14) rfl ?_
    refine XS.iloadN X6.here hexec rfl (hb hbytes d16) rfl ?_
    refine XS.icmpYes X6.here hexec rfl (pc0 := 17) rfl (hb hbytes d17) rfl (ii_eq_t rfl) (by decide) rfl ?_
    refine XS.aloadN X6.here hexec rfl (hb hbytes d57) rfl rfl ?_
    exact Steps.refl _)
  have X8 := X6.wide (L' := []) (cells' := 1) (slots' := len) (fun x hx hlt => by
    simp only [List.nil_append, copyLocs, List.mem_map, List.mem_range] at hx
    obtain ⟨i, -, rfl⟩ := hx
    exact absurd hlt (Nat.lt_irrefl _)) (Nat.le_refl _) (by omega)
  exact ⟨T6, some (.ref s.heap.size), _, _, _, X8, rfl, rfl, rfl, (fun h => by cases h), ⟨⟨rfl, B6, ba3.like (X3.warmed.alike.symm.trans X6.warmed.alike) p6.1 f6.1 f6.2.1 f6.2.2.1, f6.2.1.trans bv3, by rw [X6.warmed.alike.findClass, f6.1]; exact bf3, by rw [f6.2.2.1, bs3]; simp, fun j hj => by rw [f6.2.2.2 j, if_pos (by omega)]; rfl, kp3.put p6 (Nat.le_refl _)⟩, by rw [p6.2.2, bh3, hh0]; simp⟩, fun fs hl => c8.trans (X8.areturnOut hexec rfl hret rfl (hb hbytes d58) hl)⟩
end Cmp3
namespace CodL
def yN : MethodName := ⟨"java/lang/StringUTF16", "coderFromArrayLen", "([BI)B"⟩
abbrev yB : ByteArray := jdk_52_method_15_code
theorem d0 : decode yB 0 = .ok (.iload_n 1, 1) := by decide +kernel
theorem d1 : decode yB 1 = .ok (.aload_n 0, 1) := by decide +kernel
theorem d2 : decode yB 2 = .ok (.arraylength, 1) := by decide +kernel
theorem d3 : decode yB 3 = .ok (.isub, 1) := by decide +kernel
theorem d4 : decode yB 4 = .ok (.bipush 31, 2) := by decide +kernel
theorem d6 : decode yB 6 = .ok (.iushr, 1) := by decide +kernel
theorem d7 : decode yB 7 = .ok (.i2b, 1) := by decide +kernel
theorem d8 : decode yB 8 = .ok (.ireturn, 1) := by decide +kernel
def site : List Cond := []
def tab : Cond := tabOf yN yB 2 (some .byte) site
def P (d : Addr) (B : Cell) (args : Array Value) (s : State) : Prop := args = #[.ref d, .int (Int32.ofNat B.slots.size)] ∧ Arr .byte d B s
def E (r : Option Value) (s u : State) : Prop := XT.PureE (some (.int 0)) r s u
/-- an array as long as the number of chars: LATIN1 -/
theorem law (l : Launch) (d : Addr) (B : Cell) : Law l yN 2 2 0 0 yB 2 (some .byte) site (P d B) E [] 0 0 := by
  refine Law.of_walk (plainFor_of_name (by decide +kernel)) (by decide +kernel) (by decide +kernel) (by decide) (fun _ _ h => by rw [h.1]; rfl) (fun _ U U' hal hh h => ⟨h.1, h.2.mv hal hh⟩) (fun r U U' V V' h1 hal h2 h => XT.PureE.mv r U U' V V' h1 hal h2 h) ?_
  intro p e s m args below meth c s₁ X0 hexec hbytes hml hret hlk hnm hown hh0 W hP
  obtain ⟨rfl, hB⟩ := hP
  have hB0 := hB.mv X0.warmed.alike hh0
  have c1 : Steps p.tables e below (s₁.setTop (entryFrame m #[.ref d, .int (Int32.ofNat B.slots.size)] 2)) (s₁.setTop (mkF m 0 #[.val (.ref d), .val (.int (Int32.ofNat B.slots.size))] [])) := entry rfl
  have c2 : Steps p.tables e below (s₁.setTop (entryFrame m #[.ref d, .int (Int32.ofNat B.slots.size)] 2)) (s₁.setTop (mkF m 2 #[.val (.ref d), .val (.int (Int32.ofNat B.slots.size))] [.ref d, .int (Int32.ofNat B.slots.size)])) := c1.trans (by
    refine XS.iloadN X0.here hexec rfl (hb hbytes d0) rfl ?_
    refine XS.aloadN X0.here hexec rfl (hb hbytes d1) rfl rfl ?_
    exact Steps.refl _)
  have c3 : Steps p.tables e below (s₁.setTop (entryFrame m #[.ref d, .int (Int32.ofNat B.slots.size)] 2)) (s₁.setTop (mkF m 8 #[.val (.ref d), .val (.int (Int32.ofNat B.slots.size))] [.int (lo8 (ushr (Int32.ofNat B.slots.size - Int32.ofNat B.slots.size) 31))])) := c2.trans (by
    refine X0.alen hexec hB0 rfl rfl (hb hbytes d2) ?_
    refine XS.isub X0.here hexec rfl (hb hbytes d3) rfl ?_
    refine bipushV X0.here hexec rfl 31 (hb hbytes d4) (by decide) ?_
    refine iushr X0.here hexec rfl (hb hbytes d6) rfl ?_
    refine i2b X0.here hexec rfl (hb hbytes d7) rfl ?_
    exact Steps.refl _)
  have e0 : lo8 (ushr (Int32.ofNat B.slots.size - Int32.ofNat B.slots.size) 31) = 0 := by rw [Int32.sub_self]; decide
  rw [e0] at c3
  exact ⟨s₁, some (.int 0), _, _, _, X0, rfl, rfl, rfl, (fun h => by cases h), ⟨rfl, hh0⟩, fun fs hl => c3.trans (X0.ireturnOut hexec hret rfl (Or.inr (Or.inr (Or.inl rfl))) (hb hbytes d8) hl)⟩
end CodL
/-- the String at a is Latin-1 over a new byte[] (the heap's one new cell): the low bytes of the len chars of A from o on; every cell but a is kept -/
def Got (a : Addr) (D : Cell) (fV fC : Field) (A : Cell) (o len : Nat) (r : Option Value) (s u : State) : Prop := r = none ∧ ∃ D' V : Cell, Blank "java/lang/String" a D' u ∧ Same D D' [fV.slot, fC.slot] ∧ D'.slots[fV.slot]? = some (.ref s.heap.size) ∧ D'.slots[fC.slot]? = some (.int 0) ∧ Arr .byte s.heap.size V u ∧ V.vm = .none ∧ u.vm.findClass "[B" = some V.cls ∧ V.slots.size = len ∧ (∀ j, j < len → V.slots[j]? = some (.int (lo8 (cv A (o + j))))) ∧ (∀ (y : Addr) (c : Cell), y ≠ a → s.heap[y]? = some c → u.heap[y]? = some c) ∧ u.heap.size = s.heap.size + 1
theorem Got.mv {a : Addr} {D A : Cell} {fV fC : Field} {o len : Nat} : ∀ r (U U' V V' : State), U'.heap = U.heap → V.vm.Alike V'.vm → V'.heap = V.heap → Got a D fV fC A o len r U V → Got a D fV fC A o len r U' V' :=
  fun r U U' V V' h1 hal h2 ⟨e0, D', X, a1, a2, a3, a4, a5, a6, a7, a8, a9, a10, a11⟩ => ⟨e0, D', X, a1.mv hal h2, a2, by rw [h1]; exact a3, a4, by rw [h1]; exact a5.mv hal h2, a6, by rw [hal.findClass]; exact a7, a8, a9, by rw [h1, h2]; exact a10, by rw [h1, h2]; exact a11⟩
namespace New4
def yN : MethodName := ⟨"java/lang/String", "<init>", "([CIILjava/lang/Void;)V"⟩
abbrev yB : ByteArray := jdk_42_method_149_code
theorem d0 : decode yB 0 = .ok (.aload_n 0, 1) := by decide +kernel
theorem d1 : decode yB 1 = .ok (.invokespecial 1, 3) := by decide +kernel
theorem d4 : decode yB 4 = .ok (.iload_n 3, 1) := by decide +kernel
theorem d5 : decode yB 5 = .ok (.ifCond (.ne) 22, 3) := by decide +kernel
theorem d27 : decode yB 27 = .ok (.getstatic 38, 3) := by decide +kernel
theorem d30 : decode yB 30 = .ok (.ifCond (.eq) 28, 3) := by decide +kernel
theorem d33 : decode yB 33 = .ok (.aload_n 1, 1) := by decide +kernel
theorem d34 : decode yB 34 = .ok (.iload_n 2, 1) := by decide +kernel
theorem d35 : decode yB 35 = .ok (.iload_n 3, 1) := by decide +kernel
theorem d36 : decode yB 36 = .ok (.invokestatic 177, 3) := by decide +kernel
theorem d39 : decode yB 39 = .ok (.astore 5, 2) := by decide +kernel
theorem d41 : decode yB 41 = .ok (.aload_n 0, 1) := by decide +kernel
theorem d42 : decode yB 42 = .ok (.aload 5, 2) := by decide +kernel
theorem d44 : decode yB 44 = .ok (.iload_n 3, 1) := by decide +kernel
theorem d45 : decode yB 45 = .ok (.invokestatic 47, 3) := by decide +kernel
theorem d48 : decode yB 48 = .ok (.putfield 15, 3) := by decide +kernel
theorem d51 : decode yB 51 = .ok (.aload_n 0, 1) := by decide +kernel
theorem d52 : decode yB 52 = .ok (.aload 5, 2) := by decide +kernel
theorem d54 : decode yB 54 = .ok (.putfield 9, 3) := by decide +kernel
theorem d57 : decode yB 57 = .ok (.return_, 1) := by decide +kernel
def site : List Cond := [.fieldLink "java/lang/String" 38 "java/lang/String" "COMPACT_STRINGS" "Z", Cmp3.tab, CodL.tab, .laysFinal "java/lang/String" "java/lang/String" "value" "[B", .fieldLink "java/lang/String" 9 "java/lang/String" "value" "[B", .laysFinal "java/lang/String" "java/lang/String" "coder" "B", .fieldLink "java/lang/String" 15 "java/lang/String" "coder" "B"] ++ objW "java/lang/String" 1 ++ staticW "java/lang/String" 177 Cmp3.yN ++ staticW "java/lang/String" 47 CodL.yN
def tab : Cond := tabOf yN yB 6 none site
def P (a : Addr) (D : Cell) (fV fC : Field) (b : Addr) (A : Cell) (z : Int32) (o len : Nat) (args : Array Value) (s : State) : Prop := args = #[.ref a, .ref b, .int (Int32.ofNat o), .int (Int32.ofNat len), .null] ∧ Blank "java/lang/String" a D s ∧ Found "java/lang/String" "value" "[B" fV s ∧ Found "java/lang/String" "coder" "B" fC s ∧ Ch b A s ∧ StaticIs s "java/lang/String" "COMPACT_STRINGS" "Z" (.int z) ∧ ¬ z = 0 ∧ 0 < len ∧ o + len ≤ A.slots.size ∧ len ≤ 536870912 ∧ ∀ i, i < len → ¬ 255 < cv A (o + i)
def E (a : Addr) (D : Cell) (fV fC : Field) (A : Cell) (o len : Nat) (r : Option Value) (s u : State) : Prop := Got a D fV fC A o len r s u
/-- len > 0, no char of the range above 255: a Latin-1 String of their low bytes -/
theorem law (l : Launch) (a : Addr) (D : Cell) (fV fC : Field) (b : Addr) (A : Cell) (z : Int32) (o len : Nat) : Law l yN 5 4 2 35 yB 6 none site (P a D fV fC b A z o len) (E a D fV fC A o len) [⟨a, fC.slot⟩, ⟨a, fV.slot⟩] 1 len := by
  refine Law.of_walk (plainFor_of_name (by decide +kernel)) (by decide +kernel) (by decide +kernel) (by decide) (fun _ _ h => by rw [h.1]; rfl) (fun _ U U' hal hh h => ⟨h.1, h.2.1.mv hal hh, h.2.2.1.al hal, h.2.2.2.1.al hal, h.2.2.2.2.1.mv hal hh, h.2.2.2.2.2.1.there hal hh, h.2.2.2.2.2.2⟩) (fun r U U' V V' h1 hal h2 h => Got.mv r U U' V V' h1 hal h2 h) ?_
  intro p e s m args below meth c s₁ X0 hexec hbytes hml hret hlk hnm hown hh0 W hP
  obtain ⟨rfl, hB, f1, f2, hA, s1, hz, l0, l1, l2, hp⟩ := hP
  have a31 := hA.1.2.2.2
  have c1 : Steps p.tables e below (s₁.setTop (entryFrame m #[.ref a, .ref b, .int (Int32.ofNat o), .int (Int32.ofNat len), .null] 6)) (s₁.setTop (mkF m 0 #[.val (.ref a), .val (.ref b), .val (.int (Int32.ofNat o)), .val (.int (Int32.ofNat len)), .val .null, .unset] [])) := entry rfl
  have c2 : Steps p.tables e below (s₁.setTop (entryFrame m #[.ref a, .ref b, .int (Int32.ofNat o), .int (Int32.ofNat len), .null] 6)) (s₁.setTop (mkF m 1 #[.val (.ref a), .val (.ref b), .val (.int (Int32.ofNat o)), .val (.int (Int32.ofNat len)), .val .null, .unset] [.ref a])) := c1.trans (by
    refine XS.aloadN X0.here hexec rfl (hb hbytes d0) rfl rfl ?_
    exact Steps.refl _)
  obtain ⟨T3, X3, q3, st3⟩ := X0.oinit hexec hown (wks W (objW "java/lang/String" 1)) (g := (mkF m 1 #[.val (.ref a), .val (.ref b), .val (.int (Int32.ofNat o)), .val (.int (Int32.ofNat len)), .val .null, .unset] [.ref a])) rfl (by rw [hml]; rfl) (rest := []) rfl (hb hbytes d1) (W := 0) (by show 2 * 0 + 0 ≤ _; decide) (Nat.le_of_ble_eq_true rfl) (Nat.le_of_ble_eq_true rfl)
  have hh3 := q3.trans hh0
  have c4 : Steps p.tables e below (s₁.setTop (entryFrame m #[.ref a, .ref b, .int (Int32.ofNat o), .int (Int32.ofNat len), .null] 6)) (T3.setTop (mkF m 27 #[.val (.ref a), .val (.ref b), .val (.int (Int32.ofNat o)), .val (.int (Int32.ofNat len)), .val .null, .unset] [])) := (c2.trans (st3 _ (Steps.refl _))).trans (by
    refine XS.iloadN X3.here hexec rfl (hb hbytes d4) rfl ?_
    refine XS.ifYes X3.here hexec rfl (pc0 := 5) rfl (hb hbytes d5) rfl (i0_ne_t (nz32 (by omega) l0)) (by decide) rfl ?_
    exact Steps.refl _)
  obtain ⟨T5, X5, q5, st5⟩ := X3.sget hexec hown (wk W (.fieldLink "java/lang/String" 38 "java/lang/String" "COMPACT_STRINGS" "Z")) s1 (fun _ _ h => by rw [hh3]; exact h) (g := (mkF m 27 #[.val (.ref a), .val (.ref b), .val (.int (Int32.ofNat o)), .val (.int (Int32.ofNat len)), .val .null, .unset] [])) rfl (hb hbytes d27)
  have hh5 := q5.trans hh3
  have c6 : Steps p.tables e below (s₁.setTop (entryFrame m #[.ref a, .ref b, .int (Int32.ofNat o), .int (Int32.ofNat len), .null] 6)) (T5.setTop (mkF m 30 #[.val (.ref a), .val (.ref b), .val (.int (Int32.ofNat o)), .val (.int (Int32.ofNat len)), .val .null, .unset] [.int z])) := c4.trans (st5 _ (Steps.refl _))
  have c7 : Steps p.tables e below (s₁.setTop (entryFrame m #[.ref a, .ref b, .int (Int32.ofNat o), .int (Int32.ofNat len), .null] 6)) (T5.setTop (mkF m 36 #[.val (.ref a), .val (.ref b), .val (.int (Int32.ofNat o)), .val (.int (Int32.ofNat len)), .val .null, .unset] [.int (Int32.ofNat len), .int (Int32.ofNat o), .ref b])) := c6.trans (by
    refine XS.ifNo X5.here hexec rfl (hb hbytes d30) rfl (i0_eq_f hz) ?_
    refine XS.aloadN X5.here hexec rfl (hb hbytes d33) rfl rfl ?_
    refine XS.iloadN X5.here hexec rfl (hb hbytes d34) rfl ?_
    refine XS.iloadN X5.here hexec rfl (hb hbytes d35) rfl ?_
    exact Steps.refl _)
  obtain ⟨v8, T8, X8, E8, g8⟩ := X5.callS hexec (Cmp3.law l b A o len) hown (wks W (staticW "java/lang/String" 177 Cmp3.yN)) (wk W Cmp3.tab) (W := 0) (Nat.le_of_ble_eq_true rfl) (Nat.le_of_ble_eq_true rfl) (Nat.le_refl _) (by show 0 + len ≤ len; omega) (g := (mkF m 36 #[.val (.ref a), .val (.ref b), .val (.int (Int32.ofNat o)), .val (.int (Int32.ofNat len)), .val .null, .unset] [.int (Int32.ofNat len), .int (Int32.ofNat o), .ref b])) rfl (by rw [hml]; rfl) c7 (argsL := [.ref b, .int (Int32.ofNat o), .int (Int32.ofNat len)]) (rest := []) rfl rfl (by show 2 * 0 + 0 ≤ _; decide) (hb hbytes d36) (⟨rfl, hA.mv X5.warmed.alike hh5, l1, l2, hp⟩)
  obtain ⟨e8, z8⟩ := E8
  obtain ⟨rfl, N, n1, n2, n3, n4, n5, n6⟩ := NewArr.mv _ T5 s _ _ hh5.symm (Vm.Alike.refl _) rfl e8
  rw [hh5] at z8
  have hB1 := hB.keep X8.warmed.alike (n6 _ _ hB.1)
  have hne : s.heap.size ≠ a := (Nat.ne_of_lt (Array.getElem?_eq_some_iff.mp hB.1).1).symm
  have c9 : Steps p.tables e below (s₁.setTop (entryFrame m #[.ref a, .ref b, .int (Int32.ofNat o), .int (Int32.ofNat len), .null] 6)) (T8.setTop (mkF m 39 #[.val (.ref a), .val (.ref b), .val (.int (Int32.ofNat o)), .val (.int (Int32.ofNat len)), .val .null, .unset] [.ref s.heap.size])) := g8
  have c10 : Steps p.tables e below (s₁.setTop (entryFrame m #[.ref a, .ref b, .int (Int32.ofNat o), .int (Int32.ofNat len), .null] 6)) (T8.setTop (mkF m 45 #[.val (.ref a), .val (.ref b), .val (.int (Int32.ofNat o)), .val (.int (Int32.ofNat len)), .val .null, .val (.ref s.heap.size)] [.int (Int32.ofNat N.slots.size), .ref s.heap.size, .ref a])) := by
    have hc : Steps p.tables e below (s₁.setTop (entryFrame m #[.ref a, .ref b, .int (Int32.ofNat o), .int (Int32.ofNat len), .null] 6)) (T8.setTop (mkF m 45 #[.val (.ref a), .val (.ref b), .val (.int (Int32.ofNat o)), .val (.int (Int32.ofNat len)), .val .null, .val (.ref s.heap.size)] [.int (Int32.ofNat len), .ref s.heap.size, .ref a])) := c9.trans (by
      refine XS.astore X8.here hexec rfl (hb hbytes d39) rfl rfl rfl ?_
      refine XS.aloadN X8.here hexec rfl (hb hbytes d41) rfl rfl ?_
      refine XS.aload X8.here hexec rfl (hb hbytes d42) rfl rfl ?_
      refine XS.iloadN X8.here hexec rfl (hb hbytes d44) rfl ?_
      exact Steps.refl _)
    rw [n4]; exact hc
  obtain ⟨v11, T11, X11, E11, g11⟩ := X8.callS hexec (CodL.law l s.heap.size N) hown (wks W (staticW "java/lang/String" 47 CodL.yN)) (wk W CodL.tab) (W := 1) (Nat.le_of_ble_eq_true rfl) (Nat.le_of_ble_eq_true rfl) (Nat.le_refl _) (by show 0 + len + 0 ≤ len; omega) (g := (mkF m 45 #[.val (.ref a), .val (.ref b), .val (.int (Int32.ofNat o)), .val (.int (Int32.ofNat len)), .val .null, .val (.ref s.heap.size)] [.int (Int32.ofNat N.slots.size), .ref s.heap.size, .ref a])) rfl (by rw [hml]; rfl) c10 (argsL := [.ref s.heap.size, .int (Int32.ofNat N.slots.size)]) (rest := [.ref a]) rfl rfl (by show 2 * 0 + (1 + 0) ≤ _; decide) (hb hbytes d45) (⟨rfl, n1⟩)
  obtain ⟨rfl, q11⟩ := E11
  have hB11 := hB1.mv (X8.warmed.alike.symm.trans X11.warmed.alike) q11
  have c12 : Steps p.tables e below (s₁.setTop (entryFrame m #[.ref a, .ref b, .int (Int32.ofNat o), .int (Int32.ofNat len), .null] 6)) (T11.setTop (mkF m 48 #[.val (.ref a), .val (.ref b), .val (.int (Int32.ofNat o)), .val (.int (Int32.ofNat len)), .val .null, .val (.ref s.heap.size)] [.int 0, .ref a])) := g11
  obtain ⟨T13, X13, p13, bl13, sl13, st13⟩ := X11.finit hexec hown (wk W (.fieldLink "java/lang/String" 15 "java/lang/String" "coder" "B")) (Or.inr ⟨_, (wk W (.laysFinal "java/lang/String" "java/lang/String" "coder" "B"))⟩) (Or.inl ⟨rfl, hnm⟩) f2 (Or.inl rfl) hB11 (t := .byte) (by decide +kernel) rfl (g := (mkF m 48 #[.val (.ref a), .val (.ref b), .val (.int (Int32.ofNat o)), .val (.int (Int32.ofNat len)), .val .null, .val (.ref s.heap.size)] [.int 0, .ref a])) rfl (rest := []) rfl (hb hbytes d48)
  have c14 : Steps p.tables e below (s₁.setTop (entryFrame m #[.ref a, .ref b, .int (Int32.ofNat o), .int (Int32.ofNat len), .null] 6)) (T13.setTop (mkF m 54 #[.val (.ref a), .val (.ref b), .val (.int (Int32.ofNat o)), .val (.int (Int32.ofNat len)), .val .null, .val (.ref s.heap.size)] [.ref s.heap.size, .ref a])) := (c12.trans (st13 _ (Steps.refl _))).trans (by
    refine XS.aloadN X13.here hexec rfl (hb hbytes d51) rfl rfl ?_
    refine XS.aload X13.here hexec rfl (hb hbytes d52) rfl rfl ?_
    exact Steps.refl _)
  obtain ⟨T15, X15, p15, bl15, sl15, st15⟩ := X13.finit hexec hown (wk W (.fieldLink "java/lang/String" 9 "java/lang/String" "value" "[B")) (Or.inr ⟨_, (wk W (.laysFinal "java/lang/String" "java/lang/String" "value" "[B"))⟩) (Or.inl ⟨rfl, hnm⟩) f1 (Or.inl rfl) bl13 (t := (.array .byte)) (by decide +kernel) rfl (g := (mkF m 54 #[.val (.ref a), .val (.ref b), .val (.int (Int32.ofNat o)), .val (.int (Int32.ofNat len)), .val .null, .val (.ref s.heap.size)] [.ref s.heap.size, .ref a])) rfl (rest := []) rfl (hb hbytes d54)
  have c16 : Steps p.tables e below (s₁.setTop (entryFrame m #[.ref a, .ref b, .int (Int32.ofNat o), .int (Int32.ofNat len), .null] 6)) (T15.setTop (mkF m 57 #[.val (.ref a), .val (.ref b), .val (.int (Int32.ofNat o)), .val (.int (Int32.ofNat len)), .val .null, .val (.ref s.heap.size)] [])) := c14.trans (st15 _ (Steps.refl _))
  have ap := apart (Or.inr ⟨_, (wk W (.laysFinal "java/lang/String" "java/lang/String" "value" "[B"))⟩) (Or.inr ⟨_, (wk W (.laysFinal "java/lang/String" "java/lang/String" "coder" "B"))⟩) f1 f2 (t₁ := .array .byte) (t₂ := .byte) (by decide +kernel) (by decide +kernel) (by decide)
  have al := X8.warmed.alike.symm.trans X15.warmed.alike
  have n7 : T11.heap[s.heap.size]? = some N := by rw [q11]; exact n1.1
  exact ⟨T15, none, _, _, _, X15, by simp, rfl, by omega, (fun _ => rfl), ⟨rfl, _, N, bl15, ((Same.refl D _).set _ (by simp)).set _ (by simp), sl15, (Cell.slots_setSlot_ne _ ap).trans sl13, n1.keep al (p15.other hne (p13.other hne n7)), n2, by rw [al.findClass]; exact n3, n4, n5, fun y c h1 h2 => p15.other h1 (p13.other h1 (by rw [q11]; exact n6 y c h2)), by rw [p15.2.2, p13.2.2, q11]; exact z8⟩, fun fs hl => c16.trans (X15.returnOut hexec hret (hb hbytes d57) hl)⟩
end New4
namespace New1
def yN : MethodName := ⟨"java/lang/String", "<init>", "([C)V"⟩
abbrev yB : ByteArray := jdk_42_method_3_code
theorem d0 : decode yB 0 = .ok (.aload_n 0, 1) := by decide +kernel
theorem d1 : decode yB 1 = .ok (.aload_n 1, 1) := by decide +kernel
theorem d2 : decode yB 2 = .ok (.iconst 0, 1) := by decide +kernel
theorem d3 : decode yB 3 = .ok (.aload_n 1, 1) := by decide +kernel
theorem d4 : decode yB 4 = .ok (.arraylength, 1) := by decide +kernel
theorem d5 : decode yB 5 = .ok (.aconst_null, 1) := by decide +kernel
theorem d6 : decode yB 6 = .ok (.invokespecial 27, 3) := by decide +kernel
theorem d9 : decode yB 9 = .ok (.return_, 1) := by decide +kernel
def site : List Cond := [New4.tab] ++ initW "java/lang/String" 27 New4.yN
def tab : Cond := tabOf yN yB 2 none site
def P (a : Addr) (D : Cell) (fV fC : Field) (b : Addr) (A : Cell) (z : Int32) (args : Array Value) (s : State) : Prop := args = #[.ref a, .ref b] ∧ Blank "java/lang/String" a D s ∧ Found "java/lang/String" "value" "[B" fV s ∧ Found "java/lang/String" "coder" "B" fC s ∧ Ch b A s ∧ StaticIs s "java/lang/String" "COMPACT_STRINGS" "Z" (.int z) ∧ ¬ z = 0 ∧ 0 < A.slots.size ∧ A.slots.size ≤ 536870912 ∧ ∀ i, i < A.slots.size → ¬ 255 < cv A i
def E (a : Addr) (D : Cell) (fV fC : Field) (A : Cell) (r : Option Value) (s u : State) : Prop := Got a D fV fC A 0 A.slots.size r s u
/-- new String(chars), not empty, no char above 255: a Latin-1 String of their low bytes -/
theorem law (l : Launch) (a : Addr) (D : Cell) (fV fC : Field) (b : Addr) (A : Cell) (z : Int32) : Law l yN 2 1 3 52 yB 2 none site (P a D fV fC b A z) (E a D fV fC A) [⟨a, fC.slot⟩, ⟨a, fV.slot⟩] 1 A.slots.size := by
  refine Law.of_walk (plainFor_of_name (by decide +kernel)) (by decide +kernel) (by decide +kernel) (by decide) (fun _ _ h => by rw [h.1]; rfl) (fun _ U U' hal hh h => ⟨h.1, h.2.1.mv hal hh, h.2.2.1.al hal, h.2.2.2.1.al hal, h.2.2.2.2.1.mv hal hh, h.2.2.2.2.2.1.there hal hh, h.2.2.2.2.2.2⟩) (fun r U U' V V' h1 hal h2 h => Got.mv r U U' V V' h1 hal h2 h) ?_
  intro p e s m args below meth c s₁ X0 hexec hbytes hml hret hlk hnm hown hh0 W hP
  obtain ⟨rfl, hB, f1, f2, hA, s1, hz, l0, l2, hp⟩ := hP
  have c1 : Steps p.tables e below (s₁.setTop (entryFrame m #[.ref a, .ref b] 2)) (s₁.setTop (mkF m 0 #[.val (.ref a), .val (.ref b)] [])) := entry rfl
  have c2 : Steps p.tables e below (s₁.setTop (entryFrame m #[.ref a, .ref b] 2)) (s₁.setTop (mkF m 6 #[.val (.ref a), .val (.ref b)] [.null, .int (Int32.ofNat A.slots.size), .int 0, .ref b, .ref a])) := c1.trans (by
    refine XS.aloadN X0.here hexec rfl (hb hbytes d0) rfl rfl ?_
    refine XS.aloadN X0.here hexec rfl (hb hbytes d1) rfl rfl ?_
    refine iconstV X0.here hexec rfl 0 (hb hbytes d2) (by decide) ?_
    refine XS.aloadN X0.here hexec rfl (hb hbytes d3) rfl rfl ?_
    refine X0.alen hexec (hA.1.mv X0.warmed.alike hh0) rfl rfl (hb hbytes d4) ?_
    refine XS.aconstNull X0.here hexec rfl (hb hbytes d5) ?_
    exact Steps.refl _)
  obtain ⟨v3, T3, X3, E3, g3⟩ := X0.callN hexec (New4.law l a D fV fC b A z 0 A.slots.size) rfl hown (wks W (initW "java/lang/String" 27 New4.yN)) (W New4.tab (by simp only [site, List.mem_cons, List.mem_append, true_or, or_true])) (W := 0) (Nat.le_of_ble_eq_true rfl) (Nat.le_of_ble_eq_true rfl) (Nat.le_refl _) (by show 0 + A.slots.size ≤ A.slots.size; omega) (g := (mkF m 6 #[.val (.ref a), .val (.ref b)] [.null, .int (Int32.ofNat A.slots.size), .int (Int32.ofNat 0), .ref b, .ref a])) rfl (by rw [hml]; rfl) c2 (argsL := [.ref b, .int (Int32.ofNat 0), .int (Int32.ofNat A.slots.size), .null]) (rest := []) rfl rfl (by show 2 * 0 + 0 ≤ _; decide) (hb hbytes d6) (⟨rfl, hB.mv X0.warmed.alike hh0, f1.al X0.warmed.alike, f2.al X0.warmed.alike, hA.mv X0.warmed.alike hh0, s1.there X0.warmed.alike hh0, hz, l0, by omega, l2, fun i hi => by rw [Nat.zero_add]; exact hp i hi⟩)
  have e0 := Got.mv _ s₁ s _ _ hh0.symm (Vm.Alike.refl _) rfl E3
  obtain rfl := e0.1
  have c4 : Steps p.tables e below (s₁.setTop (entryFrame m #[.ref a, .ref b] 2)) (T3.setTop (mkF m 9 #[.val (.ref a), .val (.ref b)] [])) := g3
  exact ⟨T3, none, _, _, _, X3, by simp, rfl, by omega, (fun _ => rfl), e0, fun fs hl => c4.trans (X3.returnOut hexec hret (hb hbytes d9) hl)⟩
theorem pays {l : Launch} {R : Room} {p : Program} {e : Env} {below : List Frame} {s : State} {sargs : Array Value} {len W : Nat} (a : Addr) (D : Cell) (fV fC : Field) (b : Addr) (A : Cell) (z : Int32) (htab : tab.before sargs s = true) (hfr : 4 ≤ R.frames) (hlo : W + 65 ≤ R.locals) :
    Back l R p e below s sargs yN len W (fun A₁ a₁ => A₁.cells + 1 ≤ R.cells ∧ A₁.slots + A.slots.size ≤ R.slots ∧ P a D fV fC b A z a₁ A₁.U) (fun A₁ _ v₁ B₁ => E a D fV fC A v₁ A₁.U B₁.U ∧ B₁.locs = A₁.locs ++ [⟨a, fC.slot⟩, ⟨a, fV.slot⟩] ∧ B₁.cells = A₁.cells + 1 ∧ B₁.slots = A₁.slots + A.slots.size) :=
  (law l a D fV fC b A z).pays htab hfr (by omega)
end New1
/-- the byte, read back as charAt reads it, is the char -/
theorem lo8_mask {x : Int32} (h0 : ¬ x < 0) (h1 : ¬ 255 < x) : lo8 x &&& 255 = x := by
  have t : ∀ k : Fin 256, lo8 (Int32.ofNat k.val) &&& 255 = Int32.ofNat k.val := by decide +kernel
  rw [Int32.lt_iff_toInt_lt] at h0 h1
  have e0 : (0 : Int32).toInt = 0 := rfl
  have e1 : (255 : Int32).toInt = 255 := rfl
  obtain ⟨k, hk⟩ : ∃ k : Nat, x.toInt = k := ⟨x.toInt.toNat, by omega⟩
  have hx : x = Int32.ofNat k := Int32.toInt_inj.mp (by rw [hk, Int32.toInt_ofNat_small (by omega)])
  rw [hx]
  exact t ⟨k, by omega⟩
end StrChars
namespace StrChars.Road
open Jvm Sem ClassFile Op Lib Jvm.Stand Jvm.Free Jvm.Free.XT
open Jvm.Lib.Cold (StaticIs)
abbrev ST : String := "java/lang/String"
/-- every table word that New1's law asks, flat -/
abbrev words : List Jvm.Cond := [.code New1.yN New1.yB 2 none, .initialized ST, .methodLink ST 27 New4.yN, .instanceMethod New4.yN,
  .code New4.yN New4.yB 6 none, .fieldLink ST 38 ST "COMPACT_STRINGS" "Z", .laysFinal ST ST "value" "[B", .fieldLink ST 9 ST "value" "[B", .laysFinal ST ST "coder" "B", .fieldLink ST 15 ST "coder" "B",
  .methodLink ST 1 Lib.objectInit, .instanceMethod Lib.objectInit, .code Lib.objectInit ⟨#[0xb1]⟩ 1 none, .methodLink ST 177 Cmp3.yN, .static Cmp3.yN, .methodLink ST 47 CodL.yN, .static CodL.yN,
  .code Cmp3.yN Cmp3.yB 6 (some (.array .byte)), .initialized U16, .arrayClass .byte, .methodLink U16 115 Cmp5.yN, .static Cmp5.yN, .code Cmp5.yN Cmp5.yB 7 (some .int), .code CodL.yN CodL.yB 2 (some .byte)]
theorem tab_of {a : Array Value} {s : State} (h : ∀ w ∈ words, w.before a s = true) : New1.tab.before a s = true := by
  have h5 : Cmp5.tab.before a s = true := unparts (wk h (.code Cmp5.yN Cmp5.yB 7 (some .int))) (wks h (.initialized Cmp5.yN.cls :: Cmp5.site))
  have hc : CodL.tab.before a s = true := unparts (wk h (.code CodL.yN CodL.yB 2 (some .byte))) (wks h (.initialized CodL.yN.cls :: CodL.site))
  have q5 : ∀ w ∈ Cmp5.tab :: words, w.before a s = true := fun w hw => (List.mem_cons.mp hw).elim (fun e => e ▸ h5) (h w)
  have h3 : Cmp3.tab.before a s = true := unparts (wk q5 (.code Cmp3.yN Cmp3.yB 6 (some (.array .byte)))) (wks q5 (.initialized Cmp3.yN.cls :: Cmp3.site))
  have q3 : ∀ w ∈ Cmp3.tab :: CodL.tab :: words, w.before a s = true := fun w hw => (List.mem_cons.mp hw).elim (fun e => e ▸ h3) fun hw => (List.mem_cons.mp hw).elim (fun e => e ▸ hc) (h w)
  have h4 : New4.tab.before a s = true := unparts (wk q3 (.code New4.yN New4.yB 6 none)) (wks q3 (.initialized New4.yN.cls :: New4.site))
  have q4 : ∀ w ∈ New4.tab :: words, w.before a s = true := fun w hw => (List.mem_cons.mp hw).elim (fun e => e ▸ h4) (h w)
  exact unparts (wk q4 (.code New1.yN New1.yB 2 none)) (wks q4 (.initialized New1.yN.cls :: New1.site))
/-- the words ride from the start Z to the walk's own state -/
theorem moved {Z s : State} {a0 args : Array Value} (hZ : Z.Warmed39 s.vm) (hw : ∀ d ∈ words, d.before a0 Z = true) : ∀ d ∈ words, d.before args s = true := fun d hd => by
  have q := hw d hd
  have t : ∀ d ∈ words, d = .arrayClass .byte ∨ (d.onTables && d.keepsFace) = true := by decide +kernel
  rcases t d hd with rfl | t
  · exact RoadKit.mvA hZ q
  · exact RoadKit.mv hZ q t
/-- WHAT COMES BACK, over the tables of the start Z: h the heap at the call, h' behind it -/
def Q (Z : State) (x : Addr) (A : Cell) (h : Heap) (v : Option Value) (h' : Heap) (L : List Loc) : Prop := v = none ∧ (∀ y ∈ L, y.base = x) ∧ RoadKit.Keep h h' [x] ∧ h'.size = h.size + 1 ∧ RoadKit.Exa Z h' x ST ∧ RoadKit.Fld Z h' x ST "value" "[B" (.ref h.size) ∧ RoadKit.Fld Z h' x ST "coder" "B" (.int 0) ∧
  (∃ V : Cell, RoadKit.Arr Z h' h.size V .byte ∧ V.vm = .none ∧ Z.vm.findClass "[B" = some V.cls ∧ V.slots.size = A.slots.size ∧ ∀ j, j < A.slots.size → V.slots[j]? = some (.int (lo8 (cv A j)))) ∧
  ∀ (O n d : String) (w : Value), RoadKit.Fld Z h x O n d w → RoadKit.slotOf Z O n d ≠ RoadKit.slotOf Z ST "value" "[B" → RoadKit.slotOf Z O n d ≠ RoadKit.slotOf Z ST "coder" "B" → RoadKit.Fld Z h' x O n d w
/-- **new String(chars) AT A CALL, IN THE ROAD'S FORM**: for specialBack behind newO: x the fresh String, b the char[] with the cell A -/
theorem back {p : Program} {l : Launch} {e : Env} {R : Room} {s : State} {args : Array Value} {below : List Frame} {len W : Nat} {Z : State} {a0 : Array Value} {h : Heap} (hZ : Z.Warmed39 s.vm) (hw : ∀ d ∈ words, d.before a0 Z = true) {kI : Nat} (wi : (Jvm.Cond.instantiable ST kI).before a0 Z = true)
    {x b : Addr} {A : Cell} {z : Int32} {v0 c0 : Value} (E : RoadKit.Exa Z h x ST) (V : RoadKit.Fld Z h x ST "value" "[B" v0) (C : RoadKit.Fld Z h x ST "coder" "B" c0) (K : RoadKit.Arr Z h b A .char) (hty : Typed .char A) (S : RoadKit.Sta Z h ST "COMPACT_STRINGS" "Z" (.int z)) (hz : ¬ z = 0)
    (l0 : 0 < A.slots.size) (l2 : A.slots.size ≤ 536870912) (hp : ∀ i, i < A.slots.size → ¬ 255 < cv A i) (hfr : 4 ≤ R.frames) (hlo : W + 65 ≤ R.locals) :
    Back l R p e below s args New1.yN len W (fun P a => a = #[.ref x, .ref b] ∧ P.U.heap = h ∧ P.cells + 1 ≤ R.cells ∧ P.slots + A.slots.size ≤ R.slots)
      (fun P _ v B => ∃ L, Q Z x A h v B.U.heap L ∧ B.locs = P.locs ++ L ∧ B.cells = P.cells + 1 ∧ B.slots = P.slots + A.slots.size) := by
  intro m meth c P g ig mk a X hg hsize hdg hW hn hp'
  obtain ⟨rfl, rfl, r1, r2⟩ := hp'
  have al : Z.vm.Alike P.U.vm := hZ.alike.trans X.warmed.alike
  obtain ⟨D, cfV, kV, iV, fV, hD, gV, stV, knV, obV, asV, slV⟩ := id V
  obtain ⟨D', cfC, kC, iC, fC, hD', gC, stC, -, -, asC, slC⟩ := id C
  cases hD.symm.trans hD'
  obtain ⟨D2, kD, e1, e2, e3, e4, e5⟩ := id E
  cases hD.symm.trans e1
  obtain ⟨c2, k2, i1, i2, i3, -⟩ := Cond.instantiable_spec wi
  cases e2.symm.trans i1
  cases e3.symm.trans i2
  obtain ⟨kU, u1, u2⟩ := al.2.2 _ _ e3
  have hB : Blank ST x D P.U := ⟨hD, ⟨knV, fun q hq => by rw [hq] at obV; cases obV⟩, by rw [al.findClass]; exact e2, kU, u1, by rw [u2]; exact i3, by rw [u2]; exact e5 i3⟩
  have F1 : Found ST "value" "[B" fV P.U := ⟨SBG.found_only al ⟨cfV, kV, iV, gV⟩, stV⟩
  have F2 : Found ST "coder" "B" fC P.U := ⟨SBG.found_only al ⟨cfC, kC, iC, gC⟩, stC⟩
  have hA : Ch b A P.U := ⟨⟨K.1, State.isArrayOf_alike al K.2.1, K.2.2, by omega⟩, hty⟩
  have hS : StaticIs P.U ST "COMPACT_STRINGS" "Z" (.int z) := by
    obtain ⟨cfS, iS, kS, fS, st, cS, t1, t2, t3, t4, t5, t6, t7⟩ := S
    exact StaticIs.there (s := { Z with heap := P.U.heap }) ⟨cfS, iS, kS, fS, st, cS, t1, t2, t3, t4, t5, (fun q => by rw [q] at t6; cases t6), t7⟩ al rfl
  obtain ⟨v, B, X', ⟨⟨hv, E', V', q1, q2, q3, q4, q5, q6, q7, q8, q9, q10, q11⟩, hl, hc, hs⟩, st⟩ := New1.pays x D fV fC b A z (tab_of (moved hZ hw)) hfr hlo m meth c P g ig mk _ X hg hsize hdg hW hn ⟨r1, r2, rfl, hB, F1, F2, hA, hS, hz, l0, l2, hp⟩
  have al' : Z.vm.Alike B.U.vm := hZ.alike.trans X'.warmed.alike
  have hsz : E'.slots.size = D.slots.size := by
    obtain ⟨-, -, -, kB, w1, w2, w3⟩ := q1
    obtain ⟨kB', y1, y2⟩ := al'.2.2 _ _ e3
    rw [q2.2.1] at w1
    cases w1.symm.trans y1
    rw [w3, e5 i3, y2]
  refine ⟨v, B, X', ⟨_, ⟨hv, ?_, ⟨by omega, fun y cy hy hn' => q10 y cy (by simpa using hn') hy, fun y cy hy => ?_⟩, q11, ⟨E', _, q1.1, by rw [q2.2.1]; exact e2, by rw [q2.2.1]; exact e3, by rw [q2.1]; exact obV, fun _ => by rw [hsz]; exact e5 i3⟩,
    ⟨E', cfV, kV, iV, fV, q1.1, gV, stV, by rw [q2.1]; exact knV, by rw [q2.1]; exact obV, by rw [q2.2.1]; exact asV, q3⟩, ⟨E', cfC, kC, iC, fC, q1.1, gC, stC, by rw [q2.1]; exact knV, by rw [q2.1]; exact obV, by rw [q2.2.1]; exact asC, q4⟩,
    ⟨V', ⟨q5.1, State.isArrayOf_alike al'.symm q5.2.1, q5.2.2.1⟩, q6, by rw [← al'.findClass]; exact q7, q8, fun j hj => by have := q9 j hj; rwa [Nat.zero_add] at this⟩, fun O n d w F n1 n2 => ?_⟩, hl, hc, hs⟩, st⟩
  · intro y hy
    simp only [List.mem_cons, List.not_mem_nil, or_false] at hy
    rcases hy with rfl | rfl <;> rfl
  · by_cases q : y = x
    · subst q
      cases hD.symm.trans hy
      exact ⟨E', q1.1, q2.2.1, q2.1, hsz⟩
    · exact ⟨cy, q10 y cy q hy, rfl, rfl, rfl⟩
  · obtain ⟨D3, cf, k, i, f, g1, g2, g3, g4, g5, g6, g7⟩ := F
    cases hD.symm.trans g1
    simp only [RoadKit.slotOf, g2, gV, gC, Option.map_some, Option.getD_some] at n1 n2
    exact ⟨E', cf, k, i, f, q1.1, g2, g3, by rw [q2.1]; exact g4, by rw [q2.1]; exact g5, by rw [q2.2.1]; exact g6, by rw [q2.2.2 f.slot (by simp [n1, n2])]; exact g7⟩
end StrChars.Road
namespace StrChars.Road
open Jvm Sem ClassFile Op Lib Jvm.Stand Jvm.Free Jvm.Free.XT
/-- WHAT COMES BACK, the byte[] as a list of values -/
def QA (Z : State) (x : Addr) (zn : Int32) (cs : List Int32) (h : Heap) (v : Option Value) (h' : Heap) (L : List Loc) : Prop := v = none ∧ (∀ y ∈ L, y.base = x) ∧ RoadKit.Keep h h' [x] ∧ h'.size = h.size + 1 ∧ RoadKit.Exa Z h' x ST ∧ RoadKit.Fld Z h' x ST "value" "[B" (.ref h.size) ∧ RoadKit.Fld Z h' x ST "coder" "B" (.int 0) ∧
  (∃ kb, Z.vm.findClass "[B" = some kb ∧ RoadKit.Arv Z h' h.size kb .byte zn (cs.map fun c => .int (lo8 c)) (.int 0)) ∧
  ∀ (O n d : String) (w : Value), RoadKit.Fld Z h x O n d w → RoadKit.slotOf Z O n d ≠ RoadKit.slotOf Z ST "value" "[B" → RoadKit.slotOf Z O n d ≠ RoadKit.slotOf Z ST "coder" "B" → RoadKit.Fld Z h' x O n d w
/-- **new String(chars) AT A CALL, THE ARRAYS AS LISTS**: the char[] at b holds cs, not empty, no char above 255 -/
theorem backArv {p : Program} {l : Launch} {e : Env} {R : Room} {s : State} {args : Array Value} {below : List Frame} {len W : Nat} {Z : State} {a0 : Array Value} {h : Heap} (hZ : Z.Warmed39 s.vm) (hw : ∀ d ∈ words, d.before a0 Z = true) {kI : Nat} (wi : (Jvm.Cond.instantiable ST kI).before a0 Z = true)
    {x b : Addr} {k : ClassId} {zn z : Int32} {cs : List Int32} {dv v0 c0 : Value} (E : RoadKit.Exa Z h x ST) (V : RoadKit.Fld Z h x ST "value" "[B" v0) (C : RoadKit.Fld Z h x ST "coder" "B" c0) (K : RoadKit.Arv Z h b k .char zn (cs.map Value.int) dv) (S : RoadKit.Sta Z h ST "COMPACT_STRINGS" "Z" (.int z)) (hz : ¬ z = 0)
    (hlen : zn.toNatClampNeg = cs.length) (h0 : 0 < cs.length) (hbig : cs.length ≤ 536870912) (hall : ∀ c ∈ cs, ¬ 255 < c) (hfr : 4 ≤ R.frames) (hlo : W + 65 ≤ R.locals) :
    Back l R p e below s args New1.yN len W (fun P a => a = #[.ref x, .ref b] ∧ P.U.heap = h ∧ P.cells + 1 ≤ R.cells ∧ P.slots + cs.length ≤ R.slots)
      (fun P _ v B => ∃ L, QA Z x zn cs h v B.U.heap L ∧ B.locs = P.locs ++ L ∧ B.cells = P.cells + 1 ∧ B.slots = P.slots + cs.length) := by
  obtain ⟨A, K1, K2, K3, K4, K5, K6⟩ := K
  have e : A.slots.size = cs.length := K3.trans hlen
  have hat : ∀ (i : Nat) (hi : i < cs.length), A.slots[i]? = some (.int cs[i]) := fun i hi => by rw [K5 i (by omega)]; simp [List.getD_eq_getElem?_getD, hi]
  have hcv : ∀ (i : Nat) (hi : i < cs.length), cv A i = cs[i] := fun i hi => by unfold cv; rw [hat i hi]
  have hty : Typed .char A := fun i v hv => by
    have hi : i < A.slots.size := (Array.getElem?_eq_some_iff.mp hv).1
    have q := K5 i hi
    rw [hv] at q
    rw [Option.some.inj q]
    exact K6 i hi
  refine Back.mono (back hZ hw wi E V C K1 hty S hz (by omega) (by omega) (fun i hi => by rw [hcv i (by omega)]; exact hall _ (List.getElem_mem _)) hfr hlo) (fun P a hp => ⟨hp.1, hp.2.1, hp.2.2.1, by rw [e]; exact hp.2.2.2⟩) (fun P a v B hp hq => ?_)
  obtain ⟨L, ⟨q1, q2, q3, q4, q5, q6, q7, ⟨V', v1, v2, v3, v4, v5⟩, q9⟩, hl, hc, hs⟩ := hq
  refine ⟨L, ⟨q1, q2, q3, q4, q5, q6, q7, ⟨V'.cls, v3, V', v1, rfl, by rw [v4, e, hlen], K4, fun i hi => ?_, fun i hi => ?_⟩, q9⟩, hl, hc, by rw [hs, e]⟩
  · have hi' : i < cs.length := by omega
    rw [v5 i (by omega), hcv i hi']; simp [List.getD_eq_getElem?_getD, hi']
  · have hi' : i < cs.length := by omega
    simp only [List.getD_eq_getElem?_getD, List.getElem?_map, List.getElem?_eq_getElem hi', Option.map_some, Option.getD_some]
    exact fits_lo8 _
end StrChars.Road
namespace StrChars.Road
open Jvm Sem ClassFile Op Lib Jvm.Stand Jvm.Free Jvm.Free.XT
/-- WHAT COMES BACK, in the writer's own shape -/
def QV (Z : State) (x : Addr) (N : Int32) (bs : List Int32) (h : Heap) (n0 : Nat) (v : Option Value) (h' : Heap) (L : List Loc) : Prop := v = none ∧ RoadKit.Fr n0 L ∧ RoadKit.Keep h h' [x] ∧ RoadKit.Exa Z h' x ST ∧ RoadKit.Fld Z h' x ST "coder" "B" (.int 0) ∧
  ∃ (t : Addr) (kb : ClassId), n0 ≤ t ∧ h.size ≤ t ∧ ¬ t = x ∧ RoadKit.Fld Z h' x ST "value" "[B" (.ref t) ∧ RoadKit.Arv Z h' t kb .byte N (bs.map Value.int) (.int 0)
/-- **new String(chars) AT A CALL, FOR THE WRITER**: a char[] of n known ints, each 0 to 255 -/
theorem backV {p : Program} {l : Launch} {e : Env} {R : Room} {s : State} {args : Array Value} {below : List Frame} {len W : Nat} {Z : State} {a0 : Array Value} {h : Heap} (hZ : Z.Warmed39 s.vm) (hw : ∀ d ∈ words, d.before a0 Z = true) {kI : Nat} (wi : (Jvm.Cond.instantiable ST kI).before a0 Z = true)
    {x b : Addr} {kC : ClassId} {cs bs : List Int32} {d v0 c0 : Value} {z N : Int32} {n n0 : Nat} (hx0 : n0 ≤ x) (hh0 : n0 ≤ h.size) (E : RoadKit.Exa Z h x ST) (V : RoadKit.Fld Z h x ST "value" "[B" v0) (C : RoadKit.Fld Z h x ST "coder" "B" c0) (K : RoadKit.Arv Z h b kC .char N (cs.map Value.int) d) (S : RoadKit.Sta Z h ST "COMPACT_STRINGS" "Z" (.int z)) (hz : ¬ z = 0)
    (hn : cs.length = n) (hN : N = Int32.ofNat n) (l0 : 0 < n) (l2 : n ≤ 4000) (hp : ∀ c ∈ cs, ¬ c < 0 ∧ ¬ (255 : Int32) < c) (hb : bs = cs.map (fun c => c.toInt8.toInt32)) (hfr : 4 ≤ R.frames) (hlo : W + 65 ≤ R.locals) :
    Back l R p e below s args (⟨"java/lang/String", "<init>", "([C)V"⟩ : MethodName) len W (fun P a => a = #[.ref x, .ref b] ∧ P.U.heap = h ∧ P.cells + 1 ≤ R.cells ∧ P.slots + n ≤ R.slots)
      (fun P _ v B => ∃ L, QV Z x N bs h n0 v B.U.heap L ∧ B.locs = P.locs ++ L ∧ B.cells = P.cells + 1 ∧ B.slots = P.slots + n) := by
  subst hn hN hb
  refine Back.mono (backArv hZ hw wi E V C K S hz (n32 (by omega)) l0 (by omega) (fun c hc => (hp c hc).2) hfr hlo) (fun P a hp => hp) (fun P a v B hp hq => ?_)
  obtain ⟨L, ⟨q1, q2, q3, q4, q5, q6, q7, ⟨kb, v1, v2⟩, q9⟩, hl, hc, hs⟩ := hq
  exact ⟨L, ⟨q1, fun y hy => by rw [q2 y hy]; exact hx0, q3, q5, q7, h.size, kb, hh0, Nat.le_refl _, Nat.ne_of_gt E.lt, q6, by rw [List.map_map]; exact v2⟩, hl, hc, hs⟩
end StrChars.Road
namespace StrChars
open Jvm Sem ClassFile Op Lib Jvm.Stand Jvm.Free.XT Jvm.Free.ALB Jvm.Free.JM Jvm.Free
open Jvm.Lib.Cold (StaticIs)
def hi8 (x : Int32) : Int32 := lo8 (x >>> ((8 : Int32) &&& 31))
/-- what StringUTF16.getChar makes of two bytes -/
def pairCh (u v : Int32) : Int32 := (((u &&& 255) <<< ((0 : Int32) &&& 31)) ||| ((v &&& 255) <<< ((8 : Int32) &&& 31))).toUInt32.toUInt16.toUInt32.toInt32
theorem lo8_and (x : Int32) : (lo8 x &&& 255).toBitVec.toNat = x.toBitVec.toNat % 256 := by
  have h : (lo8 x).toBitVec = (x.toBitVec.signExtend 8).signExtend 32 := by rw [lo8, Int8.toBitVec_toInt32, Int32.toBitVec_toInt8]
  rw [Int32.toBitVec_and, BitVec.toNat_and, h]
  have e : ((x.toBitVec.signExtend 8).signExtend 32).toNat % 256 = x.toBitVec.toNat % 256 := by
    rw [BitVec.toNat_signExtend]
    have hlt := x.toBitVec.isLt
    simp only [BitVec.toNat_setWidth, BitVec.toNat_signExtend]
    split <;> split <;> omega
  rw [← e]
  exact Nat.and_two_pow_sub_one_eq_mod _ 8
theorem pair_says {c : Int32} (h0 : ¬ c < 0) (h1 : ¬ 65535 < c) : pairCh (lo8 c) (hi8 c) = c := by
  rw [Int32.lt_iff_toInt_lt] at h0 h1
  have e0 : (0 : Int32).toInt = 0 := rfl
  have e1 : (65535 : Int32).toInt = 65535 := rfl
  have hc : c.toInt = c.toBitVec.toNat := by
    have := c.toBitVec.isLt
    have e : c.toInt = c.toBitVec.toInt := rfl
    rw [e] at h0 h1
    rw [e]
    rw [BitVec.toInt_eq_toNat_cond] at h0 h1 ⊢
    split at h0 <;> split <;> omega
  have hn : c.toBitVec.toNat < 65536 := by omega
  have a1 := lo8_and c
  have a2 : (hi8 c &&& 255).toBitVec.toNat = c.toBitVec.toNat / 256 := by
    rw [hi8, lo8_and]
    have e : ((8 : Int32) &&& 31) = 8 := by decide
    rw [e, Int32.toBitVec_shiftRight]
    have e2 : ((8 : Int32).toBitVec.smod 32) = 8#32 := by decide
    rw [e2, BitVec.sshiftRight_eq', BitVec.toNat_sshiftRight_of_msb_false (by rw [BitVec.msb_eq_false_iff_two_mul_lt]; omega)]
    show c.toBitVec.toNat >>> 8 % 256 = _
    rw [Nat.shiftRight_eq_div_pow]
    omega
  unfold pairCh
  apply Int32.toBitVec_inj.mp
  apply BitVec.eq_of_toNat_eq
  have f0 : ((0 : Int32) &&& 31) = 0 := by decide
  have f8 : ((8 : Int32) &&& 31) = 8 := by decide
  rw [f0, f8]
  have g : (((lo8 c &&& 255) <<< (0 : Int32)) ||| ((hi8 c &&& 255) <<< (8 : Int32))).toBitVec.toNat = c.toBitVec.toNat := by
    rw [Int32.toBitVec_or, Int32.toBitVec_shiftLeft, Int32.toBitVec_shiftLeft]
    have s0 : ((0 : Int32).toBitVec.smod 32) = 0#32 := by decide
    have s8 : ((8 : Int32).toBitVec.smod 32) = 8#32 := by decide
    rw [s0, s8, BitVec.toNat_or]
    simp only [BitVec.shiftLeft_eq', BitVec.toNat_shiftLeft, a1, a2]
    show (c.toBitVec.toNat % 256) <<< 0 % 2 ^ 32 ||| (c.toBitVec.toNat / 256) <<< 8 % 2 ^ 32 = _
    rw [Nat.shiftLeft_zero, Nat.mod_eq_of_lt (show c.toBitVec.toNat % 256 < 2 ^ 32 by omega), Nat.mod_eq_of_lt (show (c.toBitVec.toNat / 256) <<< 8 < 2 ^ 32 by rw [Nat.shiftLeft_eq]; omega), Nat.or_comm, ← Nat.shiftLeft_add_eq_or_of_lt (by omega), Nat.shiftLeft_eq]
    omega
  show BitVec.toNat (((((lo8 c &&& 255) <<< (0 : Int32)) ||| ((hi8 c &&& 255) <<< (8 : Int32))).toBitVec.setWidth 16).setWidth 32) = _
  rw [BitVec.toNat_setWidth, BitVec.toNat_setWidth, g]
  omega
end StrChars
namespace StrChars
open Jvm Sem ClassFile Op Lib Jvm.Stand Jvm.Free.XT Jvm.Free.ALB Jvm.Free.JM Jvm.Free
open Jvm.Lib.Cold (StaticIs)
/-- the array's cell V codes the n chars f 0 .. f (n - 1) by the coder cd, as the JDK does: coder 1 just where some char is above 255 -/
def Cod (cd : Int32) (n : Nat) (f : Nat → Int32) (V : Cell) : Prop := (cd = 0 ∧ V.slots.size = n ∧ ∀ j, j < n → V.slots[j]? = some (.int (lo8 (f j))) ∧ ¬ 255 < f j) ∨ (cd = 1 ∧ V.slots.size = 2 * n ∧ (∀ j, j < n → V.slots[2 * j]? = some (.int (lo8 (f j))) ∧ V.slots[2 * j + 1]? = some (.int (hi8 (f j)))) ∧ ∃ j, j < n ∧ 255 < f j)
/-- **x is a String of the n chars f 0 .. f (n - 1)**, Latin-1 or UTF-16; its array at t has the cell V -/
def Txt (x t : Addr) (V : Cell) (cd : Int32) (n : Nat) (f : Nat → Int32) (U : State) : Prop := Exact "java/lang/String" x U ∧ Has x "java/lang/String" "value" "[B" (.ref t) U ∧ Has x "java/lang/String" "coder" "B" (.int cd) U ∧ XT.Arr .byte t V U ∧ Cod cd n f V ∧ ∀ j, j < n → ¬ f j < 0 ∧ ¬ 65535 < f j
theorem Txt.mv {x t : Addr} {V : Cell} {cd : Int32} {n : Nat} {f : Nat → Int32} {U U' : State} (h : Txt x t V cd n f U) (hal : U.vm.Alike U'.vm) (hh : U'.heap = U.heap) : Txt x t V cd n f U' := ⟨h.1.mv hal hh, h.2.1.mv hal hh, h.2.2.1.mv hal hh, h.2.2.2.1.mv hal hh, h.2.2.2.2⟩
end StrChars
namespace StrChars.Road
open Jvm Sem ClassFile Op Lib Jvm.Stand Jvm.Free Jvm.Free.XT
open Jvm.Lib.Cold (StaticIs)
theorem consq {a : Array Value} {s : State} {c : Jvm.Cond} {L : List Jvm.Cond} (h0 : c.before a s = true) (h : ∀ w ∈ L, w.before a s = true) : ∀ w ∈ c :: L, w.before a s = true := fun w hw => (List.mem_cons.mp hw).elim (fun e => e ▸ h0) (h w)
/-- the bytes of the chars cs, low before high -/
def wideBytes : List Int32 → List Value
  | [] => []
  | c :: cs => .int (lo8 c) :: .int (hi8 c) :: wideBytes cs
theorem wide_lo (d : Value) : ∀ (cs : List Int32) (j : Nat), j < cs.length → (wideBytes cs).getD (2 * j) d = .int (lo8 (cs.getD j 0))
  | [], j, h => absurd h (Nat.not_lt_zero j)
  | c :: cs, 0, _ => rfl
  | c :: cs, j + 1, h => by
    have q := wide_lo d cs j (by simpa using h)
    rw [show 2 * (j + 1) = 2 * j + 1 + 1 from by omega]
    simpa [wideBytes] using q
theorem wide_hi (d : Value) : ∀ (cs : List Int32) (j : Nat), j < cs.length → (wideBytes cs).getD (2 * j + 1) d = .int (hi8 (cs.getD j 0))
  | [], j, h => absurd h (Nat.not_lt_zero j)
  | c :: cs, 0, _ => rfl
  | c :: cs, j + 1, h => by
    have q := wide_hi d cs j (by simpa using h)
    rw [show 2 * (j + 1) + 1 = 2 * j + 1 + 1 + 1 from by omega]
    simpa [wideBytes] using q
theorem low_at (d : Value) (cs : List Int32) (j : Nat) (h : j < cs.length) : (cs.map fun c => Value.int (lo8 c)).getD j d = .int (lo8 (cs.getD j 0)) := by
  simp [List.getD_eq_getElem?_getD, h]
/-- an array of N2 bytes vs codes the chars cs by the coder cd -/
def CodA (cs : List Int32) (cd N2 : Int32) (vs : List Value) : Prop := (cd = 0 ∧ N2 = Int32.ofNat cs.length ∧ vs = (cs.map fun c => Value.int (lo8 c)) ∧ ∀ c ∈ cs, ¬ 255 < c) ∨ (cd = 1 ∧ N2 = Int32.ofNat (2 * cs.length) ∧ vs = wideBytes cs ∧ ∃ c ∈ cs, 255 < c)
theorem CodA.cod {cs : List Int32} {cd N2 : Int32} {vs : List Value} {V : Cell} (h : CodA cs cd N2 vs) (hn : 2 * cs.length < 2 ^ 31) (hs : V.slots.size = N2.toNatClampNeg) (hv : RoadKit.Has V vs (.int 0)) : Cod cd cs.length (fun j => cs.getD j 0) V := by
  rcases h with ⟨rfl, rfl, rfl, h⟩ | ⟨rfl, rfl, rfl, c, hc, hw⟩
  · rw [n32 (by omega)] at hs
    exact Or.inl ⟨rfl, hs, fun j hj => ⟨by rw [hv j (by omega), low_at _ _ _ hj], by
      have e : cs.getD j 0 = cs[j] := by simp [List.getD_eq_getElem?_getD, hj]
      show ¬ 255 < cs.getD j 0
      rw [e]; exact h _ (List.getElem_mem _)⟩⟩
  · rw [n32 (by omega)] at hs
    obtain ⟨j, hj, rfl⟩ := List.getElem_of_mem hc
    exact Or.inr ⟨rfl, hs, fun j hj => ⟨by rw [hv _ (by omega), wide_lo _ _ _ hj], by rw [hv _ (by omega), wide_hi _ _ _ hj]⟩, j, hj, by
      have e : cs.getD j 0 = cs[j] := by simp [List.getD_eq_getElem?_getD, hj]
      show 255 < cs.getD j 0
      rw [e]; exact hw⟩
/-- an object of exactly java/lang/String, its two fields found: as the laws ask it -/
theorem strObj {Z U : State} {a0 : Array Value} {kI : Nat} (wi : (Jvm.Cond.instantiable ST kI).before a0 Z = true) (al : Z.vm.Alike U.vm) {x : Addr} {v0 c0 : Value} (E : RoadKit.Exa Z U.heap x ST) (V : RoadKit.Fld Z U.heap x ST "value" "[B" v0) (C : RoadKit.Fld Z U.heap x ST "coder" "B" c0) :
    ∃ (D : Cell) (fV fC : Field), Blank ST x D U ∧ Found ST "value" "[B" fV U ∧ Found ST "coder" "B" fC U ∧ D.slots[fV.slot]? = some v0 ∧ D.slots[fC.slot]? = some c0 ∧ RoadKit.slotOf Z ST "value" "[B" = fV.slot ∧ RoadKit.slotOf Z ST "coder" "B" = fC.slot := by
  obtain ⟨D, cfV, kV, iV, fV, hD, gV, stV, knV, obV, asV, slV⟩ := V
  obtain ⟨D', cfC, kC, iC, fC, hD', gC, stC, -, -, asC, slC⟩ := C
  cases hD.symm.trans hD'
  obtain ⟨D2, kD, e1, e2, e3, e4, e5⟩ := E
  cases hD.symm.trans e1
  obtain ⟨c2, k2, i1, i2, i3, -⟩ := Cond.instantiable_spec wi
  cases e2.symm.trans i1
  cases e3.symm.trans i2
  obtain ⟨kU, u1, u2⟩ := al.2.2 _ _ e3
  exact ⟨D, fV, fC, ⟨hD, ⟨knV, fun q hq => by rw [hq] at obV; cases obV⟩, by rw [al.findClass]; exact e2, kU, u1, by rw [u2]; exact i3, by rw [u2]; exact e5 i3⟩, ⟨SBG.found_only al ⟨cfV, kV, iV, gV⟩, stV⟩, ⟨SBG.found_only al ⟨cfC, kC, iC, gC⟩, stC⟩, slV, slC, by simp [RoadKit.slotOf, gV], by simp [RoadKit.slotOf, gC]⟩
theorem sta_is {Z U : State} (al : Z.vm.Alike U.vm) {C n d : String} {v : Value} (S : RoadKit.Sta Z U.heap C n d v) : StaticIs U C n d v := by
  obtain ⟨cfS, iS, kS, fS, st, cS, t1, t2, t3, t4, t5, t6, t7⟩ := S
  exact StaticIs.there (s := { Z with heap := U.heap }) ⟨cfS, iS, kS, fS, st, cS, t1, t2, t3, t4, t5, (fun q => by rw [q] at t6; cases t6), t7⟩ al rfl
end StrChars.Road
namespace StrChars
open Jvm Sem ClassFile Op Lib Jvm.Stand Jvm.Free.XT Jvm.Free.ALB Jvm.Free.JM Jvm.Free
open Jvm.Lib.Cold (StaticIs)
/-- what place i of a byte[]'s cell holds -/
def yv (A : Cell) (i : Nat) : Int32 := match A.slots[i]? with | some (.int x) => x | _ => 0
theorem yv_get {a : Addr} {A : Cell} {U : State} (h : XT.Arr .byte a A U) (ht : Typed .byte A) {i : Nat} (hi : i < A.slots.size) : A.slots[i]? = some (.int (yv A i)) := by
  have e := Array.getElem?_eq_getElem hi
  have f := ht i _ e
  unfold yv; rw [e]
  generalize A.slots[i] = v at f
  cases v <;> simp [fits] at f ⊢
/-- the two arrays are equal, place for place -/
def EqC (A B : Cell) : Prop := A.slots.size = B.slots.size ∧ ∀ i, i < A.slots.size → yv A i = yv B i
/-- a boolean that says whether p -/
def Says01 (q : Prop) (r : Option Value) (s u : State) : Prop := ∃ v : Int32, r = some (.int v) ∧ u.heap = s.heap ∧ ((v = 1 ∧ q) ∨ (v = 0 ∧ ¬ q))
theorem Says01.mv {q : Prop} : ∀ r (U U' V V' : State), U'.heap = U.heap → V.vm.Alike V'.vm → V'.heap = V.heap → Says01 q r U V → Says01 q r U' V' :=
  fun r U U' V V' h1 _ h2 ⟨v, a, b, c⟩ => ⟨v, a, by rw [h1, h2]; exact b, c⟩
namespace LEq
def yN : MethodName := ⟨"java/lang/StringLatin1", "equals", "([B[B)Z"⟩
abbrev yB : ByteArray := jdk_43_method_13_code
theorem d0 : decode yB 0 = .ok (.aload_n 0, 1) := by decide +kernel
theorem d1 : decode yB 1 = .ok (.arraylength, 1) := by decide +kernel
theorem d2 : decode yB 2 = .ok (.aload_n 1, 1) := by decide +kernel
theorem d3 : decode yB 3 = .ok (.arraylength, 1) := by decide +kernel
theorem d4 : decode yB 4 = .ok (.if_icmp (.ne) 30, 3) := by decide +kernel
theorem d7 : decode yB 7 = .ok (.iconst 0, 1) := by decide +kernel
theorem d8 : decode yB 8 = .ok (.istore_n 2, 1) := by decide +kernel
theorem d9 : decode yB 9 = .ok (.iload_n 2, 1) := by decide +kernel
theorem d10 : decode yB 10 = .ok (.aload_n 0, 1) := by decide +kernel
theorem d11 : decode yB 11 = .ok (.arraylength, 1) := by decide +kernel
theorem d12 : decode yB 12 = .ok (.if_icmp (.ge) 20, 3) := by decide +kernel
theorem d15 : decode yB 15 = .ok (.aload_n 0, 1) := by decide +kernel
theorem d16 : decode yB 16 = .ok (.iload_n 2, 1) := by decide +kernel
theorem d17 : decode yB 17 = .ok (.baload, 1) := by decide +kernel
theorem d18 : decode yB 18 = .ok (.aload_n 1, 1) := by decide +kernel
theorem d19 : decode yB 19 = .ok (.iload_n 2, 1) := by decide +kernel
theorem d20 : decode yB 20 = .ok (.baload, 1) := by decide +kernel
theorem d21 : decode yB 21 = .ok (.if_icmp (.eq) 5, 3) := by decide +kernel
theorem d24 : decode yB 24 = .ok (.iconst 0, 1) := by decide +kernel
theorem d25 : decode yB 25 = .ok (.ireturn, 1) := by decide +kernel
theorem d26 : decode yB 26 = .ok (.iinc 2 1, 3) := by decide +kernel
theorem d29 : decode yB 29 = .ok (.goto (-20), 3) := by decide +kernel
theorem d32 : decode yB 32 = .ok (.iconst 1, 1) := by decide +kernel
theorem d33 : decode yB 33 = .ok (.ireturn, 1) := by decide +kernel
theorem d34 : decode yB 34 = .ok (.iconst 0, 1) := by decide +kernel
theorem d35 : decode yB 35 = .ok (.ireturn, 1) := by decide +kernel
def site : List Cond := []
def tab : Cond := tabOf yN yB 3 (some .boolean) site
def P (a : Addr) (A : Cell) (b : Addr) (B : Cell) (args : Array Value) (s : State) : Prop := args = #[.ref a, .ref b] ∧ XT.Arr .byte a A s ∧ Typed .byte A ∧ XT.Arr .byte b B s ∧ Typed .byte B
/-- whether two byte[] are equal, place for place -/
theorem law (l : Launch) (a : Addr) (A : Cell) (b : Addr) (B : Cell) : Law l yN 2 2 0 0 yB 3 (some .boolean) site (P a A b B) (Says01 (EqC A B)) [] 0 0 := by
  refine Law.of_walk (plainFor_of_name (by decide +kernel)) (by decide +kernel) (by decide +kernel) (by decide) (fun _ _ h => by rw [h.1]; rfl) (fun _ U U' hal hh h => ⟨h.1, h.2.1.mv hal hh, h.2.2.1, h.2.2.2.1.mv hal hh, h.2.2.2.2⟩) (fun r U U' V V' h1 hal h2 h => Says01.mv r U U' V V' h1 hal h2 h) ?_
  intro p e s m args below meth c s₁ X0 hexec hbytes hml hret hlk hnm hown hh0 W hP
  obtain ⟨rfl, hA, tA, hB, tB⟩ := hP
  have a31 := hA.2.2.2
  have b31 := hB.2.2.2
  have hA0 := hA.mv X0.warmed.alike hh0
  have hB0 := hB.mv X0.warmed.alike hh0
  have c1 : Steps p.tables e below (s₁.setTop (entryFrame m #[.ref a, .ref b] 3)) (s₁.setTop (mkF m 0 #[.val (.ref a), .val (.ref b), .unset] [])) := entry rfl
  have c2 : Steps p.tables e below (s₁.setTop (entryFrame m #[.ref a, .ref b] 3)) (s₁.setTop (mkF m 4 #[.val (.ref a), .val (.ref b), .unset] [.int (Int32.ofNat B.slots.size), .int (Int32.ofNat A.slots.size)])) := c1.trans (by
    refine XS.aloadN X0.here hexec rfl (hb hbytes d0) rfl rfl ?_
    refine X0.alen hexec hA0 rfl rfl (hb hbytes d1) ?_
    refine XS.aloadN X0.here hexec rfl (hb hbytes d2) rfl rfl ?_
    refine X0.alen hexec hB0 rfl rfl (hb hbytes d3) ?_
    exact Steps.refl _)
  by_cases hs : A.slots.size = B.slots.size
  · have c3 : Steps p.tables e below (s₁.setTop (entryFrame m #[.ref a, .ref b] 3)) (s₁.setTop (mkF m 9 #[.val (.ref a), .val (.ref b), .val (.int 0)] [])) := c2.trans (by
      refine XS.icmpNo X0.here hexec rfl (hb hbytes d4) rfl (ii_ne_f (by rw [hs])) ?_
      refine iconstV X0.here hexec rfl 0 (hb hbytes d7) (by decide) ?_
      refine XS.istoreN X0.here hexec rfl (hb hbytes d8) rfl rfl ?_
      exact Steps.refl _)
    have loop : ∀ (r i : Nat), i + r = A.slots.size → (∀ j, j < i → yv A j = yv B j) → Steps p.tables e below (s₁.setTop (entryFrame m #[.ref a, .ref b] 3)) (s₁.setTop (mkF m 9 #[.val (.ref a), .val (.ref b), .val (.int (Int32.ofNat i))] [])) → ∃ (pc : Nat) (Ls : Array Slot) (v : Int32), (pc = 25 ∨ pc = 33) ∧ ((v = 1 ∧ EqC A B) ∨ (v = 0 ∧ ¬ EqC A B)) ∧ Steps p.tables e below (s₁.setTop (entryFrame m #[.ref a, .ref b] 3)) (s₁.setTop (mkF m pc Ls [.int v])) := by
      intro r
      induction r with
      | zero =>
        intro i hi he cl
        exact ⟨33, _, 1, Or.inr rfl, Or.inl ⟨rfl, hs, fun j hj => he j (by omega)⟩, cl.trans (by
          refine XS.iloadN X0.here hexec rfl (hb hbytes d9) rfl ?_
          refine XS.aloadN X0.here hexec rfl (hb hbytes d10) rfl rfl ?_
          refine X0.alen hexec hA0 rfl rfl (hb hbytes d11) ?_
          refine XS.icmpYes X0.here hexec rfl (pc0 := 12) rfl (hb hbytes d12) rfl (ii_ge_t (nlt32 (by omega) (by omega))) (by decide) rfl ?_
          refine iconstV X0.here hexec rfl 1 (hb hbytes d32) (by decide) ?_
          exact Steps.refl _)⟩
      | succ r ih =>
        intro i hi he cl
        have c4 : Steps p.tables e below (s₁.setTop (entryFrame m #[.ref a, .ref b] 3)) (s₁.setTop (mkF m 21 #[.val (.ref a), .val (.ref b), .val (.int (Int32.ofNat i))] [.int (yv B i), .int (yv A i)])) := cl.trans (by
          refine XS.iloadN X0.here hexec rfl (hb hbytes d9) rfl ?_
          refine XS.aloadN X0.here hexec rfl (hb hbytes d10) rfl rfl ?_
          refine X0.alen hexec hA0 rfl rfl (hb hbytes d11) ?_
          refine XS.icmpNo X0.here hexec rfl (hb hbytes d12) rfl (ii_ge_f (lt32 (by omega) (by omega))) ?_
          refine XS.aloadN X0.here hexec rfl (hb hbytes d15) rfl rfl ?_
          refine XS.iloadN X0.here hexec rfl (hb hbytes d16) rfl ?_
          refine X0.aget hexec hA0 rfl (yv_get hA tA (i := i) (by omega)) rfl rfl (hb hbytes d17) ?_
          refine XS.aloadN X0.here hexec rfl (hb hbytes d18) rfl rfl ?_
          refine XS.iloadN X0.here hexec rfl (hb hbytes d19) rfl ?_
          refine X0.aget hexec hB0 rfl (yv_get hB tB (i := i) (by omega)) rfl rfl (hb hbytes d20) ?_
          exact Steps.refl _)
        by_cases hv : yv A i = yv B i
        · have c5 : Steps p.tables e below (s₁.setTop (entryFrame m #[.ref a, .ref b] 3)) (s₁.setTop (mkF m 9 #[.val (.ref a), .val (.ref b), .val (.int (Int32.ofNat i + 1))] [])) := c4.trans (by
            refine XS.icmpYes X0.here hexec rfl (pc0 := 21) rfl (hb hbytes d21) rfl (ii_eq_t hv) (by decide) rfl ?_
            refine iincV X0.here hexec rfl 1 (hb hbytes d26) (by decide) rfl rfl ?_
            refine XS.goto X0.here hexec rfl (pc0 := 29) rfl (hb hbytes d29) (by decide) rfl ?_
            exact Steps.refl _)
          rw [succ32] at c5
          exact ih (i + 1) (by omega) (fun j hj => by
            by_cases e : j = i
            · rw [e]; exact hv
            · exact he j (by omega)) c5
        · exact ⟨25, _, 0, Or.inl rfl, Or.inr ⟨rfl, fun q => hv (q.2 i (by omega))⟩, c4.trans (by
            refine XS.icmpNo X0.here hexec rfl (hb hbytes d21) rfl (ii_eq_f hv) ?_
            refine iconstV X0.here hexec rfl 0 (hb hbytes d24) (by decide) ?_
            exact Steps.refl _)⟩
    obtain ⟨pc, Ls, v, hpc, hv, cz⟩ := loop A.slots.size 0 (by omega) (fun j hj => absurd hj (Nat.not_lt_zero j)) c3
    have nv : narrow .boolean (.int v) = .int v := by rcases hv with ⟨rfl, -⟩ | ⟨rfl, -⟩ <;> rfl
    rcases hpc with rfl | rfl
    · exact ⟨s₁, some (.int v), _, _, _, X0, rfl, rfl, rfl, (fun h => by cases h), ⟨v, rfl, hh0, hv⟩, fun fs hl => cz.trans (X0.ireturnOut hexec hret nv (Or.inr (Or.inl rfl)) (hb hbytes d25) hl)⟩
    · exact ⟨s₁, some (.int v), _, _, _, X0, rfl, rfl, rfl, (fun h => by cases h), ⟨v, rfl, hh0, hv⟩, fun fs hl => cz.trans (X0.ireturnOut hexec hret nv (Or.inr (Or.inl rfl)) (hb hbytes d33) hl)⟩
  · have c3 : Steps p.tables e below (s₁.setTop (entryFrame m #[.ref a, .ref b] 3)) (s₁.setTop (mkF m 35 #[.val (.ref a), .val (.ref b), .unset] [.int 0])) := c2.trans (by
      refine XS.icmpYes X0.here hexec rfl (pc0 := 4) rfl (hb hbytes d4) rfl (ii_ne_t (ne32 a31 b31 hs)) (by decide) rfl ?_
      refine iconstV X0.here hexec rfl 0 (hb hbytes d34) (by decide) ?_
      exact Steps.refl _)
    exact ⟨s₁, some (.int 0), _, _, _, X0, rfl, rfl, rfl, (fun h => by cases h), ⟨0, rfl, hh0, Or.inr ⟨rfl, fun q => hs q.1⟩⟩, fun fs hl => c3.trans (X0.ireturnOut hexec hret rfl (Or.inr (Or.inl rfl)) (hb hbytes d35) hl)⟩
end LEq
theorem Cod.ty {cd : Int32} {n : Nat} {f : Nat → Int32} {V : Cell} (h : Cod cd n f V) : Typed .byte V := fun i v hv => by
  have hi : i < V.slots.size := (Array.getElem?_eq_some_iff.mp hv).1
  rcases h with ⟨-, k1, k2⟩ | ⟨-, k1, k2, -⟩
  · rw [(k2 i (by omega)).1] at hv; cases hv; exact fits_lo8 _
  · rcases Nat.mod_two_eq_zero_or_one i with e | e
    · obtain ⟨j, rfl⟩ : ∃ j, i = 2 * j := ⟨i / 2, by omega⟩
      rw [(k2 j (by omega)).1] at hv; cases hv; exact fits_lo8 _
    · obtain ⟨j, rfl⟩ : ∃ j, i = 2 * j + 1 := ⟨i / 2, by omega⟩
      rw [(k2 j (by omega)).2] at hv; cases hv; exact fits_lo8 _
/-- the same text -/
def SameT (n : Nat) (f : Nat → Int32) (k : Nat) (g : Nat → Int32) : Prop := n = k ∧ ∀ j, j < n → f j = g j
theorem lo8_inj {x y : Int32} (h0 : ¬ x < 0) (h1 : ¬ 255 < x) (k0 : ¬ y < 0) (k1 : ¬ 255 < y) (h : lo8 x = lo8 y) : x = y := by
  rw [← lo8_mask h0 h1, ← lo8_mask k0 k1, h]
/-- arrays coded by one coder are equal just where the texts are -/
theorem Cod.eqv {cd : Int32} {n k : Nat} {f g : Nat → Int32} {V V' : Cell} (h : Cod cd n f V) (h' : Cod cd k g V') (hf : ∀ j, j < n → ¬ f j < 0 ∧ ¬ 65535 < f j) (hg : ∀ j, j < k → ¬ g j < 0 ∧ ¬ 65535 < g j) : EqC V V' ↔ SameT n f k g := by
  have yvv : ∀ {W : Cell} {i : Nat} {x : Int32}, W.slots[i]? = some (.int x) → yv W i = x := fun q => by unfold yv; rw [q]
  rcases h with ⟨rfl, k1, k2⟩ | ⟨rfl, k1, k2, -⟩
  · rcases h' with ⟨-, m1, m2⟩ | ⟨e, -⟩
    · constructor
      · rintro ⟨e1, e2⟩
        refine ⟨by omega, fun j hj => ?_⟩
        have q := e2 j (by omega)
        rw [yvv (k2 j hj).1, yvv (m2 j (by omega)).1] at q
        exact lo8_inj (hf j hj).1 (k2 j hj).2 (hg j (by omega)).1 (m2 j (by omega)).2 q
      · rintro ⟨rfl, e2⟩
        refine ⟨by omega, fun j hj => ?_⟩
        rw [yvv (k2 j (by omega)).1, yvv (m2 j (by omega)).1, e2 j (by omega)]
    · exact absurd e (by decide)
  · rcases h' with ⟨e, -⟩ | ⟨-, m1, m2, -⟩
    · exact absurd e (by decide)
    · constructor
      · rintro ⟨e1, e2⟩
        refine ⟨by omega, fun j hj => ?_⟩
        have q1 := e2 (2 * j) (by omega)
        have q2 := e2 (2 * j + 1) (by omega)
        rw [yvv (k2 j hj).1, yvv (m2 j (by omega)).1] at q1
        rw [yvv (k2 j hj).2, yvv (m2 j (by omega)).2] at q2
        rw [← pair_says (hf j hj).1 (hf j hj).2, ← pair_says (hg j (by omega)).1 (hg j (by omega)).2, q1, q2]
      · rintro ⟨rfl, e2⟩
        refine ⟨by omega, fun i hi => ?_⟩
        rcases Nat.mod_two_eq_zero_or_one i with e | e
        · obtain ⟨j, rfl⟩ : ∃ j, i = 2 * j := ⟨i / 2, by omega⟩
          rw [yvv (k2 j (by omega)).1, yvv (m2 j (by omega)).1, e2 j (by omega)]
        · obtain ⟨j, rfl⟩ : ∃ j, i = 2 * j + 1 := ⟨i / 2, by omega⟩
          rw [yvv (k2 j (by omega)).2, yvv (m2 j (by omega)).2, e2 j (by omega)]
/-- two codings differ: so do the texts -/
theorem Cod.dif {cd cd' : Int32} {n k : Nat} {f g : Nat → Int32} {V V' : Cell} (h : Cod cd n f V) (h' : Cod cd' k g V') (hne : ¬ cd = cd') : ¬ SameT n f k g := by
  rintro ⟨rfl, e⟩
  rcases h with ⟨rfl, -, k2⟩ | ⟨rfl, -, -, j, hj, hw⟩
  · rcases h' with ⟨rfl, -⟩ | ⟨-, -, -, j, hj, hw⟩
    · exact hne rfl
    · exact (k2 j hj).2 (by rw [e j hj]; exact hw)
  · rcases h' with ⟨-, -, m2⟩ | ⟨rfl, -⟩
    · exact (m2 j hj).2 (by rw [← e j hj]; exact hw)
    · exact hne rfl
/-- an object of exactly C is an instance of C -/
theorem cinst {p : Program} {l : Launch} {e : Env} {R : Room} {s : State} {m : MethodId} {args : Array Value} {below : List Frame} {meth : Method} {c : Code} {T : State} {locs : List Loc} {cells slots : Nat} (X : Stand p l e R s m args below meth c T locs cells slots) (hexec : p.tables.exec = Jvm.exec) {own C : String} {index : Nat} (hown : s.vm.findClass own = some m.cls) (hlink : (Cond.classLink own index C).before args s = true) {a : Addr} (hE : Exact C a T)
    {g : JFrame} (hg : g.method = m) {rest : List Value} (hstack : g.stack = .ref a :: rest) (hdg : decode c.code g.pc = .ok (.instanceof index, 3)) :
    ∃ T', Stand p l e R s m args below meth c T' locs cells slots ∧ T'.heap = T.heap ∧ ∀ target, Steps p.tables e below (T'.setTop { g with pc := g.pc + 3, stack := .int 1 :: rest }) target → Steps p.tables e below (T.setTop g) target := by
  obtain ⟨cB, h1, D, h2, h3, h4⟩ := hE
  have h1' : s.vm.findClass C = some cB := by rw [← X.warmed.alike.findClass]; exact h1
  obtain ⟨vm', X', st⟩ := X.instanceofYes hexec hown hlink h2 h4 h1' (by rw [h3]; exact Jvm.Free.SB.assignable_self _ _) hg hstack hdg
  exact ⟨_, X', rfl, st⟩
theorem cself {p : Program} {l : Launch} {e : Env} {R : Room} {s : State} {m : MethodId} {args : Array Value} {below : List Frame} {meth : Method} {c : Code} {T : State} {locs : List Loc} {cells slots : Nat} (X : Stand p l e R s m args below meth c T locs cells slots) (hexec : p.tables.exec = Jvm.exec) {own C : String} {index : Nat} (hown : s.vm.findClass own = some m.cls) (hlink : (Cond.classLink own index C).before args s = true) {a : Addr} (hE : Exact C a T)
    {g : JFrame} (hg : g.method = m) {rest : List Value} (hstack : g.stack = .ref a :: rest) (hdg : decode c.code g.pc = .ok (.checkcast index, 3)) :
    ∃ T', Stand p l e R s m args below meth c T' locs cells slots ∧ T'.heap = T.heap ∧ ∀ target, Steps p.tables e below (T'.setTop { g with pc := g.pc + 3, stack := .ref a :: rest }) target → Steps p.tables e below (T.setTop g) target := by
  obtain ⟨cB, h1, D, h2, h3, h4⟩ := hE
  have h1' : s.vm.findClass C = some cB := by rw [← X.warmed.alike.findClass]; exact h1
  obtain ⟨vm', X', st⟩ := X.checkcastYes hexec hown hlink h2 h4 h1' (by rw [h3]; exact Jvm.Free.SB.assignable_self _ _) hg hstack hdg
  exact ⟨_, X', rfl, fun t h => st t (by rw [← hstack] at h; exact h)⟩
namespace SEq
def yN : MethodName := ⟨"java/lang/String", "equals", "(Ljava/lang/Object;)Z"⟩
abbrev yB : ByteArray := jdk_42_method_66_code
theorem d0 : decode yB 0 = .ok (.aload_n 0, 1) := by decide +kernel
theorem d1 : decode yB 1 = .ok (.aload_n 1, 1) := by decide +kernel
theorem d2 : decode yB 2 = .ok (.if_acmp (.ne) 5, 3) := by decide +kernel
theorem d5 : decode yB 5 = .ok (.iconst 1, 1) := by decide +kernel
theorem d6 : decode yB 6 = .ok (.ireturn, 1) := by decide +kernel
theorem d7 : decode yB 7 = .ok (.aload_n 1, 1) := by decide +kernel
theorem d8 : decode yB 8 = .ok (.instanceof 10, 3) := by decide +kernel
theorem d11 : decode yB 11 = .ok (.ifCond (.eq) 43, 3) := by decide +kernel
theorem d14 : decode yB 14 = .ok (.aload_n 1, 1) := by decide +kernel
theorem d15 : decode yB 15 = .ok (.checkcast 10, 3) := by decide +kernel
theorem d18 : decode yB 18 = .ok (.astore_n 2, 1) := by decide +kernel
theorem d19 : decode yB 19 = .ok (.getstatic 38, 3) := by decide +kernel
theorem d22 : decode yB 22 = .ok (.ifCond (.eq) 14, 3) := by decide +kernel
theorem d25 : decode yB 25 = .ok (.aload_n 0, 1) := by decide +kernel
theorem d26 : decode yB 26 = .ok (.getfield 15, 3) := by decide +kernel
theorem d29 : decode yB 29 = .ok (.aload_n 2, 1) := by decide +kernel
theorem d30 : decode yB 30 = .ok (.getfield 15, 3) := by decide +kernel
theorem d33 : decode yB 33 = .ok (.if_icmp (.ne) 21, 3) := by decide +kernel
theorem d36 : decode yB 36 = .ok (.aload_n 0, 1) := by decide +kernel
theorem d37 : decode yB 37 = .ok (.getfield 9, 3) := by decide +kernel
theorem d40 : decode yB 40 = .ok (.aload_n 2, 1) := by decide +kernel
theorem d41 : decode yB 41 = .ok (.getfield 9, 3) := by decide +kernel
theorem d44 : decode yB 44 = .ok (.invokestatic 541, 3) := by decide +kernel
theorem d47 : decode yB 47 = .ok (.ifCond (.eq) 7, 3) := by decide +kernel
theorem d50 : decode yB 50 = .ok (.iconst 1, 1) := by decide +kernel
theorem d51 : decode yB 51 = .ok (.goto 4, 3) := by decide +kernel
theorem d54 : decode yB 54 = .ok (.iconst 0, 1) := by decide +kernel
theorem d55 : decode yB 55 = .ok (.ireturn, 1) := by decide +kernel
def site : List Cond := [.classLink "java/lang/String" 10 "java/lang/String", .fieldLink "java/lang/String" 38 "java/lang/String" "COMPACT_STRINGS" "Z", .fieldLink "java/lang/String" 15 "java/lang/String" "coder" "B", .fieldLink "java/lang/String" 9 "java/lang/String" "value" "[B", LEq.tab] ++ staticW "java/lang/String" 541 LEq.yN
def tab : Cond := tabOf yN yB 3 (some .boolean) site
def P (x t : Addr) (V : Cell) (cd : Int32) (n : Nat) (f : Nat → Int32) (y t' : Addr) (V' : Cell) (cd' : Int32) (k : Nat) (g : Nat → Int32) (z : Int32) (args : Array Value) (s : State) : Prop := args = #[.ref x, .ref y] ∧ Txt x t V cd n f s ∧ Txt y t' V' cd' k g s ∧ StaticIs s "java/lang/String" "COMPACT_STRINGS" "Z" (.int z) ∧ ¬ z = 0
/-- equals(Object) of two Strings: whether the texts are the same -/
theorem law (l : Launch) (x t : Addr) (V : Cell) (cd : Int32) (n : Nat) (f : Nat → Int32) (y t' : Addr) (V' : Cell) (cd' : Int32) (k : Nat) (g : Nat → Int32) (z : Int32) : Law l yN 2 1 1 14 yB 3 (some .boolean) site (P x t V cd n f y t' V' cd' k g z) (Says01 (SameT n f k g)) [] 0 0 := by
  refine Law.of_walk (plainFor_of_name (by decide +kernel)) (by decide +kernel) (by decide +kernel) (by decide) (fun _ _ h => by rw [h.1]; rfl) (fun _ U U' hal hh h => ⟨h.1, h.2.1.mv hal hh, h.2.2.1.mv hal hh, h.2.2.2.1.there hal hh, h.2.2.2.2⟩) (fun r U U' V V' h1 hal h2 h => Says01.mv r U U' V V' h1 hal h2 h) ?_
  intro p e s m args below meth c s₁ X0 hexec hbytes hml hret hlk hnm hown hh0 W hP
  obtain ⟨rfl, hx, hy, s1, hz⟩ := hP
  have c1 : Steps p.tables e below (s₁.setTop (entryFrame m #[.ref x, .ref y] 3)) (s₁.setTop (mkF m 2 #[.val (.ref x), .val (.ref y), .unset] [.ref y, .ref x])) := Steps.trans (entry rfl) (by
    show Steps p.tables e below (s₁.setTop (mkF m 0 #[.val (.ref x), .val (.ref y), .unset] [])) _
    refine XS.aloadN X0.here hexec rfl (hb hbytes d0) rfl rfl ?_
    refine XS.aloadN X0.here hexec rfl (hb hbytes d1) rfl rfl ?_
    exact Steps.refl _)
  by_cases hxy : x = y
  · have c2 : Steps p.tables e below (s₁.setTop (entryFrame m #[.ref x, .ref y] 3)) (s₁.setTop (mkF m 6 #[.val (.ref x), .val (.ref y), .unset] [.int 1])) := c1.trans (by
      refine acmpNo X0.here hexec rfl (hb hbytes d2) rfl rfl rfl (by simp [acmp, hxy]) ?_
      refine iconstV X0.here hexec rfl 1 (hb hbytes d5) (by decide) ?_
      exact Steps.refl _)
    subst hxy
    have ec : cd = cd' := by
      obtain ⟨D, fd, a1, a2, a3⟩ := hx.2.2.1
      obtain ⟨D', fd', b1, b2, b3⟩ := hy.2.2.1
      cases a1.symm.trans b1
      obtain ⟨q1, q2, q3, q4⟩ := a2.1
      obtain ⟨r1, r2, r3, r4⟩ := b2.1
      cases q4.symm.trans r4
      cases a3.symm.trans b3; rfl
    have et : t = t' := by
      obtain ⟨D, fd, a1, a2, a3⟩ := hx.2.1
      obtain ⟨D', fd', b1, b2, b3⟩ := hy.2.1
      cases a1.symm.trans b1
      obtain ⟨q1, q2, q3, q4⟩ := a2.1
      obtain ⟨r1, r2, r3, r4⟩ := b2.1
      cases q4.symm.trans r4
      cases a3.symm.trans b3; rfl
    subst ec et
    have ev : V = V' := by cases hx.2.2.2.1.1.symm.trans hy.2.2.2.1.1; rfl
    subst ev
    have hs : SameT n f k g := (Cod.eqv hx.2.2.2.2.1 hy.2.2.2.2.1 hx.2.2.2.2.2 hy.2.2.2.2.2).mp ⟨rfl, fun _ _ => rfl⟩
    exact ⟨s₁, some (.int 1), _, _, _, X0, rfl, rfl, rfl, (fun h => by cases h), ⟨1, rfl, hh0, Or.inl ⟨rfl, hs⟩⟩, fun fs hl => c2.trans (X0.ireturnOut hexec hret rfl (Or.inr (Or.inl rfl)) (hb hbytes d6) hl)⟩
  · have c2 : Steps p.tables e below (s₁.setTop (entryFrame m #[.ref x, .ref y] 3)) (s₁.setTop (mkF m 8 #[.val (.ref x), .val (.ref y), .unset] [.ref y])) := c1.trans (by
      refine acmpYes X0.here hexec rfl (pc0 := 2) rfl (hb hbytes d2) rfl rfl rfl (by simp [acmp, hxy]) (by decide) rfl ?_
      refine XS.aloadN X0.here hexec rfl (hb hbytes d7) rfl rfl ?_
      exact Steps.refl _)
    obtain ⟨T3, X3, q3, st3⟩ := cinst X0 hexec hown (wk W (.classLink "java/lang/String" 10 "java/lang/String")) (hy.mv X0.warmed.alike hh0).1 (g := (mkF m 8 #[.val (.ref x), .val (.ref y), .unset] [.ref y])) rfl (rest := []) rfl (hb hbytes d8)
    have hh3 := q3.trans hh0
    have c4 : Steps p.tables e below (s₁.setTop (entryFrame m #[.ref x, .ref y] 3)) (T3.setTop (mkF m 15 #[.val (.ref x), .val (.ref y), .unset] [.ref y])) := (c2.trans (st3 _ (Steps.refl _))).trans (by
      refine XS.ifNo X3.here hexec rfl (hb hbytes d11) rfl (i0_eq_f (by decide)) ?_
      refine XS.aloadN X3.here hexec rfl (hb hbytes d14) rfl rfl ?_
      exact Steps.refl _)
    obtain ⟨T5, X5, q5, st5⟩ := cself X3 hexec hown (wk W (.classLink "java/lang/String" 10 "java/lang/String")) (hy.mv X3.warmed.alike hh3).1 (g := (mkF m 15 #[.val (.ref x), .val (.ref y), .unset] [.ref y])) rfl (rest := []) rfl (hb hbytes d15)
    have hh5 := q5.trans hh3
    have c6 : Steps p.tables e below (s₁.setTop (entryFrame m #[.ref x, .ref y] 3)) (T5.setTop (mkF m 19 #[.val (.ref x), .val (.ref y), .val (.ref y)] [])) := (c4.trans (st5 _ (Steps.refl _))).trans (by
      refine XS.astoreN X5.here hexec rfl (hb hbytes d18) rfl rfl rfl ?_
      exact Steps.refl _)
    obtain ⟨T7, X7, q7, st7⟩ := X5.sget hexec hown (wk W (.fieldLink "java/lang/String" 38 "java/lang/String" "COMPACT_STRINGS" "Z")) s1 (fun _ _ h => by rw [hh5]; exact h) (g := (mkF m 19 #[.val (.ref x), .val (.ref y), .val (.ref y)] [])) rfl (hb hbytes d19)
    have hh7 := q7.trans hh5
    have c8 : Steps p.tables e below (s₁.setTop (entryFrame m #[.ref x, .ref y] 3)) (T7.setTop (mkF m 26 #[.val (.ref x), .val (.ref y), .val (.ref y)] [.ref x])) := (c6.trans (st7 _ (Steps.refl _))).trans (by
      refine XS.ifNo X7.here hexec rfl (hb hbytes d22) rfl (i0_eq_f hz) ?_
      refine XS.aloadN X7.here hexec rfl (hb hbytes d25) rfl rfl ?_
      exact Steps.refl _)
    obtain ⟨T9, X9, q9, st9⟩ := X7.hget hexec hown (wk W (.fieldLink "java/lang/String" 15 "java/lang/String" "coder" "B")) (hx.mv X7.warmed.alike hh7).2.2.1 (g := (mkF m 26 #[.val (.ref x), .val (.ref y), .val (.ref y)] [.ref x])) rfl (rest := []) rfl (hb hbytes d26)
    have hh9 := q9.trans hh7
    have c10 : Steps p.tables e below (s₁.setTop (entryFrame m #[.ref x, .ref y] 3)) (T9.setTop (mkF m 30 #[.val (.ref x), .val (.ref y), .val (.ref y)] [.ref y, .int cd])) := (c8.trans (st9 _ (Steps.refl _))).trans (by
      refine XS.aloadN X9.here hexec rfl (hb hbytes d29) rfl rfl ?_
      exact Steps.refl _)
    obtain ⟨T11, X11, q11, st11⟩ := X9.hget hexec hown (wk W (.fieldLink "java/lang/String" 15 "java/lang/String" "coder" "B")) (hy.mv X9.warmed.alike hh9).2.2.1 (g := (mkF m 30 #[.val (.ref x), .val (.ref y), .val (.ref y)] [.ref y, .int cd])) rfl (rest := [.int cd]) rfl (hb hbytes d30)
    have hh11 := q11.trans hh9
    have c12 : Steps p.tables e below (s₁.setTop (entryFrame m #[.ref x, .ref y] 3)) (T11.setTop (mkF m 33 #[.val (.ref x), .val (.ref y), .val (.ref y)] [.int cd', .int cd])) := c10.trans (st11 _ (Steps.refl _))
    by_cases hcd : cd = cd'
    · subst hcd
      have c13 : Steps p.tables e below (s₁.setTop (entryFrame m #[.ref x, .ref y] 3)) (T11.setTop (mkF m 37 #[.val (.ref x), .val (.ref y), .val (.ref y)] [.ref x])) := c12.trans (by
        refine XS.icmpNo X11.here hexec rfl (hb hbytes d33) rfl (ii_ne_f rfl) ?_
        refine XS.aloadN X11.here hexec rfl (hb hbytes d36) rfl rfl ?_
        exact Steps.refl _)
      obtain ⟨T14, X14, q14, st14⟩ := X11.hget hexec hown (wk W (.fieldLink "java/lang/String" 9 "java/lang/String" "value" "[B")) (hx.mv X11.warmed.alike hh11).2.1 (g := (mkF m 37 #[.val (.ref x), .val (.ref y), .val (.ref y)] [.ref x])) rfl (rest := []) rfl (hb hbytes d37)
      have hh14 := q14.trans hh11
      have c15 : Steps p.tables e below (s₁.setTop (entryFrame m #[.ref x, .ref y] 3)) (T14.setTop (mkF m 41 #[.val (.ref x), .val (.ref y), .val (.ref y)] [.ref y, .ref t])) := (c13.trans (st14 _ (Steps.refl _))).trans (by
        refine XS.aloadN X14.here hexec rfl (hb hbytes d40) rfl rfl ?_
        exact Steps.refl _)
      obtain ⟨T16, X16, q16, st16⟩ := X14.hget hexec hown (wk W (.fieldLink "java/lang/String" 9 "java/lang/String" "value" "[B")) (hy.mv X14.warmed.alike hh14).2.1 (g := (mkF m 41 #[.val (.ref x), .val (.ref y), .val (.ref y)] [.ref y, .ref t])) rfl (rest := [.ref t]) rfl (hb hbytes d41)
      have hh16 := q16.trans hh14
      have c17 : Steps p.tables e below (s₁.setTop (entryFrame m #[.ref x, .ref y] 3)) (T16.setTop (mkF m 44 #[.val (.ref x), .val (.ref y), .val (.ref y)] [.ref t', .ref t])) := c15.trans (st16 _ (Steps.refl _))
      obtain ⟨v18, T18, X18, E18, g18⟩ := X16.callS hexec (LEq.law l t V t' V') hown (wks W (staticW "java/lang/String" 541 LEq.yN)) (wk W LEq.tab) (W := 0) (Nat.le_of_ble_eq_true rfl) (Nat.le_of_ble_eq_true rfl) (Nat.le_refl _) (Nat.le_refl _) (g := (mkF m 44 #[.val (.ref x), .val (.ref y), .val (.ref y)] [.ref t', .ref t])) rfl (by rw [hml]; rfl) c17 (argsL := [.ref t, .ref t']) (rest := []) rfl rfl (by show 2 * 0 + 0 ≤ _; decide) (hb hbytes d44) (⟨rfl, hx.2.2.2.1.mv X16.warmed.alike hh16, hx.2.2.2.2.1.ty, hy.2.2.2.1.mv X16.warmed.alike hh16, hy.2.2.2.2.1.ty⟩)
      obtain ⟨v, rfl, q18, hv⟩ := E18
      have iff := Cod.eqv hx.2.2.2.2.1 hy.2.2.2.2.1 hx.2.2.2.2.2 hy.2.2.2.2.2
      rcases hv with ⟨rfl, he⟩ | ⟨rfl, he⟩
      · have c19 : Steps p.tables e below (s₁.setTop (entryFrame m #[.ref x, .ref y] 3)) (T18.setTop (mkF m 55 #[.val (.ref x), .val (.ref y), .val (.ref y)] [.int 1])) := Steps.trans g18 (by
          refine XS.ifNo X18.here hexec rfl (hb hbytes d47) rfl (i0_eq_f (by decide)) ?_
          refine iconstV X18.here hexec rfl 1 (hb hbytes d50) (by decide) ?_
          refine XS.goto X18.here hexec rfl (pc0 := 51) rfl (hb hbytes d51) (by decide) rfl ?_
          exact Steps.refl _)
        exact ⟨T18, some (.int 1), _, _, _, X18, rfl, rfl, rfl, (fun h => by cases h), ⟨1, rfl, q18.trans hh16, Or.inl ⟨rfl, iff.mp he⟩⟩, fun fs hl => c19.trans (X18.ireturnOut hexec hret rfl (Or.inr (Or.inl rfl)) (hb hbytes d55) hl)⟩
      · have c19 : Steps p.tables e below (s₁.setTop (entryFrame m #[.ref x, .ref y] 3)) (T18.setTop (mkF m 55 #[.val (.ref x), .val (.ref y), .val (.ref y)] [.int 0])) := Steps.trans g18 (by
          refine XS.ifYes X18.here hexec rfl (pc0 := 47) rfl (hb hbytes d47) rfl (i0_eq_t rfl) (by decide) rfl ?_
          refine iconstV X18.here hexec rfl 0 (hb hbytes d54) (by decide) ?_
          exact Steps.refl _)
        exact ⟨T18, some (.int 0), _, _, _, X18, rfl, rfl, rfl, (fun h => by cases h), ⟨0, rfl, q18.trans hh16, Or.inr ⟨rfl, fun q => he (iff.mpr q)⟩⟩, fun fs hl => c19.trans (X18.ireturnOut hexec hret rfl (Or.inr (Or.inl rfl)) (hb hbytes d55) hl)⟩
    · have c13 : Steps p.tables e below (s₁.setTop (entryFrame m #[.ref x, .ref y] 3)) (T11.setTop (mkF m 55 #[.val (.ref x), .val (.ref y), .val (.ref y)] [.int 0])) := c12.trans (by
        refine XS.icmpYes X11.here hexec rfl (pc0 := 33) rfl (hb hbytes d33) rfl (ii_ne_t hcd) (by decide) rfl ?_
        refine iconstV X11.here hexec rfl 0 (hb hbytes d54) (by decide) ?_
        exact Steps.refl _)
      exact ⟨T11, some (.int 0), _, _, _, X11, rfl, rfl, rfl, (fun h => by cases h), ⟨0, rfl, hh11, Or.inr ⟨rfl, Cod.dif hx.2.2.2.2.1 hy.2.2.2.2.1 hcd⟩⟩, fun fs hl => c13.trans (X11.ireturnOut hexec hret rfl (Or.inr (Or.inl rfl)) (hb hbytes d55) hl)⟩
theorem pays {l : Launch} {R : Room} {p : Program} {e : Env} {below : List Frame} {s : State} {sargs : Array Value} {len W : Nat} (x t : Addr) (V : Cell) (cd : Int32) (n : Nat) (f : Nat → Int32) (y t' : Addr) (V' : Cell) (cd' : Int32) (k : Nat) (g : Nat → Int32) (z : Int32) (htab : tab.before sargs s = true) (hfr : 2 ≤ R.frames) (hlo : W + 28 ≤ R.locals) :
    Back l R p e below s sargs yN len W (fun A₁ a₁ => A₁.cells + 0 ≤ R.cells ∧ A₁.slots + 0 ≤ R.slots ∧ P x t V cd n f y t' V' cd' k g z a₁ A₁.U) (fun A₁ _ v₁ B₁ => Says01 (SameT n f k g) v₁ A₁.U B₁.U ∧ B₁.locs = A₁.locs ++ [] ∧ B₁.cells = A₁.cells + 0 ∧ B₁.slots = A₁.slots + 0) :=
  (law l x t V cd n f y t' V' cd' k g z).pays htab hfr (by omega)
end SEq
end StrChars
namespace StrChars.Road
open Jvm Sem ClassFile Op Lib Jvm.Stand Jvm.Free Jvm.Free.XT
open Jvm.Lib.Cold (StaticIs)
/-- the words of String.equals(Object) -/
abbrev wordsEq : List Jvm.Cond := [.code SEq.yN SEq.yB 3 (some .boolean), .initialized ST, .classLink ST 10 ST, .fieldLink ST 38 ST "COMPACT_STRINGS" "Z", .fieldLink ST 15 ST "coder" "B", .fieldLink ST 9 ST "value" "[B", .methodLink ST 541 LEq.yN, .static LEq.yN, .code LEq.yN LEq.yB 3 (some .boolean), .initialized "java/lang/StringLatin1"]
theorem tabEq_of {a : Array Value} {s : State} (h : ∀ w ∈ wordsEq, w.before a s = true) : SEq.tab.before a s = true := by
  have hl : LEq.tab.before a s = true := unparts (wk h (.code LEq.yN LEq.yB 3 (some .boolean))) (wks h (.initialized LEq.yN.cls :: LEq.site))
  have q := consq hl h
  exact unparts (wk q (.code SEq.yN SEq.yB 3 (some .boolean))) (wks q (.initialized SEq.yN.cls :: SEq.site))
theorem movedEq {Z s : State} {a0 args : Array Value} (hZ : Z.Warmed39 s.vm) (hw : ∀ d ∈ wordsEq, d.before a0 Z = true) : ∀ d ∈ wordsEq, d.before args s = true := fun d hd => by
  have t : ∀ d ∈ wordsEq, (d.onTables && d.keepsFace) = true := by decide +kernel
  exact RoadKit.mv hZ (hw d hd) (t d hd)
/-- the road's facts of a String, as the laws ask it -/
theorem txt_of {Z U : State} {a0 : Array Value} {kI : Nat} (wi : (Jvm.Cond.instantiable ST kI).before a0 Z = true) (al : Z.vm.Alike U.vm) {x t : Addr} {kb : ClassId} {cs : List Int32} {cd N2 : Int32} {vs : List Value} (E : RoadKit.Exa Z U.heap x ST) (V : RoadKit.Fld Z U.heap x ST "value" "[B" (.ref t)) (C : RoadKit.Fld Z U.heap x ST "coder" "B" (.int cd)) (K : RoadKit.Arv Z U.heap t kb .byte N2 vs (.int 0)) (hc : CodA cs cd N2 vs) (hb : ∀ c ∈ cs, ¬ c < 0 ∧ ¬ (65535 : Int32) < c) (l2 : cs.length ≤ 4000) :
    ∃ A, Txt x t A cd cs.length (fun j => cs.getD j 0) U := by
  obtain ⟨A, K1, K2, K3, K4, K5, K6⟩ := K
  have hcod := hc.cod (by omega) K3 K5
  obtain ⟨D, fV, fC, hB, F1, F2, g1, g2, -, -⟩ := strObj wi al E V C
  exact ⟨A, ⟨_, hB.2.2.1, D, hB.1, rfl, by cases q : D.vm <;> first | rfl | exact absurd q (hB.2.1.2 _)⟩, Has.of hB F1 g1, Has.of hB F2 g2, ⟨K1.1, State.isArrayOf_alike al K1.2.1, K1.2.2, by rcases hcod with ⟨-, q, -⟩ | ⟨-, q, -⟩ <;> omega⟩, hcod, fun j hj => by
    have e : cs.getD j 0 = cs[j] := by simp [List.getD_eq_getElem?_getD, hj]
    show ¬ cs.getD j 0 < 0 ∧ ¬ 65535 < cs.getD j 0
    rw [e]; exact hb _ (List.getElem_mem _)⟩
theorem same_list (cs ds : List Int32) : SameT cs.length (fun j => cs.getD j 0) ds.length (fun j => ds.getD j 0) ↔ cs = ds := by
  constructor
  · rintro ⟨e, q⟩
    refine List.ext_getElem e fun j h1 h2 => ?_
    have := q j h1
    simpa [List.getD_eq_getElem?_getD, h1, h2] using this
  · rintro rfl
    exact ⟨rfl, fun _ _ => rfl⟩
/-- **equals(Object) OF TWO SUCH STRINGS**: 1 just where the chars are the same -/
theorem eqW {p : Program} {l : Launch} {e : Env} {R : Room} {s : State} {args : Array Value} {below : List Frame} {len W : Nat} {Z : State} {a0 : Array Value} {h : Heap} (hZ : Z.Warmed39 s.vm) (hw : ∀ d ∈ wordsEq, d.before a0 Z = true) {kI : Nat} (wi : (Jvm.Cond.instantiable ST kI).before a0 Z = true)
    {x t : Addr} {kb : ClassId} {cs : List Int32} {cd N2 : Int32} {vs : List Value} (E : RoadKit.Exa Z h x ST) (V : RoadKit.Fld Z h x ST "value" "[B" (.ref t)) (C : RoadKit.Fld Z h x ST "coder" "B" (.int cd)) (K : RoadKit.Arv Z h t kb .byte N2 vs (.int 0)) (hc : CodA cs cd N2 vs) (hb : ∀ c ∈ cs, ¬ c < 0 ∧ ¬ (65535 : Int32) < c) (l2 : cs.length ≤ 4000)
    {y t' : Addr} {kb' : ClassId} {ds : List Int32} {cd' N2' : Int32} {vs' : List Value} (E' : RoadKit.Exa Z h y ST) (V' : RoadKit.Fld Z h y ST "value" "[B" (.ref t')) (C' : RoadKit.Fld Z h y ST "coder" "B" (.int cd')) (K' : RoadKit.Arv Z h t' kb' .byte N2' vs' (.int 0)) (hc' : CodA ds cd' N2' vs') (hb' : ∀ c ∈ ds, ¬ c < 0 ∧ ¬ (65535 : Int32) < c) (l2' : ds.length ≤ 4000)
    {z : Int32} (S : RoadKit.Sta Z h ST "COMPACT_STRINGS" "Z" (.int z)) (hz : ¬ z = 0) (hfr : 2 ≤ R.frames) (hlo : W + 28 ≤ R.locals) :
    Back l R p e below s args (⟨"java/lang/String", "equals", "(Ljava/lang/Object;)Z"⟩ : MethodName) len W (fun P a => a = #[.ref x, .ref y] ∧ P.U.heap = h ∧ P.cells + 0 ≤ R.cells ∧ P.slots + 0 ≤ R.slots)
      (fun P _ v B => ∃ L, (((v = some (.int 1) ∧ cs = ds) ∨ (v = some (.int 0) ∧ ¬ cs = ds)) ∧ L = [] ∧ B.U.heap = h) ∧ B.locs = P.locs ++ L ∧ B.cells = P.cells + 0 ∧ B.slots = P.slots + 0) := by
  intro m meth c P g ig mk a X hg hsize hdg hW hn hp'
  obtain ⟨rfl, rfl, r1, r2⟩ := hp'
  have al : Z.vm.Alike P.U.vm := hZ.alike.trans X.warmed.alike
  obtain ⟨A, hx⟩ := txt_of wi al E V C K hc hb l2
  obtain ⟨A', hy⟩ := txt_of wi al E' V' C' K' hc' hb' l2'
  obtain ⟨v, B, X', ⟨⟨w, hv, hh, hq⟩, hl, hk, hs⟩, st⟩ := SEq.pays x t A cd cs.length (fun j => cs.getD j 0) y t' A' cd' ds.length (fun j => ds.getD j 0) z (tabEq_of (movedEq hZ hw)) hfr hlo m meth c P g ig mk _ X hg hsize hdg hW hn ⟨r1, r2, rfl, hx, hy, sta_is al S, hz⟩
  refine ⟨v, B, X', ⟨[], ⟨?_, rfl, hh⟩, hl, hk, hs⟩, st⟩
  rcases hq with ⟨rfl, q⟩ | ⟨rfl, q⟩
  · exact Or.inl ⟨hv, (same_list cs ds).mp q⟩
  · exact Or.inr ⟨hv, fun e => q ((same_list cs ds).mpr e)⟩
end StrChars.Road
namespace StrChars.Road
open Jvm Sem ClassFile Op Lib Jvm.Stand Jvm.Free Jvm.Free.XT
open Jvm.Lib.Cold (StaticIs)
/-- what backV says of its String, as the contracts of this text ask it: cs's low bytes, coder 0 -/
theorem codOf {cs : List Int32} {n : Nat} (hn : cs.length = n) (hb : ∀ c ∈ cs, ¬ 255 < c) : CodA cs 0 (Int32.ofNat n) ((cs.map lo8).map Value.int) := Or.inl ⟨rfl, by rw [hn], by simp [List.map_map, Function.comp_def], hb⟩
end StrChars.Road
end Jvm.Pilot.@@N@@

namespace Jvm.Pilot.@@N@@
open Jvm Jvm.ClassFile Sem Op Lib Jvm.Free Jvm.Stand Jvm.LawKit Jvm.RoadKit Bundle Jvm.Pilot.@@N@@.Jvm.D
/-- what is said of the start -/
def Wd (Z : State) (a0 : Array Value) : Prop := (∀ d ∈ tables_1, d.before a0 Z = true) ∧ (∃ z : Int32, Sta Z Z.heap "java/lang/String" "COMPACT_STRINGS" "Z" (.int z) ∧ ¬ z = 0)
-- java/lang/StringLatin1.canEncode:(C)Z
def Q_canEncode (Z : State) (ch : Int32) (h0 : Heap) (v : Option Value) (h : Heap) (L : List Loc) : Prop := v = some (.int 1) ∧ Fr Z.heap.size L ∧ h = h0
theorem ef_canEncode (m : MethodId) (ch : Int32) : entryFrame m #[(.int ch)] 1 = mkF m 0 #[.val (.int ch)] [] := by first | (simp [entryFrame, mkF, argsToLocals, Value.category]; done) | rfl
theorem pn_0 : plainName "java/lang/StringLatin1" = true := by first | (simp [plainName, overriddenIn]; done) | decide +kernel
theorem d_jdk_43_3_0 : decode jdk_43_method_3_code 0 = .ok (.iload_n 0, 1) := by decide +kernel
theorem d_jdk_43_3_1 : decode jdk_43_method_3_code 1 = .ok (.sipush 255, 3) := by decide +kernel
theorem d_jdk_43_3_4 : decode jdk_43_method_3_code 4 = .ok (.if_icmp .gt 7, 3) := by decide +kernel
theorem d_jdk_43_3_7 : decode jdk_43_method_3_code 7 = .ok (.iconst 1, 1) := by decide +kernel
theorem d_jdk_43_3_8 : decode jdk_43_method_3_code 8 = .ok (.goto 4, 3) := by decide +kernel
theorem d_jdk_43_3_12 : decode jdk_43_method_3_code 12 = .ok (.ireturn, 1) := by decide +kernel
set_option maxRecDepth 65536 in
set_option maxHeartbeats 40000000 in
theorem rm_canEncode (l : Launch) {Z : State} {a0 : Array Value} (hD : Wd Z a0) (ch : Int32) {h0 : Heap} (O0 : Ext Z.heap h0) (hc : ¬ (255 : Int32) < ch) :
    Con l Z (⟨"java/lang/StringLatin1", "canEncode", "(C)Z"⟩ : MethodName) jdk_43_method_3_code 1 (some .boolean) [] ({ frames := 0, cells := 0, slots := 0, locals := 0 } : Room) #[(.int ch)] h0 (Q_canEncode Z ch h0) := by
  refine Con.walk (plainFor_of_name pn_0) ?_
  intro p e s m below meth c T0 X0 hx hZ hby hml hown hnm hret hlk e0
  obtain ⟨hw, cz, S_CS, hcz⟩ := id hD
  have N0 := Fr.nil Z.heap.size
  refine OEnds.cast (ef_canEncode m ch) ?_
  refine OEnds.st (S' := T0.setTop (mkF m 12 #[.val (.int ch)] [(.int (1 : Int32))])) (fun _ k => ?_) ?_
  · show Steps p.tables e below (T0.setTop (mkF m 0 #[.val (.int ch)] [])) _
    refine XS.iloadN X0.here hx rfl (hb hby d_jdk_43_3_0) rfl ?_
    show Steps p.tables e below (T0.setTop (mkF m 1 #[.val (.int ch)] [(.int ch)])) _
    refine XS.sipush X0.here hx rfl (hb hby d_jdk_43_3_1) ?_
    show Steps p.tables e below (T0.setTop (mkF m 4 #[.val (.int ch)] [(.int (255 : Int32)), (.int ch)])) _
    refine XS.icmpNo X0.here hx rfl (hb hby d_jdk_43_3_4) rfl (flt hc).2.2.1 ?_
    show Steps p.tables e below (T0.setTop (mkF m 7 #[.val (.int ch)] [])) _
    refine XS.iconst X0.here hx rfl (hb hby d_jdk_43_3_7) ?_
    show Steps p.tables e below (T0.setTop (mkF m 8 #[.val (.int ch)] [(.int (1 : Int32))])) _
    refine XS.goto X0.here hx rfl (pc0 := 8) (pc' := 12) rfl (hb hby d_jdk_43_3_8) (by decide) (by decide) ?_
    exact k
  exact OEnds.ret X0 hx hret hlk (by decide) (Or.inl ⟨rfl, by simp, _, rfl⟩) (hb hby d_jdk_43_3_12) (by decide) (by decide) (by rw [e0]; exact ⟨rfl, N0, rfl⟩)
-- java/lang/StringLatin1.toBytes:(C)[B
def Q_toBytesC (Z : State) (ch : Int32) (h0 : Heap) (v : Option Value) (h : Heap) (L : List Loc) : Prop := ∃ (t : Addr) (k : ClassId), v = some (.ref t) ∧ Fr Z.heap.size L ∧ Keep h0 h [] ∧ h0.size ≤ t ∧ Arv Z h t k .byte (1 : Int32) [.int ch.toInt8.toInt32] (.int 0)
theorem ef_toBytesC (m : MethodId) (ch : Int32) : entryFrame m #[(.int ch)] 1 = mkF m 0 #[.val (.int ch)] [] := by first | (simp [entryFrame, mkF, argsToLocals, Value.category]; done) | rfl
theorem d_jdk_43_46_0 : decode jdk_43_method_46_code 0 = .ok (.iconst 1, 1) := by decide +kernel
theorem d_jdk_43_46_1 : decode jdk_43_method_46_code 1 = .ok (.newarray .byte, 2) := by decide +kernel
theorem d_jdk_43_46_3 : decode jdk_43_method_46_code 3 = .ok (.dup, 1) := by decide +kernel
theorem d_jdk_43_46_4 : decode jdk_43_method_46_code 4 = .ok (.iconst 0, 1) := by decide +kernel
theorem d_jdk_43_46_5 : decode jdk_43_method_46_code 5 = .ok (.iload_n 0, 1) := by decide +kernel
theorem d_jdk_43_46_6 : decode jdk_43_method_46_code 6 = .ok (.i2b, 1) := by decide +kernel
theorem d_jdk_43_46_7 : decode jdk_43_method_46_code 7 = .ok (.bastore, 1) := by decide +kernel
theorem d_jdk_43_46_8 : decode jdk_43_method_46_code 8 = .ok (.areturn, 1) := by decide +kernel
set_option maxRecDepth 65536 in
set_option maxHeartbeats 40000000 in
theorem rm_toBytesC (l : Launch) {Z : State} {a0 : Array Value} (hD : Wd Z a0) (ch : Int32) {h0 : Heap} (O0 : Ext Z.heap h0) :
    Con l Z (⟨"java/lang/StringLatin1", "toBytes", "(C)[B"⟩ : MethodName) jdk_43_method_46_code 1 (some (.array .byte)) [] ({ frames := 0, cells := 1, slots := 1, locals := 0 } : Room) #[(.int ch)] h0 (Q_toBytesC Z ch h0) := by
  refine Con.walk (plainFor_of_name pn_0) ?_
  intro p e s m below meth c T0 X0 hx hZ hby hml hown hnm hret hlk e0
  obtain ⟨hw, cz, S_CS, hcz⟩ := id hD
  have N0 := Fr.nil Z.heap.size
  have K0 : Keep h0 h0 [] := Keep.refl _ _
  refine OEnds.cast (ef_toBytesC m ch) ?_
  refine OEnds.st (S' := T0.setTop (mkF m 1 #[.val (.int ch)] [(.int (1 : Int32))])) (fun _ k => ?_) ?_
  · show Steps p.tables e below (T0.setTop (mkF m 0 #[.val (.int ch)] [])) _
    refine XS.iconst X0.here hx rfl (hb hby d_jdk_43_46_0) ?_
    exact k
  obtain ⟨T1, h1, k1, X1, e1, E1, A1, st1⟩ := newP X0 hx hZ (hw _ (List.mem_of_getElem? (i := 19) rfl)) e0 (g := (mkF m 1 #[.val (.int ch)] [(.int (1 : Int32))])) rfl (hb hby d_jdk_43_46_1) rfl (by decide) (cap := 1) (by decide) (by decide) (by decide) (by decide)
  obtain ⟨b1, g1⟩ : ∃ z, z = h0.size := ⟨_, rfl⟩
  rw [← g1] at A1 st1
  refine OEnds.st (S' := T1.setTop (mkF m 3 #[.val (.int ch)] [(.ref b1)])) st1 ?_
  have ge_b1 : Z.heap.size ≤ b1 := Nat.le_trans O0.1 (Nat.le_of_eq g1.symm)
  have sz_b1 : h0.size ≤ b1 := Nat.le_trans K0.1 (Nat.le_of_eq g1.symm)
  replace O0 : Ext Z.heap h1 := ext_trans O0 E1
  replace K0 : Keep h0 h1 [] := K0.ext E1
  have V_b1 : Arv Z h1 b1 k1 .byte (1 : Int32) [(.int (0 : Int32))] (.int (0 : Int32)) := (Arv.new A1 (by decide)).pad (pad_rep [] (.int (0 : Int32)) 1)
  refine OEnds.st (S' := T1.setTop (mkF m 7 #[.val (.int ch)] [(.int (ch.toInt8.toInt32)), (.int (0 : Int32)), (.ref b1), (.ref b1)])) (fun _ k => ?_) ?_
  · show Steps p.tables e below (T1.setTop (mkF m 3 #[.val (.int ch)] [(.ref b1)])) _
    refine XS.dup X1.here hx rfl (hb hby d_jdk_43_46_3) rfl rfl ?_
    show Steps p.tables e below (T1.setTop (mkF m 4 #[.val (.int ch)] [(.ref b1), (.ref b1)])) _
    refine XS.iconst X1.here hx rfl (hb hby d_jdk_43_46_4) ?_
    show Steps p.tables e below (T1.setTop (mkF m 5 #[.val (.int ch)] [(.int (0 : Int32)), (.ref b1), (.ref b1)])) _
    refine XS.iloadN X1.here hx rfl (hb hby d_jdk_43_46_5) rfl ?_
    show Steps p.tables e below (T1.setTop (mkF m 6 #[.val (.int ch)] [(.int ch), (.int (0 : Int32)), (.ref b1), (.ref b1)])) _
    refine XS.i2b X1.here hx rfl (hb hby d_jdk_43_46_6) rfl ?_
    exact k
  obtain ⟨cl_b1_2, Ar_b1_2, q_b1_2, S_b1_2, N_b1_2, H_b1_2, G_b1_2⟩ := V_b1
  obtain ⟨T2, h2, X2, e2, W2, st2⟩ := stB X1 hx hZ e1 Ar_b1_2 (j := (0 : Int32)) (inb_of S_b1_2 ⟨by decide, by decide⟩) (g := (mkF m 7 #[.val (.int ch)] [(.int (ch.toInt8.toInt32)), (.int (0 : Int32)), (.ref b1), (.ref b1)])) rfl rfl (hb hby d_jdk_43_46_7)
  have V_b1_2 : Arv Z h2 b1 k1 .byte (1 : Int32) [(.int (nar .byte (ch.toInt8.toInt32)))] (.int (0 : Int32)) := Arv.set Ar_b1_2 q_b1_2 S_b1_2 N_b1_2 H_b1_2 G_b1_2 (fits_nar_byte _) W2 0 rfl (Nat.le_of_ble_eq_true rfl)
  refine OEnds.st (S' := T2.setTop (mkF m 8 #[.val (.int ch)] [(.ref b1)])) st2 ?_
  replace O0 : Ext Z.heap h2 := ext_wr O0 W2 ge_b1
  replace N0 := Fr.snoc X2 N0 ge_b1
  replace K0 : Keep h0 h2 [] := K0.wr W2 (Or.inr sz_b1)
  rw [nar_b8] at V_b1_2
  exact OEnds.ret X2 hx hret hlk rfl (Or.inr (Or.inr (Or.inr (Or.inr ⟨rfl, rfl, rfl⟩)))) (hb hby d_jdk_43_46_8) (by decide) (by decide) (by rw [e2]; exact ⟨b1, _, rfl, N0, K0, sz_b1, V_b1_2⟩)
-- java/lang/String.<init>:([BB)V
def Q_strInitBB (Z : State) (a : Addr) (t : Addr) (h0 : Heap) (v : Option Value) (h : Heap) (L : List Loc) : Prop := v = none ∧ Fr Z.heap.size L ∧ Keep h0 h [a] ∧ Exa Z h a "java/lang/String" ∧ Fld Z h a "java/lang/String" "value" "[B" (.ref t) ∧ Fld Z h a "java/lang/String" "coder" "B" (.int 0)
theorem ef_strInitBB (m : MethodId) (a : Addr) (t : Addr) : entryFrame m #[(.ref a), (.ref t), (.int (0 : Int32))] 3 = mkF m 0 #[.val (.ref a), .val (.ref t), .val (.int (0 : Int32))] [] := by first | (simp [entryFrame, mkF, argsToLocals, Value.category]; done) | rfl
theorem pn_1 : plainName "java/lang/String" = true := by first | (simp [plainName, overriddenIn]; done) | decide +kernel
theorem d_jdk_42_151_0 : decode jdk_42_method_151_code 0 = .ok (.aload_n 0, 1) := by decide +kernel
theorem d_jdk_42_151_1 : decode jdk_42_method_151_code 1 = .ok (.invokespecial 1, 3) := by decide +kernel
theorem d_jdk_42_151_4 : decode jdk_42_method_151_code 4 = .ok (.aload_n 0, 1) := by decide +kernel
theorem d_jdk_42_151_5 : decode jdk_42_method_151_code 5 = .ok (.aload_n 1, 1) := by decide +kernel
theorem d_jdk_42_151_6 : decode jdk_42_method_151_code 6 = .ok (.putfield 9, 3) := by decide +kernel
theorem d_jdk_42_151_9 : decode jdk_42_method_151_code 9 = .ok (.aload_n 0, 1) := by decide +kernel
theorem d_jdk_42_151_10 : decode jdk_42_method_151_code 10 = .ok (.iload_n 2, 1) := by decide +kernel
theorem d_jdk_42_151_11 : decode jdk_42_method_151_code 11 = .ok (.putfield 15, 3) := by decide +kernel
theorem d_jdk_42_151_14 : decode jdk_42_method_151_code 14 = .ok (.return_, 1) := by decide +kernel
set_option maxRecDepth 65536 in
set_option maxHeartbeats 40000000 in
theorem rm_strInitBB (l : Launch) {Z : State} {a0 : Array Value} (hD : Wd Z a0) (a : Addr) (t : Addr) {h0 : Heap} (O0 : Ext Z.heap h0) (E_a : Exa Z h0 a "java/lang/String") (F_value_a : Fld Z h0 a "java/lang/String" "value" "[B" .null) (F_coder_a : Fld Z h0 a "java/lang/String" "coder" "B" (.int 0)) (ge_a : Z.heap.size ≤ a) :
    Con l Z (⟨"java/lang/String", "<init>", "([BB)V"⟩ : MethodName) jdk_42_method_151_code 3 none [] ({ frames := 1, cells := 0, slots := 0, locals := 12 } : Room) #[(.ref a), (.ref t), (.int (0 : Int32))] h0 (Q_strInitBB Z a t h0) := by
  refine Con.walk (plainFor_of_name pn_1) ?_
  intro p e s m below meth c T0 X0 hx hZ hby hml hown hnm hret hlk e0
  obtain ⟨hw, cz, S_CS, hcz⟩ := id hD
  have N0 := Fr.nil Z.heap.size
  have K0 : Keep h0 h0 [a] := Keep.refl _ _
  refine OEnds.cast (ef_strInitBB m a t) ?_
  refine OEnds.st (S' := T0.setTop (mkF m 1 #[.val (.ref a), .val (.ref t), .val (.int (0 : Int32))] [(.ref a)])) (fun _ k => ?_) ?_
  · show Steps p.tables e below (T0.setTop (mkF m 0 #[.val (.ref a), .val (.ref t), .val (.int (0 : Int32))] [])) _
    refine XS.aloadN X0.here hx rfl (hb hby d_jdk_42_151_0) rfl rfl ?_
    exact k
  obtain ⟨T1, X1, e1, st1⟩ := initO X0 hx hZ hown (hw _ (List.mem_of_getElem? (i := 11) rfl)) (hw _ (List.mem_of_getElem? (i := 12) rfl)) (hw _ (List.mem_of_getElem? (i := 13) rfl)) e0 (g := (mkF m 1 #[.val (.ref a), .val (.ref t), .val (.int (0 : Int32))] [(.ref a)])) rfl (by rw [hml]; rfl) rfl (hb hby d_jdk_42_151_1) (by decide) (W := 0) (by show 2 * 0 + _ ≤ _; exact Nat.le_of_eq rfl) (by decide)
  refine OEnds.st (S' := T1.setTop (mkF m 4 #[.val (.ref a), .val (.ref t), .val (.int (0 : Int32))] [])) st1 ?_
  refine OEnds.st (S' := T1.setTop (mkF m 6 #[.val (.ref a), .val (.ref t), .val (.int (0 : Int32))] [(.ref t), (.ref a)])) (fun _ k => ?_) ?_
  · show Steps p.tables e below (T1.setTop (mkF m 4 #[.val (.ref a), .val (.ref t), .val (.int (0 : Int32))] [])) _
    refine XS.aloadN X1.here hx rfl (hb hby d_jdk_42_151_4) rfl rfl ?_
    show Steps p.tables e below (T1.setTop (mkF m 5 #[.val (.ref a), .val (.ref t), .val (.int (0 : Int32))] [(.ref a)])) _
    refine XS.aloadN X1.here hx rfl (hb hby d_jdk_42_151_5) rfl rfl ?_
    exact k
  obtain ⟨T2, h2, X2, e2, W2, st2⟩ := putF X1 hx hZ hown (host := "") (Or.inl (hw _ (List.mem_of_getElem? (i := 28) rfl))) Via.refl e1 F_value_a E_a (Or.inr ⟨(hw _ (List.mem_of_getElem? (i := 29) rfl)), rfl, hnm⟩) (hw _ (List.mem_of_getElem? (i := 1) rfl)) (ty := (.array .byte)) (by decide) rfl rfl (g := (mkF m 6 #[.val (.ref a), .val (.ref t), .val (.int (0 : Int32))] [(.ref t), (.ref a)])) rfl rfl (hb hby d_jdk_42_151_6)
  refine OEnds.st (S' := T2.setTop (mkF m 9 #[.val (.ref a), .val (.ref t), .val (.int (0 : Int32))] [])) st2 ?_
  replace E_a := E_a.wr W2
  replace F_value_a := F_value_a.same W2
  replace F_coder_a := F_coder_a.other W2 (Or.inr (slot_ne (Or.inr (hw _ (List.mem_of_getElem? (i := 27) rfl))) (Or.inr (hw _ (List.mem_of_getElem? (i := 29) rfl))) (by decide) (t := .byte) (t' := (.array .byte)) (by decide) (by decide)))
  replace O0 : Ext Z.heap h2 := ext_wr O0 W2 ge_a
  replace N0 := Fr.snoc X2 N0 ge_a
  replace K0 : Keep h0 h2 [a] := K0.wr W2 (Or.inl (List.mem_of_getElem? (i := 0) rfl))
  refine OEnds.st (S' := T2.setTop (mkF m 11 #[.val (.ref a), .val (.ref t), .val (.int (0 : Int32))] [(.int (0 : Int32)), (.ref a)])) (fun _ k => ?_) ?_
  · show Steps p.tables e below (T2.setTop (mkF m 9 #[.val (.ref a), .val (.ref t), .val (.int (0 : Int32))] [])) _
    refine XS.aloadN X2.here hx rfl (hb hby d_jdk_42_151_9) rfl rfl ?_
    show Steps p.tables e below (T2.setTop (mkF m 10 #[.val (.ref a), .val (.ref t), .val (.int (0 : Int32))] [(.ref a)])) _
    refine XS.iloadN X2.here hx rfl (hb hby d_jdk_42_151_10) rfl ?_
    exact k
  obtain ⟨T3, h3, X3, e3, W3, st3⟩ := putF X2 hx hZ hown (host := "") (Or.inl (hw _ (List.mem_of_getElem? (i := 26) rfl))) Via.refl e2 F_coder_a E_a (Or.inr ⟨(hw _ (List.mem_of_getElem? (i := 27) rfl)), rfl, hnm⟩) (hw _ (List.mem_of_getElem? (i := 1) rfl)) (ty := .byte) (by decide) rfl rfl (g := (mkF m 11 #[.val (.ref a), .val (.ref t), .val (.int (0 : Int32))] [(.int (0 : Int32)), (.ref a)])) rfl rfl (hb hby d_jdk_42_151_11)
  refine OEnds.st (S' := T3.setTop (mkF m 14 #[.val (.ref a), .val (.ref t), .val (.int (0 : Int32))] [])) st3 ?_
  replace E_a := E_a.wr W3
  replace F_value_a := F_value_a.other W3 (Or.inr (slot_ne (Or.inr (hw _ (List.mem_of_getElem? (i := 29) rfl))) (Or.inr (hw _ (List.mem_of_getElem? (i := 27) rfl))) (by decide) (t := (.array .byte)) (t' := .byte) (by decide) (by decide)))
  replace F_coder_a := F_coder_a.same W3
  replace O0 : Ext Z.heap h3 := ext_wr O0 W3 ge_a
  replace N0 := Fr.snoc X3 N0 ge_a
  replace K0 : Keep h0 h3 [a] := K0.wr W3 (Or.inl (List.mem_of_getElem? (i := 0) rfl))
  exact OEnds.retV X3 hx hret hlk (hb hby d_jdk_42_151_14) (by decide) (by decide) (by rw [e3]; exact ⟨rfl, N0, K0, E_a, F_value_a, F_coder_a⟩)
-- java/lang/String.valueOf:(C)Ljava/lang/String;
def Q_valueOfC (Z : State) (ch : Int32) (h0 : Heap) (v : Option Value) (h : Heap) (L : List Loc) : Prop := ∃ (r t : Addr) (k : ClassId), v = some (.ref r) ∧ Fr Z.heap.size L ∧ Keep h0 h [] ∧ h0.size ≤ r ∧ h0.size ≤ t ∧ r ≠ t ∧ Exa Z h r "java/lang/String" ∧ Fld Z h r "java/lang/String" "coder" "B" (.int 0) ∧ Fld Z h r "java/lang/String" "value" "[B" (.ref t) ∧ Arv Z h t k .byte (1 : Int32) [.int ch.toInt8.toInt32] (.int 0)
theorem ef_valueOfC (m : MethodId) (ch : Int32) : entryFrame m #[(.int ch)] 1 = mkF m 0 #[.val (.int ch)] [] := by first | (simp [entryFrame, mkF, argsToLocals, Value.category]; done) | rfl
theorem d_jdk_42_139_0 : decode jdk_42_method_139_code 0 = .ok (.getstatic 38, 3) := by decide +kernel
theorem d_jdk_42_139_3 : decode jdk_42_method_139_code 3 = .ok (.ifCond .eq 23, 3) := by decide +kernel
theorem d_jdk_42_139_6 : decode jdk_42_method_139_code 6 = .ok (.iload_n 0, 1) := by decide +kernel
theorem d_jdk_42_139_7 : decode jdk_42_method_139_code 7 = .ok (.invokestatic 1015, 3) := by decide +kernel
theorem pd_0 : parseMethodDescriptor "(C)Z" = some ⟨[.char], some .boolean⟩ := by decide +kernel
theorem d_jdk_42_139_10 : decode jdk_42_method_139_code 10 = .ok (.ifCond .eq 16, 3) := by decide +kernel
theorem d_jdk_42_139_13 : decode jdk_42_method_139_code 13 = .ok (.new 10, 3) := by decide +kernel
theorem d_jdk_42_139_16 : decode jdk_42_method_139_code 16 = .ok (.dup, 1) := by decide +kernel
theorem d_jdk_42_139_17 : decode jdk_42_method_139_code 17 = .ok (.iload_n 0, 1) := by decide +kernel
theorem d_jdk_42_139_18 : decode jdk_42_method_139_code 18 = .ok (.invokestatic 1018, 3) := by decide +kernel
theorem pd_1 : parseMethodDescriptor "(C)[B" = some ⟨[.char], some (.array .byte)⟩ := by decide +kernel
theorem d_jdk_42_139_21 : decode jdk_42_method_139_code 21 = .ok (.iconst 0, 1) := by decide +kernel
theorem d_jdk_42_139_22 : decode jdk_42_method_139_code 22 = .ok (.invokespecial 209, 3) := by decide +kernel
theorem pd_2 : parseMethodDescriptor "([BB)V" = some ⟨[(.array .byte), .byte], none⟩ := by decide +kernel
theorem d_jdk_42_139_25 : decode jdk_42_method_139_code 25 = .ok (.areturn, 1) := by decide +kernel
set_option maxRecDepth 65536 in
set_option maxHeartbeats 40000000 in
theorem rm_valueOfC (l : Launch) {Z : State} {a0 : Array Value} (hD : Wd Z a0) (ch : Int32) {h0 : Heap} (O0 : Ext Z.heap h0) (hc : ¬ (255 : Int32) < ch) :
    Con l Z (⟨"java/lang/String", "valueOf", "(C)Ljava/lang/String;"⟩ : MethodName) jdk_42_method_139_code 1 (some (.object "java/lang/String")) [] ({ frames := 2, cells := 2, slots := 5, locals := 27 } : Room) #[(.int ch)] h0 (Q_valueOfC Z ch h0) := by
  refine Con.walk (plainFor_of_name pn_1) ?_
  intro p e s m below meth c T0 X0 hx hZ hby hml hown hnm hret hlk e0
  obtain ⟨hw, cz, S_CS, hcz⟩ := id hD
  have N0 := Fr.nil Z.heap.size
  have K0 : Keep h0 h0 [] := Keep.refl _ _
  refine OEnds.cast (ef_valueOfC m ch) ?_
  obtain ⟨T1, X1, e1, st1⟩ := getS2 X0 hx hZ hown (host := "") (Or.inl (hw _ (List.mem_of_getElem? (i := 14) rfl))) Via.refl e0 (S_CS.ext O0) (g := (mkF m 0 #[.val (.int ch)] [])) rfl (hb hby d_jdk_42_139_0)
  refine OEnds.st (S' := T1.setTop (mkF m 3 #[.val (.int ch)] [(.int cz)])) st1 ?_
  refine OEnds.st (S' := T1.setTop (mkF m 7 #[.val (.int ch)] [(.int ch)])) (fun _ k => ?_) ?_
  · show Steps p.tables e below (T1.setTop (mkF m 3 #[.val (.int ch)] [(.int cz)])) _
    refine XS.ifNo X1.here hx rfl (hb hby d_jdk_42_139_3) rfl ((if0 _ _).trans (feq hcz).1) ?_
    show Steps p.tables e below (T1.setTop (mkF m 6 #[.val (.int ch)] [])) _
    refine XS.iloadN X1.here hx rfl (hb hby d_jdk_42_139_6) rfl ?_
    exact k
  obtain ⟨_, T2, h2, L2, X2, e2, hQ2, st2⟩ := callC X1 hx hZ hown (hw _ (List.mem_of_getElem? (i := 33) rfl)) (hw _ (List.mem_of_getElem? (i := 34) rfl)) (hw _ (List.mem_of_getElem? (i := 35) rfl)) (hw _ (List.mem_of_getElem? (i := 36) rfl)) (by decide) (kc := 0) (ks := 0) (Con.sb (W := 0) (rm_canEncode l hD ch O0 hc) hZ (hw _ (List.mem_of_getElem? (i := 36) rfl)) (hw _ (List.mem_of_getElem? (i := 35) rfl)) (by decide) (by decide)) e1 (g := (mkF m 7 #[.val (.int ch)] [(.int ch)])) rfl (by rw [hml]; rfl) (argsL := [(.int ch)]) (rest := []) (lenOf pd_0 rfl) rfl (by show 2 * 0 + _ ≤ _; exact Nat.le_of_eq rfl) (hb hby d_jdk_42_139_7) (by decide) (by decide)
  obtain ⟨rfl, Nq2, Hq2⟩ := hQ2
  refine OEnds.st (S' := T2.setTop (mkF m 10 #[.val (.int ch)] [(.int (1 : Int32))])) st2 ?_
  replace N0 := Fr.app N0 Nq2
  replace e2 := e2.trans Hq2
  refine OEnds.st (S' := T2.setTop (mkF m 13 #[.val (.int ch)] [])) (fun _ k => ?_) ?_
  · show Steps p.tables e below (T2.setTop (mkF m 10 #[.val (.int ch)] [(.int (1 : Int32))])) _
    refine XS.ifNo X2.here hx rfl (hb hby d_jdk_42_139_10) rfl ((if0 _ _).trans (feq (by decide)).1) ?_
    exact k
  obtain ⟨T3, h3, X3, e3, E3, A3, D3, U3, st3⟩ := newO X2 hx hZ hown (hw _ (List.mem_of_getElem? (i := 37) rfl)) (hw _ (List.mem_of_getElem? (i := 1) rfl)) (hw _ (List.mem_of_getElem? (i := 2) rfl)) e2 (g := (mkF m 13 #[.val (.int ch)] [])) rfl (hb hby d_jdk_42_139_13) (by decide) (by decide)
  obtain ⟨b3, g3⟩ : ∃ z, z = h0.size := ⟨_, rfl⟩
  rw [← g3] at A3 D3 U3 st3
  refine OEnds.st (S' := T3.setTop (mkF m 16 #[.val (.int ch)] [(.ref b3)])) st3 ?_
  have ge_b3 : Z.heap.size ≤ b3 := Nat.le_trans O0.1 (Nat.le_of_eq g3.symm)
  have sz_b3 : h0.size ≤ b3 := Nat.le_trans K0.1 (Nat.le_of_eq g3.symm)
  replace O0 : Ext Z.heap h3 := ext_trans O0 E3
  replace K0 : Keep h0 h3 [] := K0.ext E3
  have F_coder_b3 : Fld Z h3 b3 "java/lang/String" "coder" "B" (.int (0 : Int32)) := D3 (Or.inr (hw _ (List.mem_of_getElem? (i := 27) rfl))) (ty := .byte) (by decide)
  have F_value_b3 : Fld Z h3 b3 "java/lang/String" "value" "[B" .null := D3 (Or.inr (hw _ (List.mem_of_getElem? (i := 29) rfl))) (ty := (.array .byte)) (by decide)
  refine OEnds.st (S' := T3.setTop (mkF m 18 #[.val (.int ch)] [(.int ch), (.ref b3), (.ref b3)])) (fun _ k => ?_) ?_
  · show Steps p.tables e below (T3.setTop (mkF m 16 #[.val (.int ch)] [(.ref b3)])) _
    refine XS.dup X3.here hx rfl (hb hby d_jdk_42_139_16) rfl rfl ?_
    show Steps p.tables e below (T3.setTop (mkF m 17 #[.val (.int ch)] [(.ref b3), (.ref b3)])) _
    refine XS.iloadN X3.here hx rfl (hb hby d_jdk_42_139_17) rfl ?_
    exact k
  obtain ⟨_, T4, h4, L4, X4, e4, hQ4, st4⟩ := callC X3 hx hZ hown (hw _ (List.mem_of_getElem? (i := 38) rfl)) (hw _ (List.mem_of_getElem? (i := 39) rfl)) (hw _ (List.mem_of_getElem? (i := 35) rfl)) (hw _ (List.mem_of_getElem? (i := 40) rfl)) (by decide) (kc := 1) (ks := 1) (Con.sb (W := 2) (rm_toBytesC l hD ch O0) hZ (hw _ (List.mem_of_getElem? (i := 40) rfl)) (hw _ (List.mem_of_getElem? (i := 35) rfl)) (by decide) (by decide)) e3 (g := (mkF m 18 #[.val (.int ch)] [(.int ch), (.ref b3), (.ref b3)])) rfl (by rw [hml]; rfl) (argsL := [(.int ch)]) (rest := [(.ref b3), (.ref b3)]) (lenOf pd_1 rfl) rfl (by show 2 * 0 + _ ≤ _; exact Nat.le_of_eq rfl) (hb hby d_jdk_42_139_18) (by decide) (by decide)
  obtain ⟨t4, k4, rfl, Nq4, Kq4, szq4, V4⟩ := hQ4
  refine OEnds.st (S' := T4.setTop (mkF m 21 #[.val (.int ch)] [(.ref t4), (.ref b3), (.ref b3)])) st4 ?_
  replace N0 := Fr.app N0 Nq4
  have ne_b3_t4 : b3 ≠ t4 := Nat.ne_of_lt (Nat.lt_of_lt_of_le A3.lt szq4)
  have ge_t4 : Z.heap.size ≤ t4 := Nat.le_trans O0.1 szq4
  have sz_t4 : h0.size ≤ t4 := Nat.le_trans K0.1 szq4
  replace A3 := A3.keep Kq4
  replace F_coder_b3 := F_coder_b3.keep Kq4 nin0
  replace F_value_b3 := F_value_b3.keep Kq4 nin0
  replace O0 : Ext Z.heap h4 := ext_keep O0 Kq4 all0
  replace K0 : Keep h0 h4 [] := K0.trans Kq4 all0
  refine OEnds.st (S' := T4.setTop (mkF m 22 #[.val (.int ch)] [(.int (0 : Int32)), (.ref t4), (.ref b3), (.ref b3)])) (fun _ k => ?_) ?_
  · show Steps p.tables e below (T4.setTop (mkF m 21 #[.val (.int ch)] [(.ref t4), (.ref b3), (.ref b3)])) _
    refine XS.iconst X4.here hx rfl (hb hby d_jdk_42_139_21) ?_
    exact k
  obtain ⟨_, T5, h5, L5, X5, e5, hQ5, st5⟩ := specC X4 hx hZ rfl hown (hw _ (List.mem_of_getElem? (i := 41) rfl)) (hw _ (List.mem_of_getElem? (i := 42) rfl)) (hw _ (List.mem_of_getElem? (i := 43) rfl)) (by decide) (kc := 0) (ks := 0) (Con.sb (W := 1) (rm_strInitBB l hD b3 t4 O0 A3 F_value_b3 F_coder_b3 ge_b3) hZ (hw _ (List.mem_of_getElem? (i := 43) rfl)) (hw _ (List.mem_of_getElem? (i := 2) rfl)) (by decide) (by decide)) e4 (a := b3) (g := (mkF m 22 #[.val (.int ch)] [(.int (0 : Int32)), (.ref t4), (.ref b3), (.ref b3)])) rfl (by rw [hml]; rfl) (argsL := [(.ref t4), (.int (0 : Int32))]) (rest := [(.ref b3)]) (lenOf pd_2 rfl) rfl (by show 2 * 0 + _ ≤ _; exact Nat.le_of_eq rfl) (hb hby d_jdk_42_139_22) (by decide) (by decide)
  obtain ⟨rfl, Nq5, Kq5, Eq5, Fv5, Fc5⟩ := hQ5
  refine OEnds.st (S' := T5.setTop (mkF m 25 #[.val (.int ch)] [(.ref b3)])) st5 ?_
  replace N0 := Fr.app N0 Nq5
  replace A3 := A3.keep Kq5
  replace V4 := V4.keep Kq5 (ninS (Ne.symm ne_b3_t4) nin0)
  replace O0 : Ext Z.heap h5 := ext_keep O0 Kq5 (allS ge_b3 all0)
  replace K0 : Keep h0 h5 [] := K0.trans Kq5 (allS (Or.inr sz_b3) all0)
  exact OEnds.ret X5 hx hret hlk rfl (Or.inr (Or.inr (Or.inr (Or.inr ⟨rfl, rfl, rfl⟩)))) (hb hby d_jdk_42_139_25) (by decide) (by decide) (by rw [e5]; exact ⟨b3, t4, k4, rfl, N0, K0, sz_b3, sz_t4, ne_b3_t4, Eq5, Fc5, Fv5, V4⟩)
-- java/lang/String.coder:()B
def Q_coder (Z : State) (a : Addr) (h0 : Heap) (v : Option Value) (h : Heap) (L : List Loc) : Prop := v = some (.int 0) ∧ Fr Z.heap.size L ∧ h = h0
theorem ef_coder (m : MethodId) (a : Addr) : entryFrame m #[(.ref a)] 1 = mkF m 0 #[.val (.ref a)] [] := by first | (simp [entryFrame, mkF, argsToLocals, Value.category]; done) | rfl
theorem d_jdk_42_152_0 : decode jdk_42_method_152_code 0 = .ok (.getstatic 38, 3) := by decide +kernel
theorem d_jdk_42_152_3 : decode jdk_42_method_152_code 3 = .ok (.ifCond .eq 10, 3) := by decide +kernel
theorem d_jdk_42_152_6 : decode jdk_42_method_152_code 6 = .ok (.aload_n 0, 1) := by decide +kernel
theorem d_jdk_42_152_7 : decode jdk_42_method_152_code 7 = .ok (.getfield 15, 3) := by decide +kernel
theorem d_jdk_42_152_10 : decode jdk_42_method_152_code 10 = .ok (.goto 4, 3) := by decide +kernel
theorem d_jdk_42_152_14 : decode jdk_42_method_152_code 14 = .ok (.ireturn, 1) := by decide +kernel
set_option maxRecDepth 65536 in
set_option maxHeartbeats 40000000 in
theorem rm_coder (l : Launch) {Z : State} {a0 : Array Value} (hD : Wd Z a0) (a : Addr) {h0 : Heap} (O0 : Ext Z.heap h0) (F_coder_a : Fld Z h0 a "java/lang/String" "coder" "B" (.int 0)) :
    Con l Z (⟨"java/lang/String", "coder", "()B"⟩ : MethodName) jdk_42_method_152_code 1 (some .byte) [] ({ frames := 0, cells := 0, slots := 0, locals := 0 } : Room) #[(.ref a)] h0 (Q_coder Z a h0) := by
  refine Con.walk (plainFor_of_name pn_1) ?_
  intro p e s m below meth c T0 X0 hx hZ hby hml hown hnm hret hlk e0
  obtain ⟨hw, cz, S_CS, hcz⟩ := id hD
  have N0 := Fr.nil Z.heap.size
  refine OEnds.cast (ef_coder m a) ?_
  obtain ⟨T1, X1, e1, st1⟩ := getS2 X0 hx hZ hown (host := "") (Or.inl (hw _ (List.mem_of_getElem? (i := 14) rfl))) Via.refl e0 (S_CS.ext O0) (g := (mkF m 0 #[.val (.ref a)] [])) rfl (hb hby d_jdk_42_152_0)
  refine OEnds.st (S' := T1.setTop (mkF m 3 #[.val (.ref a)] [(.int cz)])) st1 ?_
  refine OEnds.st (S' := T1.setTop (mkF m 7 #[.val (.ref a)] [(.ref a)])) (fun _ k => ?_) ?_
  · show Steps p.tables e below (T1.setTop (mkF m 3 #[.val (.ref a)] [(.int cz)])) _
    refine XS.ifNo X1.here hx rfl (hb hby d_jdk_42_152_3) rfl ((if0 _ _).trans (feq hcz).1) ?_
    show Steps p.tables e below (T1.setTop (mkF m 6 #[.val (.ref a)] [])) _
    refine XS.aloadN X1.here hx rfl (hb hby d_jdk_42_152_6) rfl rfl ?_
    exact k
  obtain ⟨T2, X2, e2, st2⟩ := getF X1 hx hZ hown (host := "") (Or.inl (hw _ (List.mem_of_getElem? (i := 26) rfl))) Via.refl e1 F_coder_a (g := (mkF m 7 #[.val (.ref a)] [(.ref a)])) rfl rfl (hb hby d_jdk_42_152_7)
  refine OEnds.st (S' := T2.setTop (mkF m 10 #[.val (.ref a)] [(.int (0 : Int32))])) st2 ?_
  refine OEnds.st (S' := T2.setTop (mkF m 14 #[.val (.ref a)] [(.int (0 : Int32))])) (fun _ k => ?_) ?_
  · show Steps p.tables e below (T2.setTop (mkF m 10 #[.val (.ref a)] [(.int (0 : Int32))])) _
    refine XS.goto X2.here hx rfl (pc0 := 10) (pc' := 14) rfl (hb hby d_jdk_42_152_10) (by decide) (by decide) ?_
    exact k
  exact OEnds.ret X2 hx hret hlk (by decide) (Or.inl ⟨rfl, by simp, _, rfl⟩) (hb hby d_jdk_42_152_14) (by decide) (by decide) (by rw [e2]; exact ⟨rfl, N0, rfl⟩)
-- java/lang/String.length:()I
def Q_strLen (Z : State) (a : Addr) (t : Addr) (k : ClassId) (z : Int32) (us : List Value) (h0 : Heap) (v : Option Value) (h : Heap) (L : List Loc) : Prop := v = some (.int z) ∧ Fr Z.heap.size L ∧ h = h0
theorem ef_strLen (m : MethodId) (a : Addr) : entryFrame m #[(.ref a)] 1 = mkF m 0 #[.val (.ref a)] [] := by first | (simp [entryFrame, mkF, argsToLocals, Value.category]; done) | rfl
theorem d_jdk_42_54_0 : decode jdk_42_method_54_code 0 = .ok (.aload_n 0, 1) := by decide +kernel
theorem d_jdk_42_54_1 : decode jdk_42_method_54_code 1 = .ok (.getfield 9, 3) := by decide +kernel
theorem d_jdk_42_54_4 : decode jdk_42_method_54_code 4 = .ok (.arraylength, 1) := by decide +kernel
theorem d_jdk_42_54_5 : decode jdk_42_method_54_code 5 = .ok (.aload_n 0, 1) := by decide +kernel
theorem d_jdk_42_54_6 : decode jdk_42_method_54_code 6 = .ok (.invokevirtual 335, 3) := by decide +kernel
theorem pd_3 : parseMethodDescriptor "()B" = some ⟨[], some .byte⟩ := by decide +kernel
theorem d_jdk_42_54_9 : decode jdk_42_method_54_code 9 = .ok (.ishr, 1) := by decide +kernel
theorem d_jdk_42_54_10 : decode jdk_42_method_54_code 10 = .ok (.ireturn, 1) := by decide +kernel
set_option maxRecDepth 65536 in
set_option maxHeartbeats 40000000 in
theorem rm_strLen (l : Launch) {Z : State} {a0 : Array Value} (hD : Wd Z a0) (a : Addr) (t : Addr) (k : ClassId) (z : Int32) (us : List Value) {h0 : Heap} (O0 : Ext Z.heap h0) (E_a : Exa Z h0 a "java/lang/String") (F_coder_a : Fld Z h0 a "java/lang/String" "coder" "B" (.int 0)) (F_value_a : Fld Z h0 a "java/lang/String" "value" "[B" (.ref t)) (V_t : Arv Z h0 t k .byte z us (.int 0)) :
    Con l Z (⟨"java/lang/String", "length", "()I"⟩ : MethodName) jdk_42_method_54_code 1 (some .int) [] ({ frames := 1, cells := 0, slots := 0, locals := 13 } : Room) #[(.ref a)] h0 (Q_strLen Z a t k z us h0) := by
  refine Con.walk (plainFor_of_name pn_1) ?_
  intro p e s m below meth c T0 X0 hx hZ hby hml hown hnm hret hlk e0
  obtain ⟨hw, cz, S_CS, hcz⟩ := id hD
  have N0 := Fr.nil Z.heap.size
  refine OEnds.cast (ef_strLen m a) ?_
  refine OEnds.st (S' := T0.setTop (mkF m 1 #[.val (.ref a)] [(.ref a)])) (fun _ k => ?_) ?_
  · show Steps p.tables e below (T0.setTop (mkF m 0 #[.val (.ref a)] [])) _
    refine XS.aloadN X0.here hx rfl (hb hby d_jdk_42_54_0) rfl rfl ?_
    exact k
  obtain ⟨T1, X1, e1, st1⟩ := getF X0 hx hZ hown (host := "") (Or.inl (hw _ (List.mem_of_getElem? (i := 28) rfl))) Via.refl e0 F_value_a (g := (mkF m 1 #[.val (.ref a)] [(.ref a)])) rfl rfl (hb hby d_jdk_42_54_1)
  refine OEnds.st (S' := T1.setTop (mkF m 4 #[.val (.ref a)] [(.ref t)])) st1 ?_
  obtain ⟨cl_t_2, Ar_t_2, q_t_2, S_t_2, N_t_2, H_t_2, G_t_2⟩ := id V_t
  refine OEnds.st (S' := T1.setTop (mkF m 5 #[.val (.ref a)] [(.int z)])) (fun tg kk => X1.arraylength hx (by rw [e1]; exact Ar_t_2.1) (State.isArrayOf_alike hZ.alike Ar_t_2.2.1) (g := (mkF m 4 #[.val (.ref a)] [(.ref t)])) rfl rfl (hb hby d_jdk_42_54_4) tg (by rw [len_of S_t_2 N_t_2]; exact kk)) ?_
  refine OEnds.st (S' := T1.setTop (mkF m 6 #[.val (.ref a)] [(.ref a), (.int z)])) (fun _ k => ?_) ?_
  · show Steps p.tables e below (T1.setTop (mkF m 5 #[.val (.ref a)] [(.int z)])) _
    refine XS.aloadN X1.here hx rfl (hb hby d_jdk_42_54_5) rfl rfl ?_
    exact k
  obtain ⟨_, T3, h3, L3, X3, e3, hQ3, st3⟩ := virtC X1 hx hZ (y := (⟨"java/lang/String", "coder", "()B"⟩ : MethodName)) (z := (⟨"java/lang/String", "coder", "()B"⟩ : MethodName)) hown (hw _ (List.mem_of_getElem? (i := 69) rfl)) (hw _ (List.mem_of_getElem? (i := 70) rfl)) (nf_sel (args := #[]) (mvT hZ (hw _ (List.mem_of_getElem? (i := 67) rfl))) rfl) (hw _ (List.mem_of_getElem? (i := 72) rfl)) (hw _ (List.mem_of_getElem? (i := 71) rfl)) (by decide) (kc := 0) (ks := 0) (Con.sb (W := 1) (rm_coder l hD a O0 F_coder_a) hZ (hw _ (List.mem_of_getElem? (i := 73) rfl)) (hw _ (List.mem_of_getElem? (i := 2) rfl)) (by decide) (by decide)) e1 E_a (g := (mkF m 6 #[.val (.ref a)] [(.ref a), (.int z)])) rfl (by rw [hml]; rfl) (argsL := []) (rest := [(.int z)]) (lenOf pd_3 rfl) rfl (by show 2 * 0 + _ ≤ _; exact Nat.le_of_eq rfl) (hb hby d_jdk_42_54_6) (by decide) (by decide)
  obtain ⟨rfl, Nq3, Hq3⟩ := hQ3
  refine OEnds.st (S' := T3.setTop (mkF m 9 #[.val (.ref a)] [(.int (0 : Int32)), (.int z)])) st3 ?_
  replace N0 := Fr.app N0 Nq3
  replace e3 := e3.trans Hq3
  refine OEnds.st (S' := T3.setTop (mkF m 10 #[.val (.ref a)] [(.int z)])) (fun _ k => ?_) ?_
  · show Steps p.tables e below (T3.setTop (mkF m 9 #[.val (.ref a)] [(.int (0 : Int32)), (.int z)])) _
    refine XS.ishr X3.here hx rfl (hb hby d_jdk_42_54_9) rfl ?_
    rw [shr0 z]
    exact k
  exact OEnds.ret X3 hx hret hlk rfl (Or.inl ⟨rfl, by simp, _, rfl⟩) (hb hby d_jdk_42_54_10) (by decide) (by decide) (by rw [e3]; exact ⟨rfl, N0, rfl⟩)
-- java/lang/AbstractStringBuilder.ensureCapacityInternal:(I)V
def Q_ensureCap (Z : State) (b : Addr) (mn : Int32) (t : Addr) (k : ClassId) (cN n : Nat) (vs : List Value) (h0 : Heap) (v : Option Value) (h : Heap) (L : List Loc) : Prop := v = none ∧ Fr Z.heap.size L ∧ h = h0
theorem ef_ensureCap (m : MethodId) (b : Addr) (mn : Int32) : entryFrame m #[(.ref b), (.int mn)] 3 = mkF m 0 #[.val (.ref b), .val (.int mn), .unset] [] := by first | (simp [entryFrame, mkF, argsToLocals, Value.category]; done) | rfl
theorem pn_2 : plainName "java/lang/AbstractStringBuilder" = true := by first | (simp [plainName, overriddenIn]; done) | decide +kernel
theorem d_jdk_68_9_0 : decode jdk_68_method_9_code 0 = .ok (.aload_n 0, 1) := by decide +kernel
theorem d_jdk_68_9_1 : decode jdk_68_method_9_code 1 = .ok (.getfield 15, 3) := by decide +kernel
theorem d_jdk_68_9_4 : decode jdk_68_method_9_code 4 = .ok (.arraylength, 1) := by decide +kernel
theorem d_jdk_68_9_5 : decode jdk_68_method_9_code 5 = .ok (.aload_n 0, 1) := by decide +kernel
theorem d_jdk_68_9_6 : decode jdk_68_method_9_code 6 = .ok (.getfield 22, 3) := by decide +kernel
theorem d_jdk_68_9_9 : decode jdk_68_method_9_code 9 = .ok (.ishr, 1) := by decide +kernel
theorem d_jdk_68_9_10 : decode jdk_68_method_9_code 10 = .ok (.istore_n 2, 1) := by decide +kernel
theorem d_jdk_68_9_11 : decode jdk_68_method_9_code 11 = .ok (.iload_n 1, 1) := by decide +kernel
theorem d_jdk_68_9_12 : decode jdk_68_method_9_code 12 = .ok (.iload_n 2, 1) := by decide +kernel
theorem d_jdk_68_9_13 : decode jdk_68_method_9_code 13 = .ok (.isub, 1) := by decide +kernel
theorem d_jdk_68_9_14 : decode jdk_68_method_9_code 14 = .ok (.ifCond .le 24, 3) := by decide +kernel
theorem d_jdk_68_9_38 : decode jdk_68_method_9_code 38 = .ok (.return_, 1) := by decide +kernel
set_option maxRecDepth 65536 in
set_option maxHeartbeats 40000000 in
theorem rm_ensureCap (l : Launch) {Z : State} {a0 : Array Value} (hD : Wd Z a0) (b : Addr) (mn : Int32) (t : Addr) (k : ClassId) (cN n : Nat) (vs : List Value) {h0 : Heap} (O0 : Ext Z.heap h0) (E_b : Exa Z h0 b "java/lang/StringBuilder") (F_coder_b : Fld Z h0 b "java/lang/AbstractStringBuilder" "coder" "B" (.int 0)) (F_count_b : Fld Z h0 b "java/lang/AbstractStringBuilder" "count" "I" (.int (Int32.ofNat n))) (F_value_b : Fld Z h0 b "java/lang/AbstractStringBuilder" "value" "[B" (.ref t)) (V_t : Arv Z h0 t k .byte (Int32.ofNat cN) vs (.int 0)) (hcap : ¬ (0 : Int32) < mn - Int32.ofNat cN) :
    Con l Z (⟨"java/lang/AbstractStringBuilder", "ensureCapacityInternal", "(I)V"⟩ : MethodName) jdk_68_method_9_code 3 none [] ({ frames := 0, cells := 0, slots := 0, locals := 0 } : Room) #[(.ref b), (.int mn)] h0 (Q_ensureCap Z b mn t k cN n vs h0) := by
  refine Con.walk (plainFor_of_name pn_2) ?_
  intro p e s m below meth c T0 X0 hx hZ hby hml hown hnm hret hlk e0
  obtain ⟨hw, cz, S_CS, hcz⟩ := id hD
  have N0 := Fr.nil Z.heap.size
  refine OEnds.cast (ef_ensureCap m b mn) ?_
  refine OEnds.st (S' := T0.setTop (mkF m 1 #[.val (.ref b), .val (.int mn), .unset] [(.ref b)])) (fun _ k => ?_) ?_
  · show Steps p.tables e below (T0.setTop (mkF m 0 #[.val (.ref b), .val (.int mn), .unset] [])) _
    refine XS.aloadN X0.here hx rfl (hb hby d_jdk_68_9_0) rfl rfl ?_
    exact k
  obtain ⟨T1, X1, e1, st1⟩ := getF X0 hx hZ hown (host := "") (Or.inl (hw _ (List.mem_of_getElem? (i := 78) rfl))) Via.refl e0 F_value_b (g := (mkF m 1 #[.val (.ref b), .val (.int mn), .unset] [(.ref b)])) rfl rfl (hb hby d_jdk_68_9_1)
  refine OEnds.st (S' := T1.setTop (mkF m 4 #[.val (.ref b), .val (.int mn), .unset] [(.ref t)])) st1 ?_
  obtain ⟨cl_t_2, Ar_t_2, q_t_2, S_t_2, N_t_2, H_t_2, G_t_2⟩ := id V_t
  refine OEnds.st (S' := T1.setTop (mkF m 5 #[.val (.ref b), .val (.int mn), .unset] [(.int (Int32.ofNat cN))])) (fun tg kk => X1.arraylength hx (by rw [e1]; exact Ar_t_2.1) (State.isArrayOf_alike hZ.alike Ar_t_2.2.1) (g := (mkF m 4 #[.val (.ref b), .val (.int mn), .unset] [(.ref t)])) rfl rfl (hb hby d_jdk_68_9_4) tg (by rw [len_of S_t_2 N_t_2]; exact kk)) ?_
  refine OEnds.st (S' := T1.setTop (mkF m 6 #[.val (.ref b), .val (.int mn), .unset] [(.ref b), (.int (Int32.ofNat cN))])) (fun _ k => ?_) ?_
  · show Steps p.tables e below (T1.setTop (mkF m 5 #[.val (.ref b), .val (.int mn), .unset] [(.int (Int32.ofNat cN))])) _
    refine XS.aloadN X1.here hx rfl (hb hby d_jdk_68_9_5) rfl rfl ?_
    exact k
  obtain ⟨T3, X3, e3, st3⟩ := getF X1 hx hZ hown (host := "") (Or.inl (hw _ (List.mem_of_getElem? (i := 76) rfl))) Via.refl e1 F_coder_b (g := (mkF m 6 #[.val (.ref b), .val (.int mn), .unset] [(.ref b), (.int (Int32.ofNat cN))])) rfl rfl (hb hby d_jdk_68_9_6)
  refine OEnds.st (S' := T3.setTop (mkF m 9 #[.val (.ref b), .val (.int mn), .unset] [(.int (0 : Int32)), (.int (Int32.ofNat cN))])) st3 ?_
  refine OEnds.st (S' := T3.setTop (mkF m 38 #[.val (.ref b), .val (.int mn), .val (.int (Int32.ofNat cN))] [])) (fun _ k => ?_) ?_
  · show Steps p.tables e below (T3.setTop (mkF m 9 #[.val (.ref b), .val (.int mn), .unset] [(.int (0 : Int32)), (.int (Int32.ofNat cN))])) _
    refine XS.ishr X3.here hx rfl (hb hby d_jdk_68_9_9) rfl ?_
    rw [shr0 (Int32.ofNat cN)]
    show Steps p.tables e below (T3.setTop (mkF m 10 #[.val (.ref b), .val (.int mn), .unset] [(.int (Int32.ofNat cN))])) _
    refine XS.istoreN X3.here hx rfl (hb hby d_jdk_68_9_10) rfl (l' := #[.val (.ref b), .val (.int mn), .val (.int (Int32.ofNat cN))]) rfl ?_
    show Steps p.tables e below (T3.setTop (mkF m 11 #[.val (.ref b), .val (.int mn), .val (.int (Int32.ofNat cN))] [])) _
    refine XS.iloadN X3.here hx rfl (hb hby d_jdk_68_9_11) rfl ?_
    show Steps p.tables e below (T3.setTop (mkF m 12 #[.val (.ref b), .val (.int mn), .val (.int (Int32.ofNat cN))] [(.int mn)])) _
    refine XS.iloadN X3.here hx rfl (hb hby d_jdk_68_9_12) rfl ?_
    show Steps p.tables e below (T3.setTop (mkF m 13 #[.val (.ref b), .val (.int mn), .val (.int (Int32.ofNat cN))] [(.int (Int32.ofNat cN)), (.int mn)])) _
    refine XS.isub X3.here hx rfl (hb hby d_jdk_68_9_13) rfl ?_
    show Steps p.tables e below (T3.setTop (mkF m 14 #[.val (.ref b), .val (.int mn), .val (.int (Int32.ofNat cN))] [(.int (mn - (Int32.ofNat cN)))])) _
    refine XS.ifYes X3.here hx rfl (pc0 := 14) (pc' := 38) rfl (hb hby d_jdk_68_9_14) rfl ((if0 _ _).trans (flt hcap).2.2.2) (by decide) (by decide) ?_
    exact k
  exact OEnds.retV X3 hx hret hlk (hb hby d_jdk_68_9_38) (by decide) (by decide) (by rw [e3]; exact ⟨rfl, N0, rfl⟩)
-- java/lang/AbstractStringBuilder.isLatin1:()Z
def Q_isLat (Z : State) (b : Addr) (h0 : Heap) (v : Option Value) (h : Heap) (L : List Loc) : Prop := v = some (.int 1) ∧ Fr Z.heap.size L ∧ h = h0
theorem ef_isLat (m : MethodId) (b : Addr) : entryFrame m #[(.ref b)] 1 = mkF m 0 #[.val (.ref b)] [] := by first | (simp [entryFrame, mkF, argsToLocals, Value.category]; done) | rfl
theorem d_jdk_68_68_0 : decode jdk_68_method_68_code 0 = .ok (.getstatic 18, 3) := by decide +kernel
theorem d_jdk_68_68_3 : decode jdk_68_method_68_code 3 = .ok (.ifCond .eq 14, 3) := by decide +kernel
theorem d_jdk_68_68_6 : decode jdk_68_method_68_code 6 = .ok (.aload_n 0, 1) := by decide +kernel
theorem d_jdk_68_68_7 : decode jdk_68_method_68_code 7 = .ok (.getfield 22, 3) := by decide +kernel
theorem d_jdk_68_68_10 : decode jdk_68_method_68_code 10 = .ok (.ifCond .ne 7, 3) := by decide +kernel
theorem d_jdk_68_68_13 : decode jdk_68_method_68_code 13 = .ok (.iconst 1, 1) := by decide +kernel
theorem d_jdk_68_68_14 : decode jdk_68_method_68_code 14 = .ok (.goto 4, 3) := by decide +kernel
theorem d_jdk_68_68_18 : decode jdk_68_method_68_code 18 = .ok (.ireturn, 1) := by decide +kernel
set_option maxRecDepth 65536 in
set_option maxHeartbeats 40000000 in
theorem rm_isLat (l : Launch) {Z : State} {a0 : Array Value} (hD : Wd Z a0) (b : Addr) {h0 : Heap} (O0 : Ext Z.heap h0) (F_coder_b : Fld Z h0 b "java/lang/AbstractStringBuilder" "coder" "B" (.int 0)) :
    Con l Z (⟨"java/lang/AbstractStringBuilder", "isLatin1", "()Z"⟩ : MethodName) jdk_68_method_68_code 1 (some .boolean) [] ({ frames := 0, cells := 0, slots := 0, locals := 0 } : Room) #[(.ref b)] h0 (Q_isLat Z b h0) := by
  refine Con.walk (plainFor_of_name pn_2) ?_
  intro p e s m below meth c T0 X0 hx hZ hby hml hown hnm hret hlk e0
  obtain ⟨hw, cz, S_CS, hcz⟩ := id hD
  have N0 := Fr.nil Z.heap.size
  refine OEnds.cast (ef_isLat m b) ?_
  obtain ⟨T1, X1, e1, st1⟩ := getS2 X0 hx hZ hown (host := "") (Or.inl (hw _ (List.mem_of_getElem? (i := 111) rfl))) Via.refl e0 (S_CS.ext O0) (g := (mkF m 0 #[.val (.ref b)] [])) rfl (hb hby d_jdk_68_68_0)
  refine OEnds.st (S' := T1.setTop (mkF m 3 #[.val (.ref b)] [(.int cz)])) st1 ?_
  refine OEnds.st (S' := T1.setTop (mkF m 7 #[.val (.ref b)] [(.ref b)])) (fun _ k => ?_) ?_
  · show Steps p.tables e below (T1.setTop (mkF m 3 #[.val (.ref b)] [(.int cz)])) _
    refine XS.ifNo X1.here hx rfl (hb hby d_jdk_68_68_3) rfl ((if0 _ _).trans (feq hcz).1) ?_
    show Steps p.tables e below (T1.setTop (mkF m 6 #[.val (.ref b)] [])) _
    refine XS.aloadN X1.here hx rfl (hb hby d_jdk_68_68_6) rfl rfl ?_
    exact k
  obtain ⟨T2, X2, e2, st2⟩ := getF X1 hx hZ hown (host := "") (Or.inl (hw _ (List.mem_of_getElem? (i := 76) rfl))) Via.refl e1 F_coder_b (g := (mkF m 7 #[.val (.ref b)] [(.ref b)])) rfl rfl (hb hby d_jdk_68_68_7)
  refine OEnds.st (S' := T2.setTop (mkF m 10 #[.val (.ref b)] [(.int (0 : Int32))])) st2 ?_
  refine OEnds.st (S' := T2.setTop (mkF m 18 #[.val (.ref b)] [(.int (1 : Int32))])) (fun _ k => ?_) ?_
  · show Steps p.tables e below (T2.setTop (mkF m 10 #[.val (.ref b)] [(.int (0 : Int32))])) _
    refine XS.ifNo X2.here hx rfl (hb hby d_jdk_68_68_10) rfl ((if0 _ _).trans (teq (by decide)).2) ?_
    show Steps p.tables e below (T2.setTop (mkF m 13 #[.val (.ref b)] [])) _
    refine XS.iconst X2.here hx rfl (hb hby d_jdk_68_68_13) ?_
    show Steps p.tables e below (T2.setTop (mkF m 14 #[.val (.ref b)] [(.int (1 : Int32))])) _
    refine XS.goto X2.here hx rfl (pc0 := 14) (pc' := 18) rfl (hb hby d_jdk_68_68_14) (by decide) (by decide) ?_
    exact k
  exact OEnds.ret X2 hx hret hlk (by decide) (Or.inl ⟨rfl, by simp, _, rfl⟩) (hb hby d_jdk_68_68_18) (by decide) (by decide) (by rw [e2]; exact ⟨rfl, N0, rfl⟩)
-- java/lang/AbstractStringBuilder.append:(C)Ljava/lang/AbstractStringBuilder;
def Q_asbAppC (Z : State) (b : Addr) (ch : Int32) (t : Addr) (k : ClassId) (cN n : Nat) (vs : List Value) (h0 : Heap) (v : Option Value) (h : Heap) (L : List Loc) : Prop := v = some (.ref b) ∧ Fr Z.heap.size L ∧ Keep h0 h [b, t] ∧ Exa Z h b "java/lang/StringBuilder" ∧ Fld Z h b "java/lang/AbstractStringBuilder" "coder" "B" (.int 0) ∧ Fld Z h b "java/lang/AbstractStringBuilder" "count" "I" (.int (Int32.ofNat (n + 1))) ∧ Fld Z h b "java/lang/AbstractStringBuilder" "value" "[B" (.ref t) ∧ Arv Z h t k .byte (Int32.ofNat cN) (List.set vs n (.int ch.toInt8.toInt32)) (.int 0)
theorem ef_asbAppC (m : MethodId) (b : Addr) (ch : Int32) : entryFrame m #[(.ref b), (.int ch)] 2 = mkF m 0 #[.val (.ref b), .val (.int ch)] [] := by first | (simp [entryFrame, mkF, argsToLocals, Value.category]; done) | rfl
theorem d_jdk_68_31_0 : decode jdk_68_method_31_code 0 = .ok (.aload_n 0, 1) := by decide +kernel
theorem d_jdk_68_31_1 : decode jdk_68_method_31_code 1 = .ok (.aload_n 0, 1) := by decide +kernel
theorem d_jdk_68_31_2 : decode jdk_68_method_31_code 2 = .ok (.getfield 79, 3) := by decide +kernel
theorem d_jdk_68_31_5 : decode jdk_68_method_31_code 5 = .ok (.iconst 1, 1) := by decide +kernel
theorem d_jdk_68_31_6 : decode jdk_68_method_31_code 6 = .ok (.iadd, 1) := by decide +kernel
theorem d_jdk_68_31_7 : decode jdk_68_method_31_code 7 = .ok (.invokevirtual 100, 3) := by decide +kernel
theorem pd_4 : parseMethodDescriptor "(I)V" = some ⟨[.int], none⟩ := by decide +kernel
theorem d_jdk_68_31_10 : decode jdk_68_method_31_code 10 = .ok (.aload_n 0, 1) := by decide +kernel
theorem d_jdk_68_31_11 : decode jdk_68_method_31_code 11 = .ok (.invokevirtual 83, 3) := by decide +kernel
theorem pd_5 : parseMethodDescriptor "()Z" = some ⟨[], some .boolean⟩ := by decide +kernel
theorem d_jdk_68_31_14 : decode jdk_68_method_31_code 14 = .ok (.ifCond .eq 31, 3) := by decide +kernel
theorem d_jdk_68_31_17 : decode jdk_68_method_31_code 17 = .ok (.iload_n 1, 1) := by decide +kernel
theorem d_jdk_68_31_18 : decode jdk_68_method_31_code 18 = .ok (.invokestatic 191, 3) := by decide +kernel
theorem d_jdk_68_31_21 : decode jdk_68_method_31_code 21 = .ok (.ifCond .eq 24, 3) := by decide +kernel
theorem d_jdk_68_31_24 : decode jdk_68_method_31_code 24 = .ok (.aload_n 0, 1) := by decide +kernel
theorem d_jdk_68_31_25 : decode jdk_68_method_31_code 25 = .ok (.getfield 15, 3) := by decide +kernel
theorem d_jdk_68_31_28 : decode jdk_68_method_31_code 28 = .ok (.aload_n 0, 1) := by decide +kernel
theorem d_jdk_68_31_29 : decode jdk_68_method_31_code 29 = .ok (.dup, 1) := by decide +kernel
theorem d_jdk_68_31_30 : decode jdk_68_method_31_code 30 = .ok (.getfield 79, 3) := by decide +kernel
theorem d_jdk_68_31_33 : decode jdk_68_method_31_code 33 = .ok (.dup_x1, 1) := by decide +kernel
theorem d_jdk_68_31_34 : decode jdk_68_method_31_code 34 = .ok (.iconst 1, 1) := by decide +kernel
theorem d_jdk_68_31_35 : decode jdk_68_method_31_code 35 = .ok (.iadd, 1) := by decide +kernel
theorem d_jdk_68_31_36 : decode jdk_68_method_31_code 36 = .ok (.putfield 79, 3) := by decide +kernel
theorem d_jdk_68_31_39 : decode jdk_68_method_31_code 39 = .ok (.iload_n 1, 1) := by decide +kernel
theorem d_jdk_68_31_40 : decode jdk_68_method_31_code 40 = .ok (.i2b, 1) := by decide +kernel
theorem d_jdk_68_31_41 : decode jdk_68_method_31_code 41 = .ok (.bastore, 1) := by decide +kernel
theorem d_jdk_68_31_42 : decode jdk_68_method_31_code 42 = .ok (.goto 33, 3) := by decide +kernel
theorem d_jdk_68_31_75 : decode jdk_68_method_31_code 75 = .ok (.aload_n 0, 1) := by decide +kernel
theorem d_jdk_68_31_76 : decode jdk_68_method_31_code 76 = .ok (.areturn, 1) := by decide +kernel
set_option maxRecDepth 65536 in
set_option maxHeartbeats 40000000 in
theorem rm_asbAppC (l : Launch) {Z : State} {a0 : Array Value} (hD : Wd Z a0) (b : Addr) (ch : Int32) (t : Addr) (k : ClassId) (cN n : Nat) (vs : List Value) {h0 : Heap} (O0 : Ext Z.heap h0) (E_b : Exa Z h0 b "java/lang/StringBuilder") (F_coder_b : Fld Z h0 b "java/lang/AbstractStringBuilder" "coder" "B" (.int 0)) (F_count_b : Fld Z h0 b "java/lang/AbstractStringBuilder" "count" "I" (.int (Int32.ofNat n))) (F_value_b : Fld Z h0 b "java/lang/AbstractStringBuilder" "value" "[B" (.ref t)) (V_t : Arv Z h0 t k .byte (Int32.ofNat cN) vs (.int 0)) (hvs : vs.length = cN) (hcN : cN ≤ 4000) (ge_b : Z.heap.size ≤ b) (ge_t : Z.heap.size ≤ t) (ne_b_t : b ≠ t) (hn : n < cN) (hc : ¬ (255 : Int32) < ch) :
    Con l Z (⟨"java/lang/AbstractStringBuilder", "append", "(C)Ljava/lang/AbstractStringBuilder;"⟩ : MethodName) jdk_68_method_31_code 2 (some (.object "java/lang/AbstractStringBuilder")) [] ({ frames := 1, cells := 0, slots := 0, locals := 14 } : Room) #[(.ref b), (.int ch)] h0 (Q_asbAppC Z b ch t k cN n vs h0) := by
  refine Con.walk (plainFor_of_name pn_2) ?_
  intro p e s m below meth c T0 X0 hx hZ hby hml hown hnm hret hlk e0
  obtain ⟨hw, cz, S_CS, hcz⟩ := id hD
  have N0 := Fr.nil Z.heap.size
  have K0 : Keep h0 h0 [b, t] := Keep.refl _ _
  refine OEnds.cast (ef_asbAppC m b ch) ?_
  have hn31 : n < 2 ^ 31 := by omega
  have hc31 : cN < 2 ^ 31 := by omega
  refine OEnds.st (S' := T0.setTop (mkF m 2 #[.val (.ref b), .val (.int ch)] [(.ref b), (.ref b)])) (fun _ k => ?_) ?_
  · show Steps p.tables e below (T0.setTop (mkF m 0 #[.val (.ref b), .val (.int ch)] [])) _
    refine XS.aloadN X0.here hx rfl (hb hby d_jdk_68_31_0) rfl rfl ?_
    show Steps p.tables e below (T0.setTop (mkF m 1 #[.val (.ref b), .val (.int ch)] [(.ref b)])) _
    refine XS.aloadN X0.here hx rfl (hb hby d_jdk_68_31_1) rfl rfl ?_
    exact k
  obtain ⟨T1, X1, e1, st1⟩ := getF X0 hx hZ hown (host := "") (Or.inl (hw _ (List.mem_of_getElem? (i := 94) rfl))) Via.refl e0 F_count_b (g := (mkF m 2 #[.val (.ref b), .val (.int ch)] [(.ref b), (.ref b)])) rfl rfl (hb hby d_jdk_68_31_2)
  refine OEnds.st (S' := T1.setTop (mkF m 5 #[.val (.ref b), .val (.int ch)] [(.int (Int32.ofNat n)), (.ref b)])) st1 ?_
  refine OEnds.st (S' := T1.setTop (mkF m 7 #[.val (.ref b), .val (.int ch)] [(.int ((Int32.ofNat n) + (1 : Int32))), (.ref b)])) (fun _ k => ?_) ?_
  · show Steps p.tables e below (T1.setTop (mkF m 5 #[.val (.ref b), .val (.int ch)] [(.int (Int32.ofNat n)), (.ref b)])) _
    refine XS.iconst X1.here hx rfl (hb hby d_jdk_68_31_5) ?_
    show Steps p.tables e below (T1.setTop (mkF m 6 #[.val (.ref b), .val (.int ch)] [(.int (1 : Int32)), (.int (Int32.ofNat n)), (.ref b)])) _
    refine XS.iadd X1.here hx rfl (hb hby d_jdk_68_31_6) rfl ?_
    exact k
  rw [ofn_succ n]
  obtain ⟨_, T2, h2, L2, X2, e2, hQ2, st2⟩ := virtC X1 hx hZ (y := (⟨"java/lang/AbstractStringBuilder", "ensureCapacityInternal", "(I)V"⟩ : MethodName)) (z := (⟨"java/lang/AbstractStringBuilder", "ensureCapacityInternal", "(I)V"⟩ : MethodName)) hown (hw _ (List.mem_of_getElem? (i := 96) rfl)) (decl_of (hw _ (List.mem_of_getElem? (i := 97) rfl)) (hw _ (List.mem_of_getElem? (i := 100) rfl))) (nf_sel (args := #[]) (mvT hZ (hw _ (List.mem_of_getElem? (i := 99) rfl))) rfl) (hw _ (List.mem_of_getElem? (i := 99) rfl)) (hw _ (List.mem_of_getElem? (i := 97) rfl)) (by decide) (kc := 0) (ks := 0) (Con.sb (W := 0) (rm_ensureCap l hD b (Int32.ofNat (n + 1)) t k cN n vs O0 E_b F_coder_b F_count_b F_value_b V_t (ofn_sub_le (by omega) hc31)) hZ (hw _ (List.mem_of_getElem? (i := 100) rfl)) (hw _ (List.mem_of_getElem? (i := 61) rfl)) (by decide) (by decide)) e1 E_b (g := (mkF m 7 #[.val (.ref b), .val (.int ch)] [(.int (Int32.ofNat (n + 1))), (.ref b)])) rfl (by rw [hml]; rfl) (argsL := [(.int (Int32.ofNat (n + 1)))]) (rest := []) (lenOf pd_4 rfl) rfl (by show 2 * 0 + _ ≤ _; exact Nat.le_of_eq rfl) (hb hby d_jdk_68_31_7) (by decide) (by decide)
  obtain ⟨rfl, Nq2, Hq2⟩ := hQ2
  refine OEnds.st (S' := T2.setTop (mkF m 10 #[.val (.ref b), .val (.int ch)] [])) st2 ?_
  replace N0 := Fr.app N0 Nq2
  replace e2 := e2.trans Hq2
  refine OEnds.st (S' := T2.setTop (mkF m 11 #[.val (.ref b), .val (.int ch)] [(.ref b)])) (fun _ k => ?_) ?_
  · show Steps p.tables e below (T2.setTop (mkF m 10 #[.val (.ref b), .val (.int ch)] [])) _
    refine XS.aloadN X2.here hx rfl (hb hby d_jdk_68_31_10) rfl rfl ?_
    exact k
  obtain ⟨_, T3, h3, L3, X3, e3, hQ3, st3⟩ := virtC X2 hx hZ (y := (⟨"java/lang/AbstractStringBuilder", "isLatin1", "()Z"⟩ : MethodName)) (z := (⟨"java/lang/AbstractStringBuilder", "isLatin1", "()Z"⟩ : MethodName)) hown (hw _ (List.mem_of_getElem? (i := 137) rfl)) (hw _ (List.mem_of_getElem? (i := 138) rfl)) (nf_sel (args := #[]) (mvT hZ (hw _ (List.mem_of_getElem? (i := 99) rfl))) rfl) (hw _ (List.mem_of_getElem? (i := 140) rfl)) (hw _ (List.mem_of_getElem? (i := 139) rfl)) (by decide) (kc := 0) (ks := 0) (Con.sb (W := 0) (rm_isLat l hD b O0 F_coder_b) hZ (hw _ (List.mem_of_getElem? (i := 141) rfl)) (hw _ (List.mem_of_getElem? (i := 61) rfl)) (by decide) (by decide)) e2 E_b (g := (mkF m 11 #[.val (.ref b), .val (.int ch)] [(.ref b)])) rfl (by rw [hml]; rfl) (argsL := []) (rest := []) (lenOf pd_5 rfl) rfl (by show 2 * 0 + _ ≤ _; exact Nat.le_of_eq rfl) (hb hby d_jdk_68_31_11) (by decide) (by decide)
  obtain ⟨rfl, Nq3, Hq3⟩ := hQ3
  refine OEnds.st (S' := T3.setTop (mkF m 14 #[.val (.ref b), .val (.int ch)] [(.int (1 : Int32))])) st3 ?_
  replace N0 := Fr.app N0 Nq3
  replace e3 := e3.trans Hq3
  refine OEnds.st (S' := T3.setTop (mkF m 18 #[.val (.ref b), .val (.int ch)] [(.int ch)])) (fun _ k => ?_) ?_
  · show Steps p.tables e below (T3.setTop (mkF m 14 #[.val (.ref b), .val (.int ch)] [(.int (1 : Int32))])) _
    refine XS.ifNo X3.here hx rfl (hb hby d_jdk_68_31_14) rfl ((if0 _ _).trans (feq (by decide)).1) ?_
    show Steps p.tables e below (T3.setTop (mkF m 17 #[.val (.ref b), .val (.int ch)] [])) _
    refine XS.iloadN X3.here hx rfl (hb hby d_jdk_68_31_17) rfl ?_
    exact k
  obtain ⟨_, T4, h4, L4, X4, e4, hQ4, st4⟩ := callC X3 hx hZ hown (hw _ (List.mem_of_getElem? (i := 142) rfl)) (hw _ (List.mem_of_getElem? (i := 34) rfl)) (hw _ (List.mem_of_getElem? (i := 35) rfl)) (hw _ (List.mem_of_getElem? (i := 36) rfl)) (by decide) (kc := 0) (ks := 0) (Con.sb (W := 0) (rm_canEncode l hD ch O0 hc) hZ (hw _ (List.mem_of_getElem? (i := 36) rfl)) (hw _ (List.mem_of_getElem? (i := 35) rfl)) (by decide) (by decide)) e3 (g := (mkF m 18 #[.val (.ref b), .val (.int ch)] [(.int ch)])) rfl (by rw [hml]; rfl) (argsL := [(.int ch)]) (rest := []) (lenOf pd_0 rfl) rfl (by show 2 * 0 + _ ≤ _; exact Nat.le_of_eq rfl) (hb hby d_jdk_68_31_18) (by decide) (by decide)
  obtain ⟨rfl, Nq4, Hq4⟩ := hQ4
  refine OEnds.st (S' := T4.setTop (mkF m 21 #[.val (.ref b), .val (.int ch)] [(.int (1 : Int32))])) st4 ?_
  replace N0 := Fr.app N0 Nq4
  replace e4 := e4.trans Hq4
  refine OEnds.st (S' := T4.setTop (mkF m 25 #[.val (.ref b), .val (.int ch)] [(.ref b)])) (fun _ k => ?_) ?_
  · show Steps p.tables e below (T4.setTop (mkF m 21 #[.val (.ref b), .val (.int ch)] [(.int (1 : Int32))])) _
    refine XS.ifNo X4.here hx rfl (hb hby d_jdk_68_31_21) rfl ((if0 _ _).trans (feq (by decide)).1) ?_
    show Steps p.tables e below (T4.setTop (mkF m 24 #[.val (.ref b), .val (.int ch)] [])) _
    refine XS.aloadN X4.here hx rfl (hb hby d_jdk_68_31_24) rfl rfl ?_
    exact k
  obtain ⟨T5, X5, e5, st5⟩ := getF X4 hx hZ hown (host := "") (Or.inl (hw _ (List.mem_of_getElem? (i := 78) rfl))) Via.refl e4 F_value_b (g := (mkF m 25 #[.val (.ref b), .val (.int ch)] [(.ref b)])) rfl rfl (hb hby d_jdk_68_31_25)
  refine OEnds.st (S' := T5.setTop (mkF m 28 #[.val (.ref b), .val (.int ch)] [(.ref t)])) st5 ?_
  refine OEnds.st (S' := T5.setTop (mkF m 30 #[.val (.ref b), .val (.int ch)] [(.ref b), (.ref b), (.ref t)])) (fun _ k => ?_) ?_
  · show Steps p.tables e below (T5.setTop (mkF m 28 #[.val (.ref b), .val (.int ch)] [(.ref t)])) _
    refine XS.aloadN X5.here hx rfl (hb hby d_jdk_68_31_28) rfl rfl ?_
    show Steps p.tables e below (T5.setTop (mkF m 29 #[.val (.ref b), .val (.int ch)] [(.ref b), (.ref t)])) _
    refine XS.dup X5.here hx rfl (hb hby d_jdk_68_31_29) rfl rfl ?_
    exact k
  obtain ⟨T6, X6, e6, st6⟩ := getF X5 hx hZ hown (host := "") (Or.inl (hw _ (List.mem_of_getElem? (i := 94) rfl))) Via.refl e5 F_count_b (g := (mkF m 30 #[.val (.ref b), .val (.int ch)] [(.ref b), (.ref b), (.ref t)])) rfl rfl (hb hby d_jdk_68_31_30)
  refine OEnds.st (S' := T6.setTop (mkF m 33 #[.val (.ref b), .val (.int ch)] [(.int (Int32.ofNat n)), (.ref b), (.ref t)])) st6 ?_
  refine OEnds.st (S' := T6.setTop (mkF m 36 #[.val (.ref b), .val (.int ch)] [(.int ((Int32.ofNat n) + (1 : Int32))), (.ref b), (.int (Int32.ofNat n)), (.ref t)])) (fun _ k => ?_) ?_
  · show Steps p.tables e below (T6.setTop (mkF m 33 #[.val (.ref b), .val (.int ch)] [(.int (Int32.ofNat n)), (.ref b), (.ref t)])) _
    refine XS.dupX1 X6.here hx rfl (hb hby d_jdk_68_31_33) rfl rfl rfl ?_
    show Steps p.tables e below (T6.setTop (mkF m 34 #[.val (.ref b), .val (.int ch)] [(.int (Int32.ofNat n)), (.ref b), (.int (Int32.ofNat n)), (.ref t)])) _
    refine XS.iconst X6.here hx rfl (hb hby d_jdk_68_31_34) ?_
    show Steps p.tables e below (T6.setTop (mkF m 35 #[.val (.ref b), .val (.int ch)] [(.int (1 : Int32)), (.int (Int32.ofNat n)), (.ref b), (.int (Int32.ofNat n)), (.ref t)])) _
    refine XS.iadd X6.here hx rfl (hb hby d_jdk_68_31_35) rfl ?_
    exact k
  rw [ofn_succ n]
  obtain ⟨T7, h7, X7, e7, W7, st7⟩ := putF X6 hx hZ hown (host := "") (Or.inl (hw _ (List.mem_of_getElem? (i := 94) rfl))) Via.refl e6 F_count_b E_b (Or.inl (hw _ (List.mem_of_getElem? (i := 95) rfl))) (hw _ (List.mem_of_getElem? (i := 52) rfl)) (ty := .int) (by decide) rfl rfl (g := (mkF m 36 #[.val (.ref b), .val (.int ch)] [(.int (Int32.ofNat (n + 1))), (.ref b), (.int (Int32.ofNat n)), (.ref t)])) rfl rfl (hb hby d_jdk_68_31_36)
  refine OEnds.st (S' := T7.setTop (mkF m 39 #[.val (.ref b), .val (.int ch)] [(.int (Int32.ofNat n)), (.ref t)])) st7 ?_
  replace E_b := E_b.wr W7
  replace F_coder_b := F_coder_b.other W7 (Or.inr (slot_ne (Or.inl (hw _ (List.mem_of_getElem? (i := 77) rfl))) (Or.inl (hw _ (List.mem_of_getElem? (i := 95) rfl))) (by decide) (t := .byte) (t' := .int) (by decide) (by decide)))
  replace F_count_b := F_count_b.same W7
  replace F_value_b := F_value_b.other W7 (Or.inr (slot_ne (Or.inl (hw _ (List.mem_of_getElem? (i := 79) rfl))) (Or.inl (hw _ (List.mem_of_getElem? (i := 95) rfl))) (by decide) (t := (.array .byte)) (t' := .int) (by decide) (by decide)))
  replace V_t := V_t.other W7 (Ne.symm ne_b_t)
  replace O0 : Ext Z.heap h7 := ext_wr O0 W7 ge_b
  replace N0 := Fr.snoc X7 N0 ge_b
  replace K0 : Keep h0 h7 [b, t] := K0.wr W7 (Or.inl (List.mem_of_getElem? (i := 0) rfl))
  refine OEnds.st (S' := T7.setTop (mkF m 41 #[.val (.ref b), .val (.int ch)] [(.int (ch.toInt8.toInt32)), (.int (Int32.ofNat n)), (.ref t)])) (fun _ k => ?_) ?_
  · show Steps p.tables e below (T7.setTop (mkF m 39 #[.val (.ref b), .val (.int ch)] [(.int (Int32.ofNat n)), (.ref t)])) _
    refine XS.iloadN X7.here hx rfl (hb hby d_jdk_68_31_39) rfl ?_
    show Steps p.tables e below (T7.setTop (mkF m 40 #[.val (.ref b), .val (.int ch)] [(.int ch), (.int (Int32.ofNat n)), (.ref t)])) _
    refine XS.i2b X7.here hx rfl (hb hby d_jdk_68_31_40) rfl ?_
    exact k
  obtain ⟨cl_t_8, Ar_t_8, q_t_8, S_t_8, N_t_8, H_t_8, G_t_8⟩ := V_t
  obtain ⟨T8, h8, X8, e8, W8, st8⟩ := stB X7 hx hZ e7 Ar_t_8 (j := (Int32.ofNat n)) (inb_of S_t_8 ⟨ofn_nneg hn31, (ofn_lt hn31 hc31).mpr hn⟩) (g := (mkF m 41 #[.val (.ref b), .val (.int ch)] [(.int (ch.toInt8.toInt32)), (.int (Int32.ofNat n)), (.ref t)])) rfl rfl (hb hby d_jdk_68_31_41)
  have V_t_8 : Arv Z h8 t k .byte (Int32.ofNat cN) (List.set vs n (.int (nar .byte (ch.toInt8.toInt32)))) (.int 0) := Arv.set Ar_t_8 q_t_8 S_t_8 N_t_8 H_t_8 G_t_8 (fits_nar_byte _) W8 n (ofn_clamp hn31) (by omega)
  refine OEnds.st (S' := T8.setTop (mkF m 42 #[.val (.ref b), .val (.int ch)] [])) st8 ?_
  replace E_b := E_b.wr W8
  replace F_coder_b := F_coder_b.other W8 (Or.inl ne_b_t)
  replace F_count_b := F_count_b.other W8 (Or.inl ne_b_t)
  replace F_value_b := F_value_b.other W8 (Or.inl ne_b_t)
  replace O0 : Ext Z.heap h8 := ext_wr O0 W8 ge_t
  replace N0 := Fr.snoc X8 N0 ge_t
  replace K0 : Keep h0 h8 [b, t] := K0.wr W8 (Or.inl (List.mem_of_getElem? (i := 1) rfl))
  refine OEnds.st (S' := T8.setTop (mkF m 76 #[.val (.ref b), .val (.int ch)] [(.ref b)])) (fun _ k => ?_) ?_
  · show Steps p.tables e below (T8.setTop (mkF m 42 #[.val (.ref b), .val (.int ch)] [])) _
    refine XS.goto X8.here hx rfl (pc0 := 42) (pc' := 75) rfl (hb hby d_jdk_68_31_42) (by decide) (by decide) ?_
    show Steps p.tables e below (T8.setTop (mkF m 75 #[.val (.ref b), .val (.int ch)] [])) _
    refine XS.aloadN X8.here hx rfl (hb hby d_jdk_68_31_75) rfl rfl ?_
    exact k
  rw [nar_b8] at V_t_8
  exact OEnds.ret X8 hx hret hlk rfl (Or.inr (Or.inr (Or.inr (Or.inr ⟨rfl, rfl, rfl⟩)))) (hb hby d_jdk_68_31_76) (by decide) (by decide) (by rw [e8]; exact ⟨rfl, N0, K0, E_b, F_coder_b, F_count_b, F_value_b, V_t_8⟩)
-- java/lang/StringBuilder.append:(C)Ljava/lang/StringBuilder;
def Q_sbAppC (Z : State) (b : Addr) (ch : Int32) (t : Addr) (k : ClassId) (cN n : Nat) (vs : List Value) (h0 : Heap) (v : Option Value) (h : Heap) (L : List Loc) : Prop := v = some (.ref b) ∧ Fr Z.heap.size L ∧ Keep h0 h [b, t] ∧ Exa Z h b "java/lang/StringBuilder" ∧ Fld Z h b "java/lang/AbstractStringBuilder" "coder" "B" (.int 0) ∧ Fld Z h b "java/lang/AbstractStringBuilder" "count" "I" (.int (Int32.ofNat (n + 1))) ∧ Fld Z h b "java/lang/AbstractStringBuilder" "value" "[B" (.ref t) ∧ Arv Z h t k .byte (Int32.ofNat cN) (List.set vs n (.int ch.toInt8.toInt32)) (.int 0)
theorem ef_sbAppC (m : MethodId) (b : Addr) (ch : Int32) : entryFrame m #[(.ref b), (.int ch)] 2 = mkF m 0 #[.val (.ref b), .val (.int ch)] [] := by first | (simp [entryFrame, mkF, argsToLocals, Value.category]; done) | rfl
theorem pn_3 : plainName "java/lang/StringBuilder" = true := by first | (simp [plainName, overriddenIn]; done) | decide +kernel
theorem d_jdk_67_14_0 : decode jdk_67_method_14_code 0 = .ok (.aload_n 0, 1) := by decide +kernel
theorem d_jdk_67_14_1 : decode jdk_67_method_14_code 1 = .ok (.iload_n 1, 1) := by decide +kernel
theorem d_jdk_67_14_2 : decode jdk_67_method_14_code 2 = .ok (.invokespecial 50, 3) := by decide +kernel
theorem pd_6 : parseMethodDescriptor "(C)Ljava/lang/AbstractStringBuilder;" = some ⟨[.char], some (.object "java/lang/AbstractStringBuilder")⟩ := by decide +kernel
theorem d_jdk_67_14_5 : decode jdk_67_method_14_code 5 = .ok (.pop, 1) := by decide +kernel
theorem d_jdk_67_14_6 : decode jdk_67_method_14_code 6 = .ok (.aload_n 0, 1) := by decide +kernel
theorem d_jdk_67_14_7 : decode jdk_67_method_14_code 7 = .ok (.areturn, 1) := by decide +kernel
set_option maxRecDepth 65536 in
set_option maxHeartbeats 40000000 in
theorem rm_sbAppC (l : Launch) {Z : State} {a0 : Array Value} (hD : Wd Z a0) (b : Addr) (ch : Int32) (t : Addr) (k : ClassId) (cN n : Nat) (vs : List Value) {h0 : Heap} (O0 : Ext Z.heap h0) (E_b : Exa Z h0 b "java/lang/StringBuilder") (F_coder_b : Fld Z h0 b "java/lang/AbstractStringBuilder" "coder" "B" (.int 0)) (F_count_b : Fld Z h0 b "java/lang/AbstractStringBuilder" "count" "I" (.int (Int32.ofNat n))) (F_value_b : Fld Z h0 b "java/lang/AbstractStringBuilder" "value" "[B" (.ref t)) (V_t : Arv Z h0 t k .byte (Int32.ofNat cN) vs (.int 0)) (hvs : vs.length = cN) (hcN : cN ≤ 4000) (ge_b : Z.heap.size ≤ b) (ge_t : Z.heap.size ≤ t) (ne_b_t : b ≠ t) (hn : n < cN) (hc : ¬ (255 : Int32) < ch) :
    Con l Z (⟨"java/lang/StringBuilder", "append", "(C)Ljava/lang/StringBuilder;"⟩ : MethodName) jdk_67_method_14_code 2 (some (.object "java/lang/StringBuilder")) [] ({ frames := 2, cells := 0, slots := 0, locals := 27 } : Room) #[(.ref b), (.int ch)] h0 (Q_sbAppC Z b ch t k cN n vs h0) := by
  refine Con.walk (plainFor_of_name pn_3) ?_
  intro p e s m below meth c T0 X0 hx hZ hby hml hown hnm hret hlk e0
  obtain ⟨hw, cz, S_CS, hcz⟩ := id hD
  have N0 := Fr.nil Z.heap.size
  have K0 : Keep h0 h0 [b, t] := Keep.refl _ _
  refine OEnds.cast (ef_sbAppC m b ch) ?_
  refine OEnds.st (S' := T0.setTop (mkF m 2 #[.val (.ref b), .val (.int ch)] [(.int ch), (.ref b)])) (fun _ k => ?_) ?_
  · show Steps p.tables e below (T0.setTop (mkF m 0 #[.val (.ref b), .val (.int ch)] [])) _
    refine XS.aloadN X0.here hx rfl (hb hby d_jdk_67_14_0) rfl rfl ?_
    show Steps p.tables e below (T0.setTop (mkF m 1 #[.val (.ref b), .val (.int ch)] [(.ref b)])) _
    refine XS.iloadN X0.here hx rfl (hb hby d_jdk_67_14_1) rfl ?_
    exact k
  obtain ⟨_, T1, h1, L1, X1, e1, hQ1, st1⟩ := superC X0 hx hZ (y := (⟨"java/lang/AbstractStringBuilder", "append", "(C)Ljava/lang/AbstractStringBuilder;"⟩ : MethodName)) hown (hw _ (List.mem_of_getElem? (i := 133) rfl)) (same_of (nf_sel (args := a0) (hw _ (List.mem_of_getElem? (i := 99) rfl)) rfl) (hw _ (List.mem_of_getElem? (i := 134) rfl)) (by decide)) (hw _ (List.mem_of_getElem? (i := 134) rfl)) (hw _ (List.mem_of_getElem? (i := 92) rfl)) (hw _ (List.mem_of_getElem? (i := 136) rfl)) (by decide) (kc := 0) (ks := 0) (Con.sb (W := 0) (rm_asbAppC l hD b ch t k cN n vs O0 E_b F_coder_b F_count_b F_value_b V_t hvs hcN ge_b ge_t ne_b_t hn hc) hZ (hw _ (List.mem_of_getElem? (i := 136) rfl)) (hw _ (List.mem_of_getElem? (i := 61) rfl)) (by decide) (by decide)) e0 E_b (g := (mkF m 2 #[.val (.ref b), .val (.int ch)] [(.int ch), (.ref b)])) rfl (by rw [hml]; rfl) (argsL := [(.int ch)]) (rest := []) (lenOf pd_6 rfl) rfl (by show 2 * 0 + _ ≤ _; exact Nat.le_of_eq rfl) (hb hby d_jdk_67_14_2) (by decide) (by decide)
  obtain ⟨rfl, Nq1, Kq1, Eq1, Fc1, Fn1, Fv1, V1⟩ := hQ1
  refine OEnds.st (S' := T1.setTop (mkF m 5 #[.val (.ref b), .val (.int ch)] [(.ref b)])) st1 ?_
  replace N0 := Fr.app N0 Nq1
  replace E_b := E_b.keep Kq1
  replace O0 : Ext Z.heap h1 := ext_keep O0 Kq1 (allS ge_b (allS ge_t all0))
  replace K0 : Keep h0 h1 [b, t] := K0.trans Kq1 (allS (Or.inl (List.mem_of_getElem? (i := 0) rfl)) (allS (Or.inl (List.mem_of_getElem? (i := 1) rfl)) all0))
  refine OEnds.st (S' := T1.setTop (mkF m 7 #[.val (.ref b), .val (.int ch)] [(.ref b)])) (fun _ k => ?_) ?_
  · show Steps p.tables e below (T1.setTop (mkF m 5 #[.val (.ref b), .val (.int ch)] [(.ref b)])) _
    refine XS.pop X1.here hx rfl (hb hby d_jdk_67_14_5) rfl rfl ?_
    show Steps p.tables e below (T1.setTop (mkF m 6 #[.val (.ref b), .val (.int ch)] [])) _
    refine XS.aloadN X1.here hx rfl (hb hby d_jdk_67_14_6) rfl rfl ?_
    exact k
  exact OEnds.ret X1 hx hret hlk rfl (Or.inr (Or.inr (Or.inr (Or.inr ⟨rfl, rfl, rfl⟩)))) (hb hby d_jdk_67_14_7) (by decide) (by decide) (by rw [e1]; exact ⟨rfl, N0, K0, E_b, Fc1, Fn1, Fv1, V1⟩)
-- java/lang/AbstractStringBuilder.inflateIfNeededFor:(Ljava/lang/String;)V
def Q_inflate (Z : State) (b : Addr) (a : Addr) (h0 : Heap) (v : Option Value) (h : Heap) (L : List Loc) : Prop := v = none ∧ Fr Z.heap.size L ∧ h = h0
theorem ef_inflate (m : MethodId) (b : Addr) (a : Addr) : entryFrame m #[(.ref b), (.ref a)] 2 = mkF m 0 #[.val (.ref b), .val (.ref a)] [] := by first | (simp [entryFrame, mkF, argsToLocals, Value.category]; done) | rfl
theorem d_jdk_68_71_0 : decode jdk_68_method_71_code 0 = .ok (.getstatic 18, 3) := by decide +kernel
theorem d_jdk_68_71_3 : decode jdk_68_method_71_code 3 = .ok (.ifCond .eq 18, 3) := by decide +kernel
theorem d_jdk_68_71_6 : decode jdk_68_method_71_code 6 = .ok (.aload_n 0, 1) := by decide +kernel
theorem d_jdk_68_71_7 : decode jdk_68_method_71_code 7 = .ok (.getfield 22, 3) := by decide +kernel
theorem d_jdk_68_71_10 : decode jdk_68_method_71_code 10 = .ok (.aload_n 1, 1) := by decide +kernel
theorem d_jdk_68_71_11 : decode jdk_68_method_71_code 11 = .ok (.invokevirtual 40, 3) := by decide +kernel
theorem d_jdk_68_71_14 : decode jdk_68_method_71_code 14 = .ok (.if_icmp .eq 7, 3) := by decide +kernel
theorem d_jdk_68_71_21 : decode jdk_68_method_71_code 21 = .ok (.return_, 1) := by decide +kernel
set_option maxRecDepth 65536 in
set_option maxHeartbeats 40000000 in
theorem rm_inflate (l : Launch) {Z : State} {a0 : Array Value} (hD : Wd Z a0) (b : Addr) (a : Addr) {h0 : Heap} (O0 : Ext Z.heap h0) (F_coder_b : Fld Z h0 b "java/lang/AbstractStringBuilder" "coder" "B" (.int 0)) (E_a : Exa Z h0 a "java/lang/String") (F_coder_a : Fld Z h0 a "java/lang/String" "coder" "B" (.int 0)) :
    Con l Z (⟨"java/lang/AbstractStringBuilder", "inflateIfNeededFor", "(Ljava/lang/String;)V"⟩ : MethodName) jdk_68_method_71_code 2 none [] ({ frames := 1, cells := 0, slots := 0, locals := 13 } : Room) #[(.ref b), (.ref a)] h0 (Q_inflate Z b a h0) := by
  refine Con.walk (plainFor_of_name pn_2) ?_
  intro p e s m below meth c T0 X0 hx hZ hby hml hown hnm hret hlk e0
  obtain ⟨hw, cz, S_CS, hcz⟩ := id hD
  have N0 := Fr.nil Z.heap.size
  refine OEnds.cast (ef_inflate m b a) ?_
  obtain ⟨T1, X1, e1, st1⟩ := getS2 X0 hx hZ hown (host := "") (Or.inl (hw _ (List.mem_of_getElem? (i := 111) rfl))) Via.refl e0 (S_CS.ext O0) (g := (mkF m 0 #[.val (.ref b), .val (.ref a)] [])) rfl (hb hby d_jdk_68_71_0)
  refine OEnds.st (S' := T1.setTop (mkF m 3 #[.val (.ref b), .val (.ref a)] [(.int cz)])) st1 ?_
  refine OEnds.st (S' := T1.setTop (mkF m 7 #[.val (.ref b), .val (.ref a)] [(.ref b)])) (fun _ k => ?_) ?_
  · show Steps p.tables e below (T1.setTop (mkF m 3 #[.val (.ref b), .val (.ref a)] [(.int cz)])) _
    refine XS.ifNo X1.here hx rfl (hb hby d_jdk_68_71_3) rfl ((if0 _ _).trans (feq hcz).1) ?_
    show Steps p.tables e below (T1.setTop (mkF m 6 #[.val (.ref b), .val (.ref a)] [])) _
    refine XS.aloadN X1.here hx rfl (hb hby d_jdk_68_71_6) rfl rfl ?_
    exact k
  obtain ⟨T2, X2, e2, st2⟩ := getF X1 hx hZ hown (host := "") (Or.inl (hw _ (List.mem_of_getElem? (i := 76) rfl))) Via.refl e1 F_coder_b (g := (mkF m 7 #[.val (.ref b), .val (.ref a)] [(.ref b)])) rfl rfl (hb hby d_jdk_68_71_7)
  refine OEnds.st (S' := T2.setTop (mkF m 10 #[.val (.ref b), .val (.ref a)] [(.int (0 : Int32))])) st2 ?_
  refine OEnds.st (S' := T2.setTop (mkF m 11 #[.val (.ref b), .val (.ref a)] [(.ref a), (.int (0 : Int32))])) (fun _ k => ?_) ?_
  · show Steps p.tables e below (T2.setTop (mkF m 10 #[.val (.ref b), .val (.ref a)] [(.int (0 : Int32))])) _
    refine XS.aloadN X2.here hx rfl (hb hby d_jdk_68_71_10) rfl rfl ?_
    exact k
  obtain ⟨_, T3, h3, L3, X3, e3, hQ3, st3⟩ := virtC X2 hx hZ (y := (⟨"java/lang/String", "coder", "()B"⟩ : MethodName)) (z := (⟨"java/lang/String", "coder", "()B"⟩ : MethodName)) hown (hw _ (List.mem_of_getElem? (i := 75) rfl)) (hw _ (List.mem_of_getElem? (i := 70) rfl)) (nf_sel (args := #[]) (mvT hZ (hw _ (List.mem_of_getElem? (i := 67) rfl))) rfl) (hw _ (List.mem_of_getElem? (i := 72) rfl)) (hw _ (List.mem_of_getElem? (i := 71) rfl)) (by decide) (kc := 0) (ks := 0) (Con.sb (W := 1) (rm_coder l hD a O0 F_coder_a) hZ (hw _ (List.mem_of_getElem? (i := 73) rfl)) (hw _ (List.mem_of_getElem? (i := 2) rfl)) (by decide) (by decide)) e2 E_a (g := (mkF m 11 #[.val (.ref b), .val (.ref a)] [(.ref a), (.int (0 : Int32))])) rfl (by rw [hml]; rfl) (argsL := []) (rest := [(.int (0 : Int32))]) (lenOf pd_3 rfl) rfl (by show 2 * 0 + _ ≤ _; exact Nat.le_of_eq rfl) (hb hby d_jdk_68_71_11) (by decide) (by decide)
  obtain ⟨rfl, Nq3, Hq3⟩ := hQ3
  refine OEnds.st (S' := T3.setTop (mkF m 14 #[.val (.ref b), .val (.ref a)] [(.int (0 : Int32)), (.int (0 : Int32))])) st3 ?_
  replace N0 := Fr.app N0 Nq3
  replace e3 := e3.trans Hq3
  refine OEnds.st (S' := T3.setTop (mkF m 21 #[.val (.ref b), .val (.ref a)] [])) (fun _ k => ?_) ?_
  · show Steps p.tables e below (T3.setTop (mkF m 14 #[.val (.ref b), .val (.ref a)] [(.int (0 : Int32)), (.int (0 : Int32))])) _
    refine XS.icmpYes X3.here hx rfl (pc0 := 14) (pc' := 21) rfl (hb hby d_jdk_68_71_14) rfl (teq (by decide)).1 (by decide) (by decide) ?_
    exact k
  exact OEnds.retV X3 hx hret hlk (hb hby d_jdk_68_71_21) (by decide) (by decide) (by rw [e3]; exact ⟨rfl, N0, rfl⟩)
-- java/lang/String.getBytes:([BIB)V
def Q_getBytes (Z : State) (a : Addr) (t : Addr) (k : ClassId) (cN n : Nat) (vs : List Value) (ts : Addr) (ks : ClassId) (sN : Nat) (us : List Value) (h0 : Heap) (v : Option Value) (h : Heap) (L : List Loc) : Prop := v = none ∧ Fr Z.heap.size L ∧ Keep h0 h [t] ∧ Arv Z h t k .byte (Int32.ofNat cN) (vs.take n ++ us ++ vs.drop (n + sN)) (.int 0)
theorem ef_getBytes (m : MethodId) (a : Addr) (t : Addr) : entryFrame m #[(.ref a), (.ref t), (.int (Int32.ofNat n)), (.int (0 : Int32))] 4 = mkF m 0 #[.val (.ref a), .val (.ref t), .val (.int (Int32.ofNat n)), .val (.int (0 : Int32))] [] := by first | (simp [entryFrame, mkF, argsToLocals, Value.category]; done) | rfl
theorem d_jdk_42_147_0 : decode jdk_42_method_147_code 0 = .ok (.aload_n 0, 1) := by decide +kernel
theorem d_jdk_42_147_1 : decode jdk_42_method_147_code 1 = .ok (.invokevirtual 335, 3) := by decide +kernel
theorem d_jdk_42_147_4 : decode jdk_42_method_147_code 4 = .ok (.iload_n 3, 1) := by decide +kernel
theorem d_jdk_42_147_5 : decode jdk_42_method_147_code 5 = .ok (.if_icmp .ne 23, 3) := by decide +kernel
theorem d_jdk_42_147_8 : decode jdk_42_method_147_code 8 = .ok (.aload_n 0, 1) := by decide +kernel
theorem d_jdk_42_147_9 : decode jdk_42_method_147_code 9 = .ok (.getfield 9, 3) := by decide +kernel
theorem d_jdk_42_147_12 : decode jdk_42_method_147_code 12 = .ok (.iconst 0, 1) := by decide +kernel
theorem d_jdk_42_147_13 : decode jdk_42_method_147_code 13 = .ok (.aload_n 1, 1) := by decide +kernel
theorem d_jdk_42_147_14 : decode jdk_42_method_147_code 14 = .ok (.iload_n 2, 1) := by decide +kernel
theorem d_jdk_42_147_15 : decode jdk_42_method_147_code 15 = .ok (.iload_n 3, 1) := by decide +kernel
theorem d_jdk_42_147_16 : decode jdk_42_method_147_code 16 = .ok (.ishl, 1) := by decide +kernel
theorem d_jdk_42_147_17 : decode jdk_42_method_147_code 17 = .ok (.aload_n 0, 1) := by decide +kernel
theorem d_jdk_42_147_18 : decode jdk_42_method_147_code 18 = .ok (.getfield 9, 3) := by decide +kernel
theorem d_jdk_42_147_21 : decode jdk_42_method_147_code 21 = .ok (.arraylength, 1) := by decide +kernel
theorem d_jdk_42_147_22 : decode jdk_42_method_147_code 22 = .ok (.invokestatic 212, 3) := by decide +kernel
theorem d_jdk_42_147_25 : decode jdk_42_method_147_code 25 = .ok (.goto 18, 3) := by decide +kernel
theorem d_jdk_42_147_43 : decode jdk_42_method_147_code 43 = .ok (.return_, 1) := by decide +kernel
set_option maxRecDepth 65536 in
set_option maxHeartbeats 40000000 in
theorem rm_getBytes (l : Launch) {Z : State} {a0 : Array Value} (hD : Wd Z a0) (a : Addr) (t : Addr) (k : ClassId) (cN n : Nat) (vs : List Value) (ts : Addr) (ks : ClassId) (sN : Nat) (us : List Value) {h0 : Heap} (O0 : Ext Z.heap h0) (E_a : Exa Z h0 a "java/lang/String") (F_coder_a : Fld Z h0 a "java/lang/String" "coder" "B" (.int 0)) (F_value_a : Fld Z h0 a "java/lang/String" "value" "[B" (.ref ts)) (V_ts : Arv Z h0 ts ks .byte (Int32.ofNat sN) us (.int 0)) (V_t : Arv Z h0 t k .byte (Int32.ofNat cN) vs (.int 0)) (hvs : vs.length = cN) (hcN : cN ≤ 4000) (hus : us.length = sN) (hroom : n + sN ≤ cN) (ge_t : Z.heap.size ≤ t) :
    Con l Z (⟨"java/lang/String", "getBytes", "([BIB)V"⟩ : MethodName) jdk_42_method_147_code 4 none [] ({ frames := 1, cells := 0, slots := 0, locals := 18 } : Room) #[(.ref a), (.ref t), (.int (Int32.ofNat n)), (.int (0 : Int32))] h0 (Q_getBytes Z a t k cN n vs ts ks sN us h0) := by
  refine Con.walk (plainFor_of_name pn_1) ?_
  intro p e s m below meth c T0 X0 hx hZ hby hml hown hnm hret hlk e0
  obtain ⟨hw, cz, S_CS, hcz⟩ := id hD
  have N0 := Fr.nil Z.heap.size
  have K0 : Keep h0 h0 [t] := Keep.refl _ _
  refine OEnds.cast (ef_getBytes m a t) ?_
  have hn31 : n < 2 ^ 31 := by omega
  have hc31 : cN < 2 ^ 31 := by omega
  have hs31 : sN < 2 ^ 31 := by omega
  refine OEnds.st (S' := T0.setTop (mkF m 1 #[.val (.ref a), .val (.ref t), .val (.int (Int32.ofNat n)), .val (.int (0 : Int32))] [(.ref a)])) (fun _ k => ?_) ?_
  · show Steps p.tables e below (T0.setTop (mkF m 0 #[.val (.ref a), .val (.ref t), .val (.int (Int32.ofNat n)), .val (.int (0 : Int32))] [])) _
    refine XS.aloadN X0.here hx rfl (hb hby d_jdk_42_147_0) rfl rfl ?_
    exact k
  obtain ⟨_, T1, h1, L1, X1, e1, hQ1, st1⟩ := virtC X0 hx hZ (y := (⟨"java/lang/String", "coder", "()B"⟩ : MethodName)) (z := (⟨"java/lang/String", "coder", "()B"⟩ : MethodName)) hown (hw _ (List.mem_of_getElem? (i := 69) rfl)) (hw _ (List.mem_of_getElem? (i := 70) rfl)) (nf_sel (args := #[]) (mvT hZ (hw _ (List.mem_of_getElem? (i := 67) rfl))) rfl) (hw _ (List.mem_of_getElem? (i := 72) rfl)) (hw _ (List.mem_of_getElem? (i := 71) rfl)) (by decide) (kc := 0) (ks := 0) (Con.sb (W := 0) (rm_coder l hD a O0 F_coder_a) hZ (hw _ (List.mem_of_getElem? (i := 73) rfl)) (hw _ (List.mem_of_getElem? (i := 2) rfl)) (by decide) (by decide)) e0 E_a (g := (mkF m 1 #[.val (.ref a), .val (.ref t), .val (.int (Int32.ofNat n)), .val (.int (0 : Int32))] [(.ref a)])) rfl (by rw [hml]; rfl) (argsL := []) (rest := []) (lenOf pd_3 rfl) rfl (by show 2 * 0 + _ ≤ _; exact Nat.le_of_eq rfl) (hb hby d_jdk_42_147_1) (by decide) (by decide)
  obtain ⟨rfl, Nq1, Hq1⟩ := hQ1
  refine OEnds.st (S' := T1.setTop (mkF m 4 #[.val (.ref a), .val (.ref t), .val (.int (Int32.ofNat n)), .val (.int (0 : Int32))] [(.int (0 : Int32))])) st1 ?_
  replace N0 := Fr.app N0 Nq1
  replace e1 := e1.trans Hq1
  refine OEnds.st (S' := T1.setTop (mkF m 9 #[.val (.ref a), .val (.ref t), .val (.int (Int32.ofNat n)), .val (.int (0 : Int32))] [(.ref a)])) (fun _ k => ?_) ?_
  · show Steps p.tables e below (T1.setTop (mkF m 4 #[.val (.ref a), .val (.ref t), .val (.int (Int32.ofNat n)), .val (.int (0 : Int32))] [(.int (0 : Int32))])) _
    refine XS.iloadN X1.here hx rfl (hb hby d_jdk_42_147_4) rfl ?_
    show Steps p.tables e below (T1.setTop (mkF m 5 #[.val (.ref a), .val (.ref t), .val (.int (Int32.ofNat n)), .val (.int (0 : Int32))] [(.int (0 : Int32)), (.int (0 : Int32))])) _
    refine XS.icmpNo X1.here hx rfl (hb hby d_jdk_42_147_5) rfl (teq (by decide)).2 ?_
    show Steps p.tables e below (T1.setTop (mkF m 8 #[.val (.ref a), .val (.ref t), .val (.int (Int32.ofNat n)), .val (.int (0 : Int32))] [])) _
    refine XS.aloadN X1.here hx rfl (hb hby d_jdk_42_147_8) rfl rfl ?_
    exact k
  obtain ⟨T2, X2, e2, st2⟩ := getF X1 hx hZ hown (host := "") (Or.inl (hw _ (List.mem_of_getElem? (i := 28) rfl))) Via.refl e1 F_value_a (g := (mkF m 9 #[.val (.ref a), .val (.ref t), .val (.int (Int32.ofNat n)), .val (.int (0 : Int32))] [(.ref a)])) rfl rfl (hb hby d_jdk_42_147_9)
  refine OEnds.st (S' := T2.setTop (mkF m 12 #[.val (.ref a), .val (.ref t), .val (.int (Int32.ofNat n)), .val (.int (0 : Int32))] [(.ref ts)])) st2 ?_
  refine OEnds.st (S' := T2.setTop (mkF m 18 #[.val (.ref a), .val (.ref t), .val (.int (Int32.ofNat n)), .val (.int (0 : Int32))] [(.ref a), (.int (Int32.ofNat n)), (.ref t), (.int (0 : Int32)), (.ref ts)])) (fun _ k => ?_) ?_
  · show Steps p.tables e below (T2.setTop (mkF m 12 #[.val (.ref a), .val (.ref t), .val (.int (Int32.ofNat n)), .val (.int (0 : Int32))] [(.ref ts)])) _
    refine XS.iconst X2.here hx rfl (hb hby d_jdk_42_147_12) ?_
    show Steps p.tables e below (T2.setTop (mkF m 13 #[.val (.ref a), .val (.ref t), .val (.int (Int32.ofNat n)), .val (.int (0 : Int32))] [(.int (0 : Int32)), (.ref ts)])) _
    refine XS.aloadN X2.here hx rfl (hb hby d_jdk_42_147_13) rfl rfl ?_
    show Steps p.tables e below (T2.setTop (mkF m 14 #[.val (.ref a), .val (.ref t), .val (.int (Int32.ofNat n)), .val (.int (0 : Int32))] [(.ref t), (.int (0 : Int32)), (.ref ts)])) _
    refine XS.iloadN X2.here hx rfl (hb hby d_jdk_42_147_14) rfl ?_
    show Steps p.tables e below (T2.setTop (mkF m 15 #[.val (.ref a), .val (.ref t), .val (.int (Int32.ofNat n)), .val (.int (0 : Int32))] [(.int (Int32.ofNat n)), (.ref t), (.int (0 : Int32)), (.ref ts)])) _
    refine XS.iloadN X2.here hx rfl (hb hby d_jdk_42_147_15) rfl ?_
    show Steps p.tables e below (T2.setTop (mkF m 16 #[.val (.ref a), .val (.ref t), .val (.int (Int32.ofNat n)), .val (.int (0 : Int32))] [(.int (0 : Int32)), (.int (Int32.ofNat n)), (.ref t), (.int (0 : Int32)), (.ref ts)])) _
    refine XS.ishl X2.here hx rfl (hb hby d_jdk_42_147_16) rfl ?_
    rw [shl0 (Int32.ofNat n)]
    show Steps p.tables e below (T2.setTop (mkF m 17 #[.val (.ref a), .val (.ref t), .val (.int (Int32.ofNat n)), .val (.int (0 : Int32))] [(.int (Int32.ofNat n)), (.ref t), (.int (0 : Int32)), (.ref ts)])) _
    refine XS.aloadN X2.here hx rfl (hb hby d_jdk_42_147_17) rfl rfl ?_
    exact k
  obtain ⟨T3, X3, e3, st3⟩ := getF X2 hx hZ hown (host := "") (Or.inl (hw _ (List.mem_of_getElem? (i := 28) rfl))) Via.refl e2 F_value_a (g := (mkF m 18 #[.val (.ref a), .val (.ref t), .val (.int (Int32.ofNat n)), .val (.int (0 : Int32))] [(.ref a), (.int (Int32.ofNat n)), (.ref t), (.int (0 : Int32)), (.ref ts)])) rfl rfl (hb hby d_jdk_42_147_18)
  refine OEnds.st (S' := T3.setTop (mkF m 21 #[.val (.ref a), .val (.ref t), .val (.int (Int32.ofNat n)), .val (.int (0 : Int32))] [(.ref ts), (.int (Int32.ofNat n)), (.ref t), (.int (0 : Int32)), (.ref ts)])) st3 ?_
  obtain ⟨cl_ts_4, Ar_ts_4, q_ts_4, S_ts_4, N_ts_4, H_ts_4, G_ts_4⟩ := id V_ts
  refine OEnds.st (S' := T3.setTop (mkF m 22 #[.val (.ref a), .val (.ref t), .val (.int (Int32.ofNat n)), .val (.int (0 : Int32))] [(.int (Int32.ofNat sN)), (.int (Int32.ofNat n)), (.ref t), (.int (0 : Int32)), (.ref ts)])) (fun tg kk => X3.arraylength hx (by rw [e3]; exact Ar_ts_4.1) (State.isArrayOf_alike hZ.alike Ar_ts_4.2.1) (g := (mkF m 21 #[.val (.ref a), .val (.ref t), .val (.int (Int32.ofNat n)), .val (.int (0 : Int32))] [(.ref ts), (.int (Int32.ofNat n)), (.ref t), (.int (0 : Int32)), (.ref ts)])) rfl rfl (hb hby d_jdk_42_147_21) tg (by rw [len_of S_ts_4 N_ts_4]; exact kk)) ?_
  obtain ⟨T5, h5, L5, X5, e5, Nw5, Kq5, V5, st5⟩ := cpA X3 hx hZ hown (hw _ (List.mem_of_getElem? (i := 117) rfl)) (hw _ (List.mem_of_getElem? (i := 120) rfl)) (hw _ (List.mem_of_getElem? (i := 118) rfl)) (hw _ (List.mem_of_getElem? (i := 119) rfl)) e3 V_ts V_t (us := _) (Or.inl ⟨rfl, rfl⟩) (by decide) (ofn_nneg hn31) (ofn_nneg hs31) (by rw [ofn_clamp hs31]; exact Nat.le_of_eq (Nat.zero_add _)) (by rw [ofn_clamp hn31, ofn_clamp hs31, ofn_clamp hc31]; exact hroom) rfl (by rw [ofn_clamp hn31, ofn_clamp hs31, hvs]; exact hroom) N0 ge_t (g := (mkF m 22 #[.val (.ref a), .val (.ref t), .val (.int (Int32.ofNat n)), .val (.int (0 : Int32))] [(.int (Int32.ofNat sN)), (.int (Int32.ofNat n)), (.ref t), (.int (0 : Int32)), (.ref ts)])) rfl (by rw [hml]; rfl) rfl (hb hby d_jdk_42_147_22) (by decide) (W := 0) (by show 2 * 0 + _ ≤ _; exact Nat.le_of_eq rfl) (by decide)
  replace N0 := Nw5
  refine OEnds.st (S' := T5.setTop (mkF m 25 #[.val (.ref a), .val (.ref t), .val (.int (Int32.ofNat n)), .val (.int (0 : Int32))] [])) st5 ?_
  have ne_a_t : a ≠ t := ne_arv E_a (hw _ (List.mem_of_getElem? (i := 1) rfl)) V_t
  replace E_a := E_a.keep Kq5
  replace F_coder_a := F_coder_a.keep Kq5 (ninS ne_a_t nin0)
  replace F_value_a := F_value_a.keep Kq5 (ninS ne_a_t nin0)
  replace O0 : Ext Z.heap h5 := ext_keep O0 Kq5 (allS ge_t all0)
  replace K0 : Keep h0 h5 [t] := K0.trans Kq5 (allS (Or.inl (List.mem_of_getElem? (i := 0) rfl)) all0)
  have V_t_5 : Arv Z h5 t k .byte (Int32.ofNat cN) (vs.take n ++ us ++ vs.drop (n + sN)) (.int 0) := by rw [← (cp_list hus hn31 hs31)]; exact V5
  refine OEnds.st (S' := T5.setTop (mkF m 43 #[.val (.ref a), .val (.ref t), .val (.int (Int32.ofNat n)), .val (.int (0 : Int32))] [])) (fun _ k => ?_) ?_
  · show Steps p.tables e below (T5.setTop (mkF m 25 #[.val (.ref a), .val (.ref t), .val (.int (Int32.ofNat n)), .val (.int (0 : Int32))] [])) _
    refine XS.goto X5.here hx rfl (pc0 := 25) (pc' := 43) rfl (hb hby d_jdk_42_147_25) (by decide) (by decide) ?_
    exact k
  exact OEnds.retV X5 hx hret hlk (hb hby d_jdk_42_147_43) (by decide) (by decide) (by rw [e5]; exact ⟨rfl, N0, K0, V_t_5⟩)
-- java/lang/AbstractStringBuilder.putStringAt:(ILjava/lang/String;)V
def Q_putStr (Z : State) (b : Addr) (a : Addr) (t : Addr) (k : ClassId) (cN n : Nat) (vs : List Value) (ts : Addr) (ks : ClassId) (sN : Nat) (us : List Value) (h0 : Heap) (v : Option Value) (h : Heap) (L : List Loc) : Prop := v = none ∧ Fr Z.heap.size L ∧ Keep h0 h [t] ∧ Exa Z h b "java/lang/StringBuilder" ∧ Fld Z h b "java/lang/AbstractStringBuilder" "coder" "B" (.int 0) ∧ Fld Z h b "java/lang/AbstractStringBuilder" "count" "I" (.int (Int32.ofNat n)) ∧ Fld Z h b "java/lang/AbstractStringBuilder" "value" "[B" (.ref t) ∧ Arv Z h t k .byte (Int32.ofNat cN) (vs.take n ++ us ++ vs.drop (n + sN)) (.int 0)
theorem ef_putStr (m : MethodId) (b : Addr) (a : Addr) : entryFrame m #[(.ref b), (.int (Int32.ofNat n)), (.ref a)] 3 = mkF m 0 #[.val (.ref b), .val (.int (Int32.ofNat n)), .val (.ref a)] [] := by first | (simp [entryFrame, mkF, argsToLocals, Value.category]; done) | rfl
theorem d_jdk_68_73_0 : decode jdk_68_method_73_code 0 = .ok (.aload_n 0, 1) := by decide +kernel
theorem d_jdk_68_73_1 : decode jdk_68_method_73_code 1 = .ok (.aload_n 2, 1) := by decide +kernel
theorem d_jdk_68_73_2 : decode jdk_68_method_73_code 2 = .ok (.invokevirtual 397, 3) := by decide +kernel
theorem pd_7 : parseMethodDescriptor "(Ljava/lang/String;)V" = some ⟨[(.object "java/lang/String")], none⟩ := by decide +kernel
theorem d_jdk_68_73_5 : decode jdk_68_method_73_code 5 = .ok (.aload_n 2, 1) := by decide +kernel
theorem d_jdk_68_73_6 : decode jdk_68_method_73_code 6 = .ok (.aload_n 0, 1) := by decide +kernel
theorem d_jdk_68_73_7 : decode jdk_68_method_73_code 7 = .ok (.getfield 15, 3) := by decide +kernel
theorem d_jdk_68_73_10 : decode jdk_68_method_73_code 10 = .ok (.iload_n 1, 1) := by decide +kernel
theorem d_jdk_68_73_11 : decode jdk_68_method_73_code 11 = .ok (.aload_n 0, 1) := by decide +kernel
theorem d_jdk_68_73_12 : decode jdk_68_method_73_code 12 = .ok (.getfield 22, 3) := by decide +kernel
theorem d_jdk_68_73_15 : decode jdk_68_method_73_code 15 = .ok (.invokevirtual 399, 3) := by decide +kernel
theorem pd_8 : parseMethodDescriptor "([BIB)V" = some ⟨[(.array .byte), .int, .byte], none⟩ := by decide +kernel
theorem d_jdk_68_73_18 : decode jdk_68_method_73_code 18 = .ok (.return_, 1) := by decide +kernel
set_option maxRecDepth 65536 in
set_option maxHeartbeats 40000000 in
theorem rm_putStr (l : Launch) {Z : State} {a0 : Array Value} (hD : Wd Z a0) (b : Addr) (a : Addr) (t : Addr) (k : ClassId) (cN n : Nat) (vs : List Value) (ts : Addr) (ks : ClassId) (sN : Nat) (us : List Value) {h0 : Heap} (O0 : Ext Z.heap h0) (E_b : Exa Z h0 b "java/lang/StringBuilder") (F_coder_b : Fld Z h0 b "java/lang/AbstractStringBuilder" "coder" "B" (.int 0)) (F_count_b : Fld Z h0 b "java/lang/AbstractStringBuilder" "count" "I" (.int (Int32.ofNat n))) (F_value_b : Fld Z h0 b "java/lang/AbstractStringBuilder" "value" "[B" (.ref t)) (V_t : Arv Z h0 t k .byte (Int32.ofNat cN) vs (.int 0)) (E_a : Exa Z h0 a "java/lang/String") (F_coder_a : Fld Z h0 a "java/lang/String" "coder" "B" (.int 0)) (F_value_a : Fld Z h0 a "java/lang/String" "value" "[B" (.ref ts)) (V_ts : Arv Z h0 ts ks .byte (Int32.ofNat sN) us (.int 0)) (hvs : vs.length = cN) (hcN : cN ≤ 4000) (hus : us.length = sN) (hroom : n + sN ≤ cN) (ge_b : Z.heap.size ≤ b) (ge_t : Z.heap.size ≤ t) (ne_b_t : b ≠ t) :
    Con l Z (⟨"java/lang/AbstractStringBuilder", "putStringAt", "(ILjava/lang/String;)V"⟩ : MethodName) jdk_68_method_73_code 3 none [] ({ frames := 2, cells := 0, slots := 0, locals := 33 } : Room) #[(.ref b), (.int (Int32.ofNat n)), (.ref a)] h0 (Q_putStr Z b a t k cN n vs ts ks sN us h0) := by
  refine Con.walk (plainFor_of_name pn_2) ?_
  intro p e s m below meth c T0 X0 hx hZ hby hml hown hnm hret hlk e0
  obtain ⟨hw, cz, S_CS, hcz⟩ := id hD
  have N0 := Fr.nil Z.heap.size
  have K0 : Keep h0 h0 [t] := Keep.refl _ _
  refine OEnds.cast (ef_putStr m b a) ?_
  refine OEnds.st (S' := T0.setTop (mkF m 2 #[.val (.ref b), .val (.int (Int32.ofNat n)), .val (.ref a)] [(.ref a), (.ref b)])) (fun _ k => ?_) ?_
  · show Steps p.tables e below (T0.setTop (mkF m 0 #[.val (.ref b), .val (.int (Int32.ofNat n)), .val (.ref a)] [])) _
    refine XS.aloadN X0.here hx rfl (hb hby d_jdk_68_73_0) rfl rfl ?_
    show Steps p.tables e below (T0.setTop (mkF m 1 #[.val (.ref b), .val (.int (Int32.ofNat n)), .val (.ref a)] [(.ref b)])) _
    refine XS.aloadN X0.here hx rfl (hb hby d_jdk_68_73_1) rfl rfl ?_
    exact k
  obtain ⟨_, T1, h1, L1, X1, e1, hQ1, st1⟩ := virtC X0 hx hZ (y := (⟨"java/lang/AbstractStringBuilder", "inflateIfNeededFor", "(Ljava/lang/String;)V"⟩ : MethodName)) (z := (⟨"java/lang/AbstractStringBuilder", "inflateIfNeededFor", "(Ljava/lang/String;)V"⟩ : MethodName)) hown (hw _ (List.mem_of_getElem? (i := 106) rfl)) (decl_of (hw _ (List.mem_of_getElem? (i := 107) rfl)) (hw _ (List.mem_of_getElem? (i := 110) rfl))) (nf_sel (args := #[]) (mvT hZ (hw _ (List.mem_of_getElem? (i := 99) rfl))) rfl) (hw _ (List.mem_of_getElem? (i := 109) rfl)) (hw _ (List.mem_of_getElem? (i := 107) rfl)) (by decide) (kc := 0) (ks := 0) (Con.sb (W := 0) (rm_inflate l hD b a O0 F_coder_b E_a F_coder_a) hZ (hw _ (List.mem_of_getElem? (i := 110) rfl)) (hw _ (List.mem_of_getElem? (i := 61) rfl)) (by decide) (by decide)) e0 E_b (g := (mkF m 2 #[.val (.ref b), .val (.int (Int32.ofNat n)), .val (.ref a)] [(.ref a), (.ref b)])) rfl (by rw [hml]; rfl) (argsL := [(.ref a)]) (rest := []) (lenOf pd_7 rfl) rfl (by show 2 * 0 + _ ≤ _; exact Nat.le_of_eq rfl) (hb hby d_jdk_68_73_2) (by decide) (by decide)
  obtain ⟨rfl, Nq1, Hq1⟩ := hQ1
  refine OEnds.st (S' := T1.setTop (mkF m 5 #[.val (.ref b), .val (.int (Int32.ofNat n)), .val (.ref a)] [])) st1 ?_
  replace N0 := Fr.app N0 Nq1
  replace e1 := e1.trans Hq1
  refine OEnds.st (S' := T1.setTop (mkF m 7 #[.val (.ref b), .val (.int (Int32.ofNat n)), .val (.ref a)] [(.ref b), (.ref a)])) (fun _ k => ?_) ?_
  · show Steps p.tables e below (T1.setTop (mkF m 5 #[.val (.ref b), .val (.int (Int32.ofNat n)), .val (.ref a)] [])) _
    refine XS.aloadN X1.here hx rfl (hb hby d_jdk_68_73_5) rfl rfl ?_
    show Steps p.tables e below (T1.setTop (mkF m 6 #[.val (.ref b), .val (.int (Int32.ofNat n)), .val (.ref a)] [(.ref a)])) _
    refine XS.aloadN X1.here hx rfl (hb hby d_jdk_68_73_6) rfl rfl ?_
    exact k
  obtain ⟨T2, X2, e2, st2⟩ := getF X1 hx hZ hown (host := "") (Or.inl (hw _ (List.mem_of_getElem? (i := 78) rfl))) Via.refl e1 F_value_b (g := (mkF m 7 #[.val (.ref b), .val (.int (Int32.ofNat n)), .val (.ref a)] [(.ref b), (.ref a)])) rfl rfl (hb hby d_jdk_68_73_7)
  refine OEnds.st (S' := T2.setTop (mkF m 10 #[.val (.ref b), .val (.int (Int32.ofNat n)), .val (.ref a)] [(.ref t), (.ref a)])) st2 ?_
  refine OEnds.st (S' := T2.setTop (mkF m 12 #[.val (.ref b), .val (.int (Int32.ofNat n)), .val (.ref a)] [(.ref b), (.int (Int32.ofNat n)), (.ref t), (.ref a)])) (fun _ k => ?_) ?_
  · show Steps p.tables e below (T2.setTop (mkF m 10 #[.val (.ref b), .val (.int (Int32.ofNat n)), .val (.ref a)] [(.ref t), (.ref a)])) _
    refine XS.iloadN X2.here hx rfl (hb hby d_jdk_68_73_10) rfl ?_
    show Steps p.tables e below (T2.setTop (mkF m 11 #[.val (.ref b), .val (.int (Int32.ofNat n)), .val (.ref a)] [(.int (Int32.ofNat n)), (.ref t), (.ref a)])) _
    refine XS.aloadN X2.here hx rfl (hb hby d_jdk_68_73_11) rfl rfl ?_
    exact k
  obtain ⟨T3, X3, e3, st3⟩ := getF X2 hx hZ hown (host := "") (Or.inl (hw _ (List.mem_of_getElem? (i := 76) rfl))) Via.refl e2 F_coder_b (g := (mkF m 12 #[.val (.ref b), .val (.int (Int32.ofNat n)), .val (.ref a)] [(.ref b), (.int (Int32.ofNat n)), (.ref t), (.ref a)])) rfl rfl (hb hby d_jdk_68_73_12)
  refine OEnds.st (S' := T3.setTop (mkF m 15 #[.val (.ref b), .val (.int (Int32.ofNat n)), .val (.ref a)] [(.int (0 : Int32)), (.int (Int32.ofNat n)), (.ref t), (.ref a)])) st3 ?_
  obtain ⟨_, T4, h4, L4, X4, e4, hQ4, st4⟩ := virtC X3 hx hZ (y := (⟨"java/lang/String", "getBytes", "([BIB)V"⟩ : MethodName)) (z := (⟨"java/lang/String", "getBytes", "([BIB)V"⟩ : MethodName)) hown (hw _ (List.mem_of_getElem? (i := 112) rfl)) (hw _ (List.mem_of_getElem? (i := 113) rfl)) (nf_sel (args := #[]) (mvT hZ (hw _ (List.mem_of_getElem? (i := 67) rfl))) rfl) (hw _ (List.mem_of_getElem? (i := 115) rfl)) (hw _ (List.mem_of_getElem? (i := 114) rfl)) (by decide) (kc := 0) (ks := 0) (Con.sb (W := 0) (rm_getBytes l hD a t k cN n vs ts ks sN us O0 E_a F_coder_a F_value_a V_ts V_t hvs hcN hus hroom ge_t) hZ (hw _ (List.mem_of_getElem? (i := 116) rfl)) (hw _ (List.mem_of_getElem? (i := 2) rfl)) (by decide) (by decide)) e3 E_a (g := (mkF m 15 #[.val (.ref b), .val (.int (Int32.ofNat n)), .val (.ref a)] [(.int (0 : Int32)), (.int (Int32.ofNat n)), (.ref t), (.ref a)])) rfl (by rw [hml]; rfl) (argsL := [(.ref t), (.int (Int32.ofNat n)), (.int (0 : Int32))]) (rest := []) (lenOf pd_8 rfl) rfl (by show 2 * 0 + _ ≤ _; exact Nat.le_of_eq rfl) (hb hby d_jdk_68_73_15) (by decide) (by decide)
  obtain ⟨rfl, Nq4, Kq4, V4⟩ := hQ4
  refine OEnds.st (S' := T4.setTop (mkF m 18 #[.val (.ref b), .val (.int (Int32.ofNat n)), .val (.ref a)] [])) st4 ?_
  replace N0 := Fr.app N0 Nq4
  have ne_a_t : a ≠ t := ne_arv E_a (hw _ (List.mem_of_getElem? (i := 1) rfl)) V_t
  replace E_b := E_b.keep Kq4
  replace F_coder_b := F_coder_b.keep Kq4 (ninS ne_b_t nin0)
  replace F_count_b := F_count_b.keep Kq4 (ninS ne_b_t nin0)
  replace F_value_b := F_value_b.keep Kq4 (ninS ne_b_t nin0)
  replace E_a := E_a.keep Kq4
  replace F_coder_a := F_coder_a.keep Kq4 (ninS ne_a_t nin0)
  replace F_value_a := F_value_a.keep Kq4 (ninS ne_a_t nin0)
  replace O0 : Ext Z.heap h4 := ext_keep O0 Kq4 (allS ge_t all0)
  replace K0 : Keep h0 h4 [t] := K0.trans Kq4 (allS (Or.inl (List.mem_of_getElem? (i := 0) rfl)) all0)
  exact OEnds.retV X4 hx hret hlk (hb hby d_jdk_68_73_18) (by decide) (by decide) (by rw [e4]; exact ⟨rfl, N0, K0, E_b, F_coder_b, F_count_b, F_value_b, V4⟩)
-- java/lang/AbstractStringBuilder.append:(Ljava/lang/String;)Ljava/lang/AbstractStringBuilder;
def Q_asbAppS (Z : State) (b : Addr) (a : Addr) (t : Addr) (k : ClassId) (cN n : Nat) (vs : List Value) (ts : Addr) (ks : ClassId) (sN : Nat) (us : List Value) (h0 : Heap) (v : Option Value) (h : Heap) (L : List Loc) : Prop := v = some (.ref b) ∧ Fr Z.heap.size L ∧ Keep h0 h [b, t] ∧ Exa Z h b "java/lang/StringBuilder" ∧ Fld Z h b "java/lang/AbstractStringBuilder" "coder" "B" (.int 0) ∧ Fld Z h b "java/lang/AbstractStringBuilder" "count" "I" (.int (Int32.ofNat (n + sN))) ∧ Fld Z h b "java/lang/AbstractStringBuilder" "value" "[B" (.ref t) ∧ Arv Z h t k .byte (Int32.ofNat cN) (vs.take n ++ us ++ vs.drop (n + sN)) (.int 0)
theorem ef_asbAppS (m : MethodId) (b : Addr) (a : Addr) : entryFrame m #[(.ref b), (.ref a)] 3 = mkF m 0 #[.val (.ref b), .val (.ref a), .unset] [] := by first | (simp [entryFrame, mkF, argsToLocals, Value.category]; done) | rfl
theorem d_jdk_68_22_0 : decode jdk_68_method_22_code 0 = .ok (.aload_n 1, 1) := by decide +kernel
theorem d_jdk_68_22_1 : decode jdk_68_method_22_code 1 = .ok (.ifnonnull 8, 3) := by decide +kernel
theorem d_jdk_68_22_9 : decode jdk_68_method_22_code 9 = .ok (.aload_n 1, 1) := by decide +kernel
theorem d_jdk_68_22_10 : decode jdk_68_method_22_code 10 = .ok (.invokevirtual 32, 3) := by decide +kernel
theorem pd_9 : parseMethodDescriptor "()I" = some ⟨[], some .int⟩ := by decide +kernel
theorem d_jdk_68_22_13 : decode jdk_68_method_22_code 13 = .ok (.istore_n 2, 1) := by decide +kernel
theorem d_jdk_68_22_14 : decode jdk_68_method_22_code 14 = .ok (.aload_n 0, 1) := by decide +kernel
theorem d_jdk_68_22_15 : decode jdk_68_method_22_code 15 = .ok (.aload_n 0, 1) := by decide +kernel
theorem d_jdk_68_22_16 : decode jdk_68_method_22_code 16 = .ok (.getfield 79, 3) := by decide +kernel
theorem d_jdk_68_22_19 : decode jdk_68_method_22_code 19 = .ok (.iload_n 2, 1) := by decide +kernel
theorem d_jdk_68_22_20 : decode jdk_68_method_22_code 20 = .ok (.iadd, 1) := by decide +kernel
theorem d_jdk_68_22_21 : decode jdk_68_method_22_code 21 = .ok (.invokevirtual 100, 3) := by decide +kernel
theorem d_jdk_68_22_24 : decode jdk_68_method_22_code 24 = .ok (.aload_n 0, 1) := by decide +kernel
theorem d_jdk_68_22_25 : decode jdk_68_method_22_code 25 = .ok (.aload_n 0, 1) := by decide +kernel
theorem d_jdk_68_22_26 : decode jdk_68_method_22_code 26 = .ok (.getfield 79, 3) := by decide +kernel
theorem d_jdk_68_22_29 : decode jdk_68_method_22_code 29 = .ok (.aload_n 1, 1) := by decide +kernel
theorem d_jdk_68_22_30 : decode jdk_68_method_22_code 30 = .ok (.invokevirtual 208, 3) := by decide +kernel
theorem pd_10 : parseMethodDescriptor "(ILjava/lang/String;)V" = some ⟨[.int, (.object "java/lang/String")], none⟩ := by decide +kernel
theorem d_jdk_68_22_33 : decode jdk_68_method_22_code 33 = .ok (.aload_n 0, 1) := by decide +kernel
theorem d_jdk_68_22_34 : decode jdk_68_method_22_code 34 = .ok (.dup, 1) := by decide +kernel
theorem d_jdk_68_22_35 : decode jdk_68_method_22_code 35 = .ok (.getfield 79, 3) := by decide +kernel
theorem d_jdk_68_22_38 : decode jdk_68_method_22_code 38 = .ok (.iload_n 2, 1) := by decide +kernel
theorem d_jdk_68_22_39 : decode jdk_68_method_22_code 39 = .ok (.iadd, 1) := by decide +kernel
theorem d_jdk_68_22_40 : decode jdk_68_method_22_code 40 = .ok (.putfield 79, 3) := by decide +kernel
theorem d_jdk_68_22_43 : decode jdk_68_method_22_code 43 = .ok (.aload_n 0, 1) := by decide +kernel
theorem d_jdk_68_22_44 : decode jdk_68_method_22_code 44 = .ok (.areturn, 1) := by decide +kernel
set_option maxRecDepth 65536 in
set_option maxHeartbeats 40000000 in
theorem rm_asbAppS (l : Launch) {Z : State} {a0 : Array Value} (hD : Wd Z a0) (b : Addr) (a : Addr) (t : Addr) (k : ClassId) (cN n : Nat) (vs : List Value) (ts : Addr) (ks : ClassId) (sN : Nat) (us : List Value) {h0 : Heap} (O0 : Ext Z.heap h0) (E_b : Exa Z h0 b "java/lang/StringBuilder") (F_coder_b : Fld Z h0 b "java/lang/AbstractStringBuilder" "coder" "B" (.int 0)) (F_count_b : Fld Z h0 b "java/lang/AbstractStringBuilder" "count" "I" (.int (Int32.ofNat n))) (F_value_b : Fld Z h0 b "java/lang/AbstractStringBuilder" "value" "[B" (.ref t)) (V_t : Arv Z h0 t k .byte (Int32.ofNat cN) vs (.int 0)) (E_a : Exa Z h0 a "java/lang/String") (F_coder_a : Fld Z h0 a "java/lang/String" "coder" "B" (.int 0)) (F_value_a : Fld Z h0 a "java/lang/String" "value" "[B" (.ref ts)) (V_ts : Arv Z h0 ts ks .byte (Int32.ofNat sN) us (.int 0)) (hvs : vs.length = cN) (hcN : cN ≤ 4000) (hus : us.length = sN) (hroom : n + sN ≤ cN) (ge_b : Z.heap.size ≤ b) (ge_t : Z.heap.size ≤ t) (ne_b_t : b ≠ t) :
    Con l Z (⟨"java/lang/AbstractStringBuilder", "append", "(Ljava/lang/String;)Ljava/lang/AbstractStringBuilder;"⟩ : MethodName) jdk_68_method_22_code 3 (some (.object "java/lang/AbstractStringBuilder")) [] ({ frames := 3, cells := 0, slots := 0, locals := 47 } : Room) #[(.ref b), (.ref a)] h0 (Q_asbAppS Z b a t k cN n vs ts ks sN us h0) := by
  refine Con.walk (plainFor_of_name pn_2) ?_
  intro p e s m below meth c T0 X0 hx hZ hby hml hown hnm hret hlk e0
  obtain ⟨hw, cz, S_CS, hcz⟩ := id hD
  have N0 := Fr.nil Z.heap.size
  have K0 : Keep h0 h0 [b, t] := Keep.refl _ _
  refine OEnds.cast (ef_asbAppS m b a) ?_
  have hn31 : n < 2 ^ 31 := by omega
  have hc31 : cN < 2 ^ 31 := by omega
  refine OEnds.st (S' := T0.setTop (mkF m 10 #[.val (.ref b), .val (.ref a), .unset] [(.ref a)])) (fun _ k => ?_) ?_
  · show Steps p.tables e below (T0.setTop (mkF m 0 #[.val (.ref b), .val (.ref a), .unset] [])) _
    refine XS.aloadN X0.here hx rfl (hb hby d_jdk_68_22_0) rfl rfl ?_
    show Steps p.tables e below (T0.setTop (mkF m 1 #[.val (.ref b), .val (.ref a), .unset] [(.ref a)])) _
    refine XS.ifnonnullYes X0.here hx rfl (pc0 := 1) (pc' := 9) rfl (hb hby d_jdk_68_22_1) rfl (by decide) (by decide) ?_
    show Steps p.tables e below (T0.setTop (mkF m 9 #[.val (.ref b), .val (.ref a), .unset] [])) _
    refine XS.aloadN X0.here hx rfl (hb hby d_jdk_68_22_9) rfl rfl ?_
    exact k
  obtain ⟨_, T1, h1, L1, X1, e1, hQ1, st1⟩ := virtC X0 hx hZ (y := (⟨"java/lang/String", "length", "()I"⟩ : MethodName)) (z := (⟨"java/lang/String", "length", "()I"⟩ : MethodName)) hown (hw _ (List.mem_of_getElem? (i := 64) rfl)) (hw _ (List.mem_of_getElem? (i := 65) rfl)) (nf_sel (args := #[]) (mvT hZ (hw _ (List.mem_of_getElem? (i := 67) rfl))) rfl) (hw _ (List.mem_of_getElem? (i := 67) rfl)) (hw _ (List.mem_of_getElem? (i := 66) rfl)) (by decide) (kc := 0) (ks := 0) (Con.sb (W := 0) (rm_strLen l hD a ts ks (Int32.ofNat sN) us O0 E_a F_coder_a F_value_a V_ts) hZ (hw _ (List.mem_of_getElem? (i := 68) rfl)) (hw _ (List.mem_of_getElem? (i := 2) rfl)) (by decide) (by decide)) e0 E_a (g := (mkF m 10 #[.val (.ref b), .val (.ref a), .unset] [(.ref a)])) rfl (by rw [hml]; rfl) (argsL := []) (rest := []) (lenOf pd_9 rfl) rfl (by show 2 * 0 + _ ≤ _; exact Nat.le_of_eq rfl) (hb hby d_jdk_68_22_10) (by decide) (by decide)
  obtain ⟨rfl, Nq1, Hq1⟩ := hQ1
  refine OEnds.st (S' := T1.setTop (mkF m 13 #[.val (.ref b), .val (.ref a), .unset] [(.int (Int32.ofNat sN))])) st1 ?_
  replace N0 := Fr.app N0 Nq1
  replace e1 := e1.trans Hq1
  refine OEnds.st (S' := T1.setTop (mkF m 16 #[.val (.ref b), .val (.ref a), .val (.int (Int32.ofNat sN))] [(.ref b), (.ref b)])) (fun _ k => ?_) ?_
  · show Steps p.tables e below (T1.setTop (mkF m 13 #[.val (.ref b), .val (.ref a), .unset] [(.int (Int32.ofNat sN))])) _
    refine XS.istoreN X1.here hx rfl (hb hby d_jdk_68_22_13) rfl (l' := #[.val (.ref b), .val (.ref a), .val (.int (Int32.ofNat sN))]) rfl ?_
    show Steps p.tables e below (T1.setTop (mkF m 14 #[.val (.ref b), .val (.ref a), .val (.int (Int32.ofNat sN))] [])) _
    refine XS.aloadN X1.here hx rfl (hb hby d_jdk_68_22_14) rfl rfl ?_
    show Steps p.tables e below (T1.setTop (mkF m 15 #[.val (.ref b), .val (.ref a), .val (.int (Int32.ofNat sN))] [(.ref b)])) _
    refine XS.aloadN X1.here hx rfl (hb hby d_jdk_68_22_15) rfl rfl ?_
    exact k
  obtain ⟨T2, X2, e2, st2⟩ := getF X1 hx hZ hown (host := "") (Or.inl (hw _ (List.mem_of_getElem? (i := 94) rfl))) Via.refl e1 F_count_b (g := (mkF m 16 #[.val (.ref b), .val (.ref a), .val (.int (Int32.ofNat sN))] [(.ref b), (.ref b)])) rfl rfl (hb hby d_jdk_68_22_16)
  refine OEnds.st (S' := T2.setTop (mkF m 19 #[.val (.ref b), .val (.ref a), .val (.int (Int32.ofNat sN))] [(.int (Int32.ofNat n)), (.ref b)])) st2 ?_
  refine OEnds.st (S' := T2.setTop (mkF m 21 #[.val (.ref b), .val (.ref a), .val (.int (Int32.ofNat sN))] [(.int ((Int32.ofNat n) + (Int32.ofNat sN))), (.ref b)])) (fun _ k => ?_) ?_
  · show Steps p.tables e below (T2.setTop (mkF m 19 #[.val (.ref b), .val (.ref a), .val (.int (Int32.ofNat sN))] [(.int (Int32.ofNat n)), (.ref b)])) _
    refine XS.iloadN X2.here hx rfl (hb hby d_jdk_68_22_19) rfl ?_
    show Steps p.tables e below (T2.setTop (mkF m 20 #[.val (.ref b), .val (.ref a), .val (.int (Int32.ofNat sN))] [(.int (Int32.ofNat sN)), (.int (Int32.ofNat n)), (.ref b)])) _
    refine XS.iadd X2.here hx rfl (hb hby d_jdk_68_22_20) rfl ?_
    exact k
  rw [ofn_add n sN]
  obtain ⟨_, T3, h3, L3, X3, e3, hQ3, st3⟩ := virtC X2 hx hZ (y := (⟨"java/lang/AbstractStringBuilder", "ensureCapacityInternal", "(I)V"⟩ : MethodName)) (z := (⟨"java/lang/AbstractStringBuilder", "ensureCapacityInternal", "(I)V"⟩ : MethodName)) hown (hw _ (List.mem_of_getElem? (i := 96) rfl)) (decl_of (hw _ (List.mem_of_getElem? (i := 97) rfl)) (hw _ (List.mem_of_getElem? (i := 100) rfl))) (nf_sel (args := #[]) (mvT hZ (hw _ (List.mem_of_getElem? (i := 99) rfl))) rfl) (hw _ (List.mem_of_getElem? (i := 99) rfl)) (hw _ (List.mem_of_getElem? (i := 97) rfl)) (by decide) (kc := 0) (ks := 0) (Con.sb (W := 0) (rm_ensureCap l hD b (Int32.ofNat (n + sN)) t k cN n vs O0 E_b F_coder_b F_count_b F_value_b V_t (ofn_sub_le hroom hc31)) hZ (hw _ (List.mem_of_getElem? (i := 100) rfl)) (hw _ (List.mem_of_getElem? (i := 61) rfl)) (by decide) (by decide)) e2 E_b (g := (mkF m 21 #[.val (.ref b), .val (.ref a), .val (.int (Int32.ofNat sN))] [(.int (Int32.ofNat (n + sN))), (.ref b)])) rfl (by rw [hml]; rfl) (argsL := [(.int (Int32.ofNat (n + sN)))]) (rest := []) (lenOf pd_4 rfl) rfl (by show 2 * 0 + _ ≤ _; exact Nat.le_of_eq rfl) (hb hby d_jdk_68_22_21) (by decide) (by decide)
  obtain ⟨rfl, Nq3, Hq3⟩ := hQ3
  refine OEnds.st (S' := T3.setTop (mkF m 24 #[.val (.ref b), .val (.ref a), .val (.int (Int32.ofNat sN))] [])) st3 ?_
  replace N0 := Fr.app N0 Nq3
  replace e3 := e3.trans Hq3
  refine OEnds.st (S' := T3.setTop (mkF m 26 #[.val (.ref b), .val (.ref a), .val (.int (Int32.ofNat sN))] [(.ref b), (.ref b)])) (fun _ k => ?_) ?_
  · show Steps p.tables e below (T3.setTop (mkF m 24 #[.val (.ref b), .val (.ref a), .val (.int (Int32.ofNat sN))] [])) _
    refine XS.aloadN X3.here hx rfl (hb hby d_jdk_68_22_24) rfl rfl ?_
    show Steps p.tables e below (T3.setTop (mkF m 25 #[.val (.ref b), .val (.ref a), .val (.int (Int32.ofNat sN))] [(.ref b)])) _
    refine XS.aloadN X3.here hx rfl (hb hby d_jdk_68_22_25) rfl rfl ?_
    exact k
  obtain ⟨T4, X4, e4, st4⟩ := getF X3 hx hZ hown (host := "") (Or.inl (hw _ (List.mem_of_getElem? (i := 94) rfl))) Via.refl e3 F_count_b (g := (mkF m 26 #[.val (.ref b), .val (.ref a), .val (.int (Int32.ofNat sN))] [(.ref b), (.ref b)])) rfl rfl (hb hby d_jdk_68_22_26)
  refine OEnds.st (S' := T4.setTop (mkF m 29 #[.val (.ref b), .val (.ref a), .val (.int (Int32.ofNat sN))] [(.int (Int32.ofNat n)), (.ref b)])) st4 ?_
  refine OEnds.st (S' := T4.setTop (mkF m 30 #[.val (.ref b), .val (.ref a), .val (.int (Int32.ofNat sN))] [(.ref a), (.int (Int32.ofNat n)), (.ref b)])) (fun _ k => ?_) ?_
  · show Steps p.tables e below (T4.setTop (mkF m 29 #[.val (.ref b), .val (.ref a), .val (.int (Int32.ofNat sN))] [(.int (Int32.ofNat n)), (.ref b)])) _
    refine XS.aloadN X4.here hx rfl (hb hby d_jdk_68_22_29) rfl rfl ?_
    exact k
  obtain ⟨_, T5, h5, L5, X5, e5, hQ5, st5⟩ := virtC X4 hx hZ (y := (⟨"java/lang/AbstractStringBuilder", "putStringAt", "(ILjava/lang/String;)V"⟩ : MethodName)) (z := (⟨"java/lang/AbstractStringBuilder", "putStringAt", "(ILjava/lang/String;)V"⟩ : MethodName)) hown (hw _ (List.mem_of_getElem? (i := 101) rfl)) (decl_of (hw _ (List.mem_of_getElem? (i := 102) rfl)) (hw _ (List.mem_of_getElem? (i := 105) rfl))) (nf_sel (args := #[]) (mvT hZ (hw _ (List.mem_of_getElem? (i := 99) rfl))) rfl) (hw _ (List.mem_of_getElem? (i := 104) rfl)) (hw _ (List.mem_of_getElem? (i := 102) rfl)) (by decide) (kc := 0) (ks := 0) (Con.sb (W := 0) (rm_putStr l hD b a t k cN n vs ts ks sN us O0 E_b F_coder_b F_count_b F_value_b V_t E_a F_coder_a F_value_a V_ts hvs hcN hus hroom ge_b ge_t ne_b_t) hZ (hw _ (List.mem_of_getElem? (i := 105) rfl)) (hw _ (List.mem_of_getElem? (i := 61) rfl)) (by decide) (by decide)) e4 E_b (g := (mkF m 30 #[.val (.ref b), .val (.ref a), .val (.int (Int32.ofNat sN))] [(.ref a), (.int (Int32.ofNat n)), (.ref b)])) rfl (by rw [hml]; rfl) (argsL := [(.int (Int32.ofNat n)), (.ref a)]) (rest := []) (lenOf pd_10 rfl) rfl (by show 2 * 0 + _ ≤ _; exact Nat.le_of_eq rfl) (hb hby d_jdk_68_22_30) (by decide) (by decide)
  obtain ⟨rfl, Nq5, Kq5, Eq5, Fc5, Fn5, Fv5, V5⟩ := hQ5
  refine OEnds.st (S' := T5.setTop (mkF m 33 #[.val (.ref b), .val (.ref a), .val (.int (Int32.ofNat sN))] [])) st5 ?_
  replace N0 := Fr.app N0 Nq5
  have ne_a_t : a ≠ t := ne_arv E_a (hw _ (List.mem_of_getElem? (i := 1) rfl)) V_t
  replace E_b := E_b.keep Kq5
  replace F_coder_b := F_coder_b.keep Kq5 (ninS ne_b_t nin0)
  replace F_count_b := F_count_b.keep Kq5 (ninS ne_b_t nin0)
  replace F_value_b := F_value_b.keep Kq5 (ninS ne_b_t nin0)
  replace E_a := E_a.keep Kq5
  replace F_coder_a := F_coder_a.keep Kq5 (ninS ne_a_t nin0)
  replace F_value_a := F_value_a.keep Kq5 (ninS ne_a_t nin0)
  replace O0 : Ext Z.heap h5 := ext_keep O0 Kq5 (allS ge_t all0)
  replace K0 : Keep h0 h5 [b, t] := K0.trans Kq5 (allS (Or.inl (List.mem_of_getElem? (i := 1) rfl)) all0)
  refine OEnds.st (S' := T5.setTop (mkF m 35 #[.val (.ref b), .val (.ref a), .val (.int (Int32.ofNat sN))] [(.ref b), (.ref b)])) (fun _ k => ?_) ?_
  · show Steps p.tables e below (T5.setTop (mkF m 33 #[.val (.ref b), .val (.ref a), .val (.int (Int32.ofNat sN))] [])) _
    refine XS.aloadN X5.here hx rfl (hb hby d_jdk_68_22_33) rfl rfl ?_
    show Steps p.tables e below (T5.setTop (mkF m 34 #[.val (.ref b), .val (.ref a), .val (.int (Int32.ofNat sN))] [(.ref b)])) _
    refine XS.dup X5.here hx rfl (hb hby d_jdk_68_22_34) rfl rfl ?_
    exact k
  obtain ⟨T6, X6, e6, st6⟩ := getF X5 hx hZ hown (host := "") (Or.inl (hw _ (List.mem_of_getElem? (i := 94) rfl))) Via.refl e5 Fn5 (g := (mkF m 35 #[.val (.ref b), .val (.ref a), .val (.int (Int32.ofNat sN))] [(.ref b), (.ref b)])) rfl rfl (hb hby d_jdk_68_22_35)
  refine OEnds.st (S' := T6.setTop (mkF m 38 #[.val (.ref b), .val (.ref a), .val (.int (Int32.ofNat sN))] [(.int (Int32.ofNat n)), (.ref b)])) st6 ?_
  refine OEnds.st (S' := T6.setTop (mkF m 40 #[.val (.ref b), .val (.ref a), .val (.int (Int32.ofNat sN))] [(.int ((Int32.ofNat n) + (Int32.ofNat sN))), (.ref b)])) (fun _ k => ?_) ?_
  · show Steps p.tables e below (T6.setTop (mkF m 38 #[.val (.ref b), .val (.ref a), .val (.int (Int32.ofNat sN))] [(.int (Int32.ofNat n)), (.ref b)])) _
    refine XS.iloadN X6.here hx rfl (hb hby d_jdk_68_22_38) rfl ?_
    show Steps p.tables e below (T6.setTop (mkF m 39 #[.val (.ref b), .val (.ref a), .val (.int (Int32.ofNat sN))] [(.int (Int32.ofNat sN)), (.int (Int32.ofNat n)), (.ref b)])) _
    refine XS.iadd X6.here hx rfl (hb hby d_jdk_68_22_39) rfl ?_
    exact k
  rw [ofn_add n sN]
  have ne_a_b : a ≠ b := ne_exa E_a E_b (by decide)
  obtain ⟨T7, h7, X7, e7, W7, st7⟩ := putF X6 hx hZ hown (host := "") (Or.inl (hw _ (List.mem_of_getElem? (i := 94) rfl))) Via.refl e6 Fn5 E_b (Or.inl (hw _ (List.mem_of_getElem? (i := 95) rfl))) (hw _ (List.mem_of_getElem? (i := 52) rfl)) (ty := .int) (by decide) rfl rfl (g := (mkF m 40 #[.val (.ref b), .val (.ref a), .val (.int (Int32.ofNat sN))] [(.int (Int32.ofNat (n + sN))), (.ref b)])) rfl rfl (hb hby d_jdk_68_22_40)
  refine OEnds.st (S' := T7.setTop (mkF m 43 #[.val (.ref b), .val (.ref a), .val (.int (Int32.ofNat sN))] [])) st7 ?_
  replace E_b := E_b.wr W7
  replace Fc5 := Fc5.other W7 (Or.inr (slot_ne (Or.inl (hw _ (List.mem_of_getElem? (i := 77) rfl))) (Or.inl (hw _ (List.mem_of_getElem? (i := 95) rfl))) (by decide) (t := .byte) (t' := .int) (by decide) (by decide)))
  replace Fn5 := Fn5.same W7
  replace Fv5 := Fv5.other W7 (Or.inr (slot_ne (Or.inl (hw _ (List.mem_of_getElem? (i := 79) rfl))) (Or.inl (hw _ (List.mem_of_getElem? (i := 95) rfl))) (by decide) (t := (.array .byte)) (t' := .int) (by decide) (by decide)))
  replace E_a := E_a.wr W7
  replace F_coder_a := F_coder_a.other W7 (Or.inl ne_a_b)
  replace F_value_a := F_value_a.other W7 (Or.inl ne_a_b)
  replace V5 := V5.other W7 (Ne.symm ne_b_t)
  replace O0 : Ext Z.heap h7 := ext_wr O0 W7 ge_b
  replace N0 := Fr.snoc X7 N0 ge_b
  replace K0 : Keep h0 h7 [b, t] := K0.wr W7 (Or.inl (List.mem_of_getElem? (i := 0) rfl))
  refine OEnds.st (S' := T7.setTop (mkF m 44 #[.val (.ref b), .val (.ref a), .val (.int (Int32.ofNat sN))] [(.ref b)])) (fun _ k => ?_) ?_
  · show Steps p.tables e below (T7.setTop (mkF m 43 #[.val (.ref b), .val (.ref a), .val (.int (Int32.ofNat sN))] [])) _
    refine XS.aloadN X7.here hx rfl (hb hby d_jdk_68_22_43) rfl rfl ?_
    exact k
  exact OEnds.ret X7 hx hret hlk rfl (Or.inr (Or.inr (Or.inr (Or.inr ⟨rfl, rfl, rfl⟩)))) (hb hby d_jdk_68_22_44) (by decide) (by decide) (by rw [e7]; exact ⟨rfl, N0, K0, E_b, Fc5, Fn5, Fv5, V5⟩)
-- java/lang/StringBuilder.append:(Ljava/lang/String;)Ljava/lang/StringBuilder;
def Q_sbAppS (Z : State) (b : Addr) (a : Addr) (t : Addr) (k : ClassId) (cN n : Nat) (vs : List Value) (ts : Addr) (ks : ClassId) (sN : Nat) (us : List Value) (h0 : Heap) (v : Option Value) (h : Heap) (L : List Loc) : Prop := v = some (.ref b) ∧ Fr Z.heap.size L ∧ Keep h0 h [b, t] ∧ Exa Z h b "java/lang/StringBuilder" ∧ Fld Z h b "java/lang/AbstractStringBuilder" "coder" "B" (.int 0) ∧ Fld Z h b "java/lang/AbstractStringBuilder" "count" "I" (.int (Int32.ofNat (n + sN))) ∧ Fld Z h b "java/lang/AbstractStringBuilder" "value" "[B" (.ref t) ∧ Arv Z h t k .byte (Int32.ofNat cN) (vs.take n ++ us ++ vs.drop (n + sN)) (.int 0)
theorem ef_sbAppS (m : MethodId) (b : Addr) (a : Addr) : entryFrame m #[(.ref b), (.ref a)] 2 = mkF m 0 #[.val (.ref b), .val (.ref a)] [] := by first | (simp [entryFrame, mkF, argsToLocals, Value.category]; done) | rfl
theorem d_jdk_67_7_0 : decode jdk_67_method_7_code 0 = .ok (.aload_n 0, 1) := by decide +kernel
theorem d_jdk_67_7_1 : decode jdk_67_method_7_code 1 = .ok (.aload_n 1, 1) := by decide +kernel
theorem d_jdk_67_7_2 : decode jdk_67_method_7_code 2 = .ok (.invokespecial 29, 3) := by decide +kernel
theorem pd_11 : parseMethodDescriptor "(Ljava/lang/String;)Ljava/lang/AbstractStringBuilder;" = some ⟨[(.object "java/lang/String")], some (.object "java/lang/AbstractStringBuilder")⟩ := by decide +kernel
theorem d_jdk_67_7_5 : decode jdk_67_method_7_code 5 = .ok (.pop, 1) := by decide +kernel
theorem d_jdk_67_7_6 : decode jdk_67_method_7_code 6 = .ok (.aload_n 0, 1) := by decide +kernel
theorem d_jdk_67_7_7 : decode jdk_67_method_7_code 7 = .ok (.areturn, 1) := by decide +kernel
set_option maxRecDepth 65536 in
set_option maxHeartbeats 40000000 in
theorem rm_sbAppS (l : Launch) {Z : State} {a0 : Array Value} (hD : Wd Z a0) (b : Addr) (a : Addr) (t : Addr) (k : ClassId) (cN n : Nat) (vs : List Value) (ts : Addr) (ks : ClassId) (sN : Nat) (us : List Value) {h0 : Heap} (O0 : Ext Z.heap h0) (E_b : Exa Z h0 b "java/lang/StringBuilder") (F_coder_b : Fld Z h0 b "java/lang/AbstractStringBuilder" "coder" "B" (.int 0)) (F_count_b : Fld Z h0 b "java/lang/AbstractStringBuilder" "count" "I" (.int (Int32.ofNat n))) (F_value_b : Fld Z h0 b "java/lang/AbstractStringBuilder" "value" "[B" (.ref t)) (V_t : Arv Z h0 t k .byte (Int32.ofNat cN) vs (.int 0)) (E_a : Exa Z h0 a "java/lang/String") (F_coder_a : Fld Z h0 a "java/lang/String" "coder" "B" (.int 0)) (F_value_a : Fld Z h0 a "java/lang/String" "value" "[B" (.ref ts)) (V_ts : Arv Z h0 ts ks .byte (Int32.ofNat sN) us (.int 0)) (hvs : vs.length = cN) (hcN : cN ≤ 4000) (hus : us.length = sN) (hroom : n + sN ≤ cN) (ge_b : Z.heap.size ≤ b) (ge_t : Z.heap.size ≤ t) (ne_b_t : b ≠ t) :
    Con l Z (⟨"java/lang/StringBuilder", "append", "(Ljava/lang/String;)Ljava/lang/StringBuilder;"⟩ : MethodName) jdk_67_method_7_code 2 (some (.object "java/lang/StringBuilder")) [] ({ frames := 4, cells := 0, slots := 0, locals := 61 } : Room) #[(.ref b), (.ref a)] h0 (Q_sbAppS Z b a t k cN n vs ts ks sN us h0) := by
  refine Con.walk (plainFor_of_name pn_3) ?_
  intro p e s m below meth c T0 X0 hx hZ hby hml hown hnm hret hlk e0
  obtain ⟨hw, cz, S_CS, hcz⟩ := id hD
  have N0 := Fr.nil Z.heap.size
  have K0 : Keep h0 h0 [b, t] := Keep.refl _ _
  refine OEnds.cast (ef_sbAppS m b a) ?_
  refine OEnds.st (S' := T0.setTop (mkF m 2 #[.val (.ref b), .val (.ref a)] [(.ref a), (.ref b)])) (fun _ k => ?_) ?_
  · show Steps p.tables e below (T0.setTop (mkF m 0 #[.val (.ref b), .val (.ref a)] [])) _
    refine XS.aloadN X0.here hx rfl (hb hby d_jdk_67_7_0) rfl rfl ?_
    show Steps p.tables e below (T0.setTop (mkF m 1 #[.val (.ref b), .val (.ref a)] [(.ref b)])) _
    refine XS.aloadN X0.here hx rfl (hb hby d_jdk_67_7_1) rfl rfl ?_
    exact k
  obtain ⟨_, T1, h1, L1, X1, e1, hQ1, st1⟩ := superC X0 hx hZ (y := (⟨"java/lang/AbstractStringBuilder", "append", "(Ljava/lang/String;)Ljava/lang/AbstractStringBuilder;"⟩ : MethodName)) hown (hw _ (List.mem_of_getElem? (i := 91) rfl)) (same_of (nf_sel (args := a0) (hw _ (List.mem_of_getElem? (i := 99) rfl)) rfl) (hw _ (List.mem_of_getElem? (i := 82) rfl)) (by decide)) (hw _ (List.mem_of_getElem? (i := 82) rfl)) (hw _ (List.mem_of_getElem? (i := 92) rfl)) (hw _ (List.mem_of_getElem? (i := 93) rfl)) (by decide) (kc := 0) (ks := 0) (Con.sb (W := 0) (rm_asbAppS l hD b a t k cN n vs ts ks sN us O0 E_b F_coder_b F_count_b F_value_b V_t E_a F_coder_a F_value_a V_ts hvs hcN hus hroom ge_b ge_t ne_b_t) hZ (hw _ (List.mem_of_getElem? (i := 93) rfl)) (hw _ (List.mem_of_getElem? (i := 61) rfl)) (by decide) (by decide)) e0 E_b (g := (mkF m 2 #[.val (.ref b), .val (.ref a)] [(.ref a), (.ref b)])) rfl (by rw [hml]; rfl) (argsL := [(.ref a)]) (rest := []) (lenOf pd_11 rfl) rfl (by show 2 * 0 + _ ≤ _; exact Nat.le_of_eq rfl) (hb hby d_jdk_67_7_2) (by decide) (by decide)
  obtain ⟨rfl, Nq1, Kq1, Eq1, Fc1, Fn1, Fv1, V1⟩ := hQ1
  refine OEnds.st (S' := T1.setTop (mkF m 5 #[.val (.ref b), .val (.ref a)] [(.ref b)])) st1 ?_
  replace N0 := Fr.app N0 Nq1
  have ne_a_b : a ≠ b := ne_exa E_a E_b (by decide)
  have ne_ts_b : ts ≠ b := Ne.symm (ne_arv E_b (hw _ (List.mem_of_getElem? (i := 52) rfl)) V_ts)
  have ne_a_t : a ≠ t := ne_arv E_a (hw _ (List.mem_of_getElem? (i := 1) rfl)) V_t
  replace E_b := E_b.keep Kq1
  replace E_a := E_a.keep Kq1
  replace F_coder_a := F_coder_a.keep Kq1 (ninS ne_a_b (ninS ne_a_t nin0))
  replace F_value_a := F_value_a.keep Kq1 (ninS ne_a_b (ninS ne_a_t nin0))
  replace O0 : Ext Z.heap h1 := ext_keep O0 Kq1 (allS ge_b (allS ge_t all0))
  replace K0 : Keep h0 h1 [b, t] := K0.trans Kq1 (allS (Or.inl (List.mem_of_getElem? (i := 0) rfl)) (allS (Or.inl (List.mem_of_getElem? (i := 1) rfl)) all0))
  refine OEnds.st (S' := T1.setTop (mkF m 7 #[.val (.ref b), .val (.ref a)] [(.ref b)])) (fun _ k => ?_) ?_
  · show Steps p.tables e below (T1.setTop (mkF m 5 #[.val (.ref b), .val (.ref a)] [(.ref b)])) _
    refine XS.pop X1.here hx rfl (hb hby d_jdk_67_7_5) rfl rfl ?_
    show Steps p.tables e below (T1.setTop (mkF m 6 #[.val (.ref b), .val (.ref a)] [])) _
    refine XS.aloadN X1.here hx rfl (hb hby d_jdk_67_7_6) rfl rfl ?_
    exact k
  exact OEnds.ret X1 hx hret hlk rfl (Or.inr (Or.inr (Or.inr (Or.inr ⟨rfl, rfl, rfl⟩)))) (hb hby d_jdk_67_7_7) (by decide) (by decide) (by rw [e1]; exact ⟨rfl, N0, K0, E_b, Fc1, Fn1, Fv1, V1⟩)
-- java/lang/StringBuilder.append:(Ljava/lang/String;)Ljava/lang/AbstractStringBuilder;
def Q_brAppS (Z : State) (b : Addr) (a : Addr) (t : Addr) (k : ClassId) (cN n : Nat) (vs : List Value) (ts : Addr) (ks : ClassId) (sN : Nat) (us : List Value) (h0 : Heap) (v : Option Value) (h : Heap) (L : List Loc) : Prop := v = some (.ref b) ∧ Fr Z.heap.size L ∧ Keep h0 h [b, t] ∧ Exa Z h b "java/lang/StringBuilder" ∧ Fld Z h b "java/lang/AbstractStringBuilder" "coder" "B" (.int 0) ∧ Fld Z h b "java/lang/AbstractStringBuilder" "count" "I" (.int (Int32.ofNat (n + sN))) ∧ Fld Z h b "java/lang/AbstractStringBuilder" "value" "[B" (.ref t) ∧ Arv Z h t k .byte (Int32.ofNat cN) (vs.take n ++ us ++ vs.drop (n + sN)) (.int 0)
theorem ef_brAppS (m : MethodId) (b : Addr) (a : Addr) : entryFrame m #[(.ref b), (.ref a)] 2 = mkF m 0 #[.val (.ref b), .val (.ref a)] [] := by first | (simp [entryFrame, mkF, argsToLocals, Value.category]; done) | rfl
theorem d_jdk_67_80_0 : decode jdk_67_method_80_code 0 = .ok (.aload_n 0, 1) := by decide +kernel
theorem d_jdk_67_80_1 : decode jdk_67_method_80_code 1 = .ok (.aload_n 1, 1) := by decide +kernel
theorem d_jdk_67_80_2 : decode jdk_67_method_80_code 2 = .ok (.invokevirtual 23, 3) := by decide +kernel
theorem pd_12 : parseMethodDescriptor "(Ljava/lang/String;)Ljava/lang/StringBuilder;" = some ⟨[(.object "java/lang/String")], some (.object "java/lang/StringBuilder")⟩ := by decide +kernel
theorem d_jdk_67_80_5 : decode jdk_67_method_80_code 5 = .ok (.areturn, 1) := by decide +kernel
set_option maxRecDepth 65536 in
set_option maxHeartbeats 40000000 in
theorem rm_brAppS (l : Launch) {Z : State} {a0 : Array Value} (hD : Wd Z a0) (b : Addr) (a : Addr) (t : Addr) (k : ClassId) (cN n : Nat) (vs : List Value) (ts : Addr) (ks : ClassId) (sN : Nat) (us : List Value) {h0 : Heap} (O0 : Ext Z.heap h0) (E_b : Exa Z h0 b "java/lang/StringBuilder") (F_coder_b : Fld Z h0 b "java/lang/AbstractStringBuilder" "coder" "B" (.int 0)) (F_count_b : Fld Z h0 b "java/lang/AbstractStringBuilder" "count" "I" (.int (Int32.ofNat n))) (F_value_b : Fld Z h0 b "java/lang/AbstractStringBuilder" "value" "[B" (.ref t)) (V_t : Arv Z h0 t k .byte (Int32.ofNat cN) vs (.int 0)) (E_a : Exa Z h0 a "java/lang/String") (F_coder_a : Fld Z h0 a "java/lang/String" "coder" "B" (.int 0)) (F_value_a : Fld Z h0 a "java/lang/String" "value" "[B" (.ref ts)) (V_ts : Arv Z h0 ts ks .byte (Int32.ofNat sN) us (.int 0)) (hvs : vs.length = cN) (hcN : cN ≤ 4000) (hus : us.length = sN) (hroom : n + sN ≤ cN) (ge_b : Z.heap.size ≤ b) (ge_t : Z.heap.size ≤ t) (ne_b_t : b ≠ t) :
    Con l Z (⟨"java/lang/StringBuilder", "append", "(Ljava/lang/String;)Ljava/lang/AbstractStringBuilder;"⟩ : MethodName) jdk_67_method_80_code 2 (some (.object "java/lang/AbstractStringBuilder")) [] ({ frames := 5, cells := 0, slots := 0, locals := 74 } : Room) #[(.ref b), (.ref a)] h0 (Q_brAppS Z b a t k cN n vs ts ks sN us h0) := by
  refine Con.walk (plainFor_of_name pn_3) ?_
  intro p e s m below meth c T0 X0 hx hZ hby hml hown hnm hret hlk e0
  obtain ⟨hw, cz, S_CS, hcz⟩ := id hD
  have N0 := Fr.nil Z.heap.size
  have K0 : Keep h0 h0 [b, t] := Keep.refl _ _
  refine OEnds.cast (ef_brAppS m b a) ?_
  refine OEnds.st (S' := T0.setTop (mkF m 2 #[.val (.ref b), .val (.ref a)] [(.ref a), (.ref b)])) (fun _ k => ?_) ?_
  · show Steps p.tables e below (T0.setTop (mkF m 0 #[.val (.ref b), .val (.ref a)] [])) _
    refine XS.aloadN X0.here hx rfl (hb hby d_jdk_67_80_0) rfl rfl ?_
    show Steps p.tables e below (T0.setTop (mkF m 1 #[.val (.ref b), .val (.ref a)] [(.ref b)])) _
    refine XS.aloadN X0.here hx rfl (hb hby d_jdk_67_80_1) rfl rfl ?_
    exact k
  obtain ⟨_, T1, h1, L1, X1, e1, hQ1, st1⟩ := virtC X0 hx hZ (y := (⟨"java/lang/StringBuilder", "append", "(Ljava/lang/String;)Ljava/lang/StringBuilder;"⟩ : MethodName)) (z := (⟨"java/lang/StringBuilder", "append", "(Ljava/lang/String;)Ljava/lang/StringBuilder;"⟩ : MethodName)) hown (hw _ (List.mem_of_getElem? (i := 86) rfl)) (hw _ (List.mem_of_getElem? (i := 87) rfl)) (nf_sel (args := #[]) (mvT hZ (hw _ (List.mem_of_getElem? (i := 83) rfl))) rfl) (hw _ (List.mem_of_getElem? (i := 89) rfl)) (hw _ (List.mem_of_getElem? (i := 88) rfl)) (by decide) (kc := 0) (ks := 0) (Con.sb (W := 0) (rm_sbAppS l hD b a t k cN n vs ts ks sN us O0 E_b F_coder_b F_count_b F_value_b V_t E_a F_coder_a F_value_a V_ts hvs hcN hus hroom ge_b ge_t ne_b_t) hZ (hw _ (List.mem_of_getElem? (i := 90) rfl)) (hw _ (List.mem_of_getElem? (i := 53) rfl)) (by decide) (by decide)) e0 E_b (g := (mkF m 2 #[.val (.ref b), .val (.ref a)] [(.ref a), (.ref b)])) rfl (by rw [hml]; rfl) (argsL := [(.ref a)]) (rest := []) (lenOf pd_12 rfl) rfl (by show 2 * 0 + _ ≤ _; exact Nat.le_of_eq rfl) (hb hby d_jdk_67_80_2) (by decide) (by decide)
  obtain ⟨rfl, Nq1, Kq1, Eq1, Fc1, Fn1, Fv1, V1⟩ := hQ1
  refine OEnds.st (S' := T1.setTop (mkF m 5 #[.val (.ref b), .val (.ref a)] [(.ref b)])) st1 ?_
  replace N0 := Fr.app N0 Nq1
  have ne_a_b : a ≠ b := ne_exa E_a E_b (by decide)
  have ne_ts_b : ts ≠ b := Ne.symm (ne_arv E_b (hw _ (List.mem_of_getElem? (i := 52) rfl)) V_ts)
  have ne_a_t : a ≠ t := ne_arv E_a (hw _ (List.mem_of_getElem? (i := 1) rfl)) V_t
  replace E_b := E_b.keep Kq1
  replace E_a := E_a.keep Kq1
  replace F_coder_a := F_coder_a.keep Kq1 (ninS ne_a_b (ninS ne_a_t nin0))
  replace F_value_a := F_value_a.keep Kq1 (ninS ne_a_b (ninS ne_a_t nin0))
  replace O0 : Ext Z.heap h1 := ext_keep O0 Kq1 (allS ge_b (allS ge_t all0))
  replace K0 : Keep h0 h1 [b, t] := K0.trans Kq1 (allS (Or.inl (List.mem_of_getElem? (i := 0) rfl)) (allS (Or.inl (List.mem_of_getElem? (i := 1) rfl)) all0))
  exact OEnds.ret X1 hx hret hlk rfl (Or.inr (Or.inr (Or.inr (Or.inr ⟨rfl, rfl, rfl⟩)))) (hb hby d_jdk_67_80_5) (by decide) (by decide) (by rw [e1]; exact ⟨rfl, N0, K0, E_b, Fc1, Fn1, Fv1, V1⟩)
-- java/lang/AbstractStringBuilder.getValue:()[B
def Q_getValue (Z : State) (b : Addr) (t : Addr) (h0 : Heap) (v : Option Value) (h : Heap) (L : List Loc) : Prop := v = some (.ref t) ∧ Fr Z.heap.size L ∧ h = h0
theorem ef_getValue (m : MethodId) (b : Addr) : entryFrame m #[(.ref b)] 1 = mkF m 0 #[.val (.ref b)] [] := by first | (simp [entryFrame, mkF, argsToLocals, Value.category]; done) | rfl
theorem d_jdk_68_64_0 : decode jdk_68_method_64_code 0 = .ok (.aload_n 0, 1) := by decide +kernel
theorem d_jdk_68_64_1 : decode jdk_68_method_64_code 1 = .ok (.getfield 15, 3) := by decide +kernel
theorem d_jdk_68_64_4 : decode jdk_68_method_64_code 4 = .ok (.areturn, 1) := by decide +kernel
set_option maxRecDepth 65536 in
set_option maxHeartbeats 40000000 in
theorem rm_getValue (l : Launch) {Z : State} {a0 : Array Value} (hD : Wd Z a0) (b : Addr) (t : Addr) {h0 : Heap} (O0 : Ext Z.heap h0) (F_value_b : Fld Z h0 b "java/lang/AbstractStringBuilder" "value" "[B" (.ref t)) :
    Con l Z (⟨"java/lang/AbstractStringBuilder", "getValue", "()[B"⟩ : MethodName) jdk_68_method_64_code 1 (some (.array .byte)) [] ({ frames := 0, cells := 0, slots := 0, locals := 0 } : Room) #[(.ref b)] h0 (Q_getValue Z b t h0) := by
  refine Con.walk (plainFor_of_name pn_2) ?_
  intro p e s m below meth c T0 X0 hx hZ hby hml hown hnm hret hlk e0
  obtain ⟨hw, cz, S_CS, hcz⟩ := id hD
  have N0 := Fr.nil Z.heap.size
  refine OEnds.cast (ef_getValue m b) ?_
  refine OEnds.st (S' := T0.setTop (mkF m 1 #[.val (.ref b)] [(.ref b)])) (fun _ k => ?_) ?_
  · show Steps p.tables e below (T0.setTop (mkF m 0 #[.val (.ref b)] [])) _
    refine XS.aloadN X0.here hx rfl (hb hby d_jdk_68_64_0) rfl rfl ?_
    exact k
  obtain ⟨T1, X1, e1, st1⟩ := getF X0 hx hZ hown (host := "") (Or.inl (hw _ (List.mem_of_getElem? (i := 78) rfl))) Via.refl e0 F_value_b (g := (mkF m 1 #[.val (.ref b)] [(.ref b)])) rfl rfl (hb hby d_jdk_68_64_1)
  refine OEnds.st (S' := T1.setTop (mkF m 4 #[.val (.ref b)] [(.ref t)])) st1 ?_
  exact OEnds.ret X1 hx hret hlk rfl (Or.inr (Or.inr (Or.inr (Or.inr ⟨rfl, rfl, rfl⟩)))) (hb hby d_jdk_68_64_4) (by decide) (by decide) (by rw [e1]; exact ⟨rfl, N0, rfl⟩)
-- java/lang/AbstractStringBuilder.length:()I
def Q_asbLen (Z : State) (b : Addr) (z : Int32) (h0 : Heap) (v : Option Value) (h : Heap) (L : List Loc) : Prop := v = some (.int z) ∧ Fr Z.heap.size L ∧ h = h0
theorem ef_asbLen (m : MethodId) (b : Addr) : entryFrame m #[(.ref b)] 1 = mkF m 0 #[.val (.ref b)] [] := by first | (simp [entryFrame, mkF, argsToLocals, Value.category]; done) | rfl
theorem d_jdk_68_6_0 : decode jdk_68_method_6_code 0 = .ok (.aload_n 0, 1) := by decide +kernel
theorem d_jdk_68_6_1 : decode jdk_68_method_6_code 1 = .ok (.getfield 79, 3) := by decide +kernel
theorem d_jdk_68_6_4 : decode jdk_68_method_6_code 4 = .ok (.ireturn, 1) := by decide +kernel
set_option maxRecDepth 65536 in
set_option maxHeartbeats 40000000 in
theorem rm_asbLen (l : Launch) {Z : State} {a0 : Array Value} (hD : Wd Z a0) (b : Addr) (z : Int32) {h0 : Heap} (O0 : Ext Z.heap h0) (F_count_b : Fld Z h0 b "java/lang/AbstractStringBuilder" "count" "I" (.int z)) :
    Con l Z (⟨"java/lang/AbstractStringBuilder", "length", "()I"⟩ : MethodName) jdk_68_method_6_code 1 (some .int) [] ({ frames := 0, cells := 0, slots := 0, locals := 0 } : Room) #[(.ref b)] h0 (Q_asbLen Z b z h0) := by
  refine Con.walk (plainFor_of_name pn_2) ?_
  intro p e s m below meth c T0 X0 hx hZ hby hml hown hnm hret hlk e0
  obtain ⟨hw, cz, S_CS, hcz⟩ := id hD
  have N0 := Fr.nil Z.heap.size
  refine OEnds.cast (ef_asbLen m b) ?_
  refine OEnds.st (S' := T0.setTop (mkF m 1 #[.val (.ref b)] [(.ref b)])) (fun _ k => ?_) ?_
  · show Steps p.tables e below (T0.setTop (mkF m 0 #[.val (.ref b)] [])) _
    refine XS.aloadN X0.here hx rfl (hb hby d_jdk_68_6_0) rfl rfl ?_
    exact k
  obtain ⟨T1, X1, e1, st1⟩ := getF X0 hx hZ hown (host := "") (Or.inl (hw _ (List.mem_of_getElem? (i := 94) rfl))) Via.refl e0 F_count_b (g := (mkF m 1 #[.val (.ref b)] [(.ref b)])) rfl rfl (hb hby d_jdk_68_6_1)
  refine OEnds.st (S' := T1.setTop (mkF m 4 #[.val (.ref b)] [(.int z)])) st1 ?_
  exact OEnds.ret X1 hx hret hlk rfl (Or.inl ⟨rfl, by simp, _, rfl⟩) (hb hby d_jdk_68_6_4) (by decide) (by decide) (by rw [e1]; exact ⟨rfl, N0, rfl⟩)
-- java/lang/StringBuilder.length:()I
def Q_sbLen (Z : State) (b : Addr) (z : Int32) (h0 : Heap) (v : Option Value) (h : Heap) (L : List Loc) : Prop := v = some (.int z) ∧ Fr Z.heap.size L ∧ h = h0
theorem ef_sbLen (m : MethodId) (b : Addr) : entryFrame m #[(.ref b)] 1 = mkF m 0 #[.val (.ref b)] [] := by first | (simp [entryFrame, mkF, argsToLocals, Value.category]; done) | rfl
theorem d_jdk_67_93_0 : decode jdk_67_method_93_code 0 = .ok (.aload_n 0, 1) := by decide +kernel
theorem d_jdk_67_93_1 : decode jdk_67_method_93_code 1 = .ok (.invokespecial 343, 3) := by decide +kernel
theorem d_jdk_67_93_4 : decode jdk_67_method_93_code 4 = .ok (.ireturn, 1) := by decide +kernel
set_option maxRecDepth 65536 in
set_option maxHeartbeats 40000000 in
theorem rm_sbLen (l : Launch) {Z : State} {a0 : Array Value} (hD : Wd Z a0) (b : Addr) (z : Int32) {h0 : Heap} (O0 : Ext Z.heap h0) (E_b : Exa Z h0 b "java/lang/StringBuilder") (F_count_b : Fld Z h0 b "java/lang/AbstractStringBuilder" "count" "I" (.int z)) :
    Con l Z (⟨"java/lang/StringBuilder", "length", "()I"⟩ : MethodName) jdk_67_method_93_code 1 (some .int) [] ({ frames := 1, cells := 0, slots := 0, locals := 12 } : Room) #[(.ref b)] h0 (Q_sbLen Z b z h0) := by
  refine Con.walk (plainFor_of_name pn_3) ?_
  intro p e s m below meth c T0 X0 hx hZ hby hml hown hnm hret hlk e0
  obtain ⟨hw, cz, S_CS, hcz⟩ := id hD
  have N0 := Fr.nil Z.heap.size
  refine OEnds.cast (ef_sbLen m b) ?_
  refine OEnds.st (S' := T0.setTop (mkF m 1 #[.val (.ref b)] [(.ref b)])) (fun _ k => ?_) ?_
  · show Steps p.tables e below (T0.setTop (mkF m 0 #[.val (.ref b)] [])) _
    refine XS.aloadN X0.here hx rfl (hb hby d_jdk_67_93_0) rfl rfl ?_
    exact k
  obtain ⟨_, T1, h1, L1, X1, e1, hQ1, st1⟩ := superC X0 hx hZ (y := (⟨"java/lang/AbstractStringBuilder", "length", "()I"⟩ : MethodName)) hown (hw _ (List.mem_of_getElem? (i := 172) rfl)) (same_of (nf_sel (args := a0) (hw _ (List.mem_of_getElem? (i := 99) rfl)) rfl) (hw _ (List.mem_of_getElem? (i := 168) rfl)) (by decide)) (hw _ (List.mem_of_getElem? (i := 168) rfl)) (hw _ (List.mem_of_getElem? (i := 92) rfl)) (hw _ (List.mem_of_getElem? (i := 173) rfl)) (by decide) (kc := 0) (ks := 0) (Con.sb (W := 0) (rm_asbLen l hD b z O0 F_count_b) hZ (hw _ (List.mem_of_getElem? (i := 173) rfl)) (hw _ (List.mem_of_getElem? (i := 61) rfl)) (by decide) (by decide)) e0 E_b (g := (mkF m 1 #[.val (.ref b)] [(.ref b)])) rfl (by rw [hml]; rfl) (argsL := []) (rest := []) (lenOf pd_9 rfl) rfl (by show 2 * 0 + _ ≤ _; exact Nat.le_of_eq rfl) (hb hby d_jdk_67_93_1) (by decide) (by decide)
  obtain ⟨rfl, Nq1, Hq1⟩ := hQ1
  refine OEnds.st (S' := T1.setTop (mkF m 4 #[.val (.ref b)] [(.int z)])) st1 ?_
  replace N0 := Fr.app N0 Nq1
  replace e1 := e1.trans Hq1
  exact OEnds.ret X1 hx hret hlk rfl (Or.inl ⟨rfl, by simp, _, rfl⟩) (hb hby d_jdk_67_93_4) (by decide) (by decide) (by rw [e1]; exact ⟨rfl, N0, rfl⟩)
-- java/lang/Math.min:(II)I
def Q_mathMin (Z : State) (x0 : Int32) (y0 : Int32) (h0 : Heap) (v : Option Value) (h : Heap) (L : List Loc) : Prop := v = some (.int y0) ∧ Fr Z.heap.size L ∧ h = h0
theorem ef_mathMin (m : MethodId) (x0 : Int32) (y0 : Int32) : entryFrame m #[(.int x0), (.int y0)] 2 = mkF m 0 #[.val (.int x0), .val (.int y0)] [] := by first | (simp [entryFrame, mkF, argsToLocals, Value.category]; done) | rfl
theorem d_jdk_29_69_0 : decode jdk_29_method_69_code 0 = .ok (.iload_n 0, 1) := by decide +kernel
theorem d_jdk_29_69_1 : decode jdk_29_method_69_code 1 = .ok (.iload_n 1, 1) := by decide +kernel
theorem d_jdk_29_69_2 : decode jdk_29_method_69_code 2 = .ok (.if_icmp .gt 7, 3) := by decide +kernel
theorem d_jdk_29_69_9 : decode jdk_29_method_69_code 9 = .ok (.iload_n 1, 1) := by decide +kernel
theorem d_jdk_29_69_10 : decode jdk_29_method_69_code 10 = .ok (.ireturn, 1) := by decide +kernel
set_option maxRecDepth 65536 in
set_option maxHeartbeats 40000000 in
theorem rm_mathMin (l : Launch) {Z : State} {a0 : Array Value} (hD : Wd Z a0) (x0 : Int32) (y0 : Int32) {h0 : Heap} (O0 : Ext Z.heap h0) (hlt : y0 < x0) :
    Con l Z (⟨"java/lang/Math", "min", "(II)I"⟩ : MethodName) jdk_29_method_69_code 2 (some .int) [] ({ frames := 0, cells := 0, slots := 0, locals := 0 } : Room) #[(.int x0), (.int y0)] h0 (Q_mathMin Z x0 y0 h0) := by
  refine Con.walk (Jvm.Free.JP.mathPlain rfl (by decide +kernel)) ?_
  intro p e s m below meth c T0 X0 hx hZ hby hml hown hnm hret hlk e0
  obtain ⟨hw, cz, S_CS, hcz⟩ := id hD
  have N0 := Fr.nil Z.heap.size
  refine OEnds.cast (ef_mathMin m x0 y0) ?_
  refine OEnds.st (S' := T0.setTop (mkF m 10 #[.val (.int x0), .val (.int y0)] [(.int y0)])) (fun _ k => ?_) ?_
  · show Steps p.tables e below (T0.setTop (mkF m 0 #[.val (.int x0), .val (.int y0)] [])) _
    refine XS.iloadN X0.here hx rfl (hb hby d_jdk_29_69_0) rfl ?_
    show Steps p.tables e below (T0.setTop (mkF m 1 #[.val (.int x0), .val (.int y0)] [(.int x0)])) _
    refine XS.iloadN X0.here hx rfl (hb hby d_jdk_29_69_1) rfl ?_
    show Steps p.tables e below (T0.setTop (mkF m 2 #[.val (.int x0), .val (.int y0)] [(.int y0), (.int x0)])) _
    refine XS.icmpYes X0.here hx rfl (pc0 := 2) (pc' := 9) rfl (hb hby d_jdk_29_69_2) rfl (tlt hlt).2.2.1 (by decide) (by decide) ?_
    show Steps p.tables e below (T0.setTop (mkF m 9 #[.val (.int x0), .val (.int y0)] [])) _
    refine XS.iloadN X0.here hx rfl (hb hby d_jdk_29_69_9) rfl ?_
    exact k
  exact OEnds.ret X0 hx hret hlk rfl (Or.inl ⟨rfl, by simp, _, rfl⟩) (hb hby d_jdk_29_69_10) (by decide) (by decide) (by rw [e0]; exact ⟨rfl, N0, rfl⟩)
-- java/util/Arrays.checkLength:(II)V
def Q_checkLen (Z : State) (x0 : Int32) (y0 : Int32) (h0 : Heap) (v : Option Value) (h : Heap) (L : List Loc) : Prop := v = none ∧ Fr Z.heap.size L ∧ h = h0
theorem ef_checkLen (m : MethodId) (x0 : Int32) (y0 : Int32) : entryFrame m #[(.int x0), (.int y0)] 2 = mkF m 0 #[.val (.int x0), .val (.int y0)] [] := by first | (simp [entryFrame, mkF, argsToLocals, Value.category]; done) | rfl
theorem pn_4 : plainName "java/util/Arrays" = true := by first | (simp [plainName, overriddenIn]; done) | decide +kernel
theorem d_jdk_65_131_0 : decode jdk_65_method_131_code 0 = .ok (.iload_n 1, 1) := by decide +kernel
theorem d_jdk_65_131_1 : decode jdk_65_method_131_code 1 = .ok (.iload_n 0, 1) := by decide +kernel
theorem d_jdk_65_131_2 : decode jdk_65_method_131_code 2 = .ok (.if_icmp .ge 35, 3) := by decide +kernel
theorem d_jdk_65_131_37 : decode jdk_65_method_131_code 37 = .ok (.return_, 1) := by decide +kernel
set_option maxRecDepth 65536 in
set_option maxHeartbeats 40000000 in
theorem rm_checkLen (l : Launch) {Z : State} {a0 : Array Value} (hD : Wd Z a0) (x0 : Int32) (y0 : Int32) {h0 : Heap} (O0 : Ext Z.heap h0) (hge : ¬ y0 < x0) :
    Con l Z (⟨"java/util/Arrays", "checkLength", "(II)V"⟩ : MethodName) jdk_65_method_131_code 2 none [] ({ frames := 0, cells := 0, slots := 0, locals := 0 } : Room) #[(.int x0), (.int y0)] h0 (Q_checkLen Z x0 y0 h0) := by
  refine Con.walk (plainFor_of_name pn_4) ?_
  intro p e s m below meth c T0 X0 hx hZ hby hml hown hnm hret hlk e0
  obtain ⟨hw, cz, S_CS, hcz⟩ := id hD
  have N0 := Fr.nil Z.heap.size
  refine OEnds.cast (ef_checkLen m x0 y0) ?_
  refine OEnds.st (S' := T0.setTop (mkF m 37 #[.val (.int x0), .val (.int y0)] [])) (fun _ k => ?_) ?_
  · show Steps p.tables e below (T0.setTop (mkF m 0 #[.val (.int x0), .val (.int y0)] [])) _
    refine XS.iloadN X0.here hx rfl (hb hby d_jdk_65_131_0) rfl ?_
    show Steps p.tables e below (T0.setTop (mkF m 1 #[.val (.int x0), .val (.int y0)] [(.int y0)])) _
    refine XS.iloadN X0.here hx rfl (hb hby d_jdk_65_131_1) rfl ?_
    show Steps p.tables e below (T0.setTop (mkF m 2 #[.val (.int x0), .val (.int y0)] [(.int x0), (.int y0)])) _
    refine XS.icmpYes X0.here hx rfl (pc0 := 2) (pc' := 37) rfl (hb hby d_jdk_65_131_2) rfl (flt hge).2.1 (by decide) (by decide) ?_
    exact k
  exact OEnds.retV X0 hx hret hlk (hb hby d_jdk_65_131_37) (by decide) (by decide) (by rw [e0]; exact ⟨rfl, N0, rfl⟩)
-- java/util/Arrays.copyOfRangeByte:([BII)[B
def Q_corByte (Z : State) (t : Addr) (k : ClassId) (cN n : Nat) (vs : List Value) (h0 : Heap) (v : Option Value) (h : Heap) (L : List Loc) : Prop := ∃ (r : Addr) (kr : ClassId), v = some (.ref r) ∧ Fr Z.heap.size L ∧ Keep h0 h [] ∧ h0.size ≤ r ∧ Arv Z h r kr .byte (Int32.ofNat n) (vs.take n) (.int 0)
theorem ef_corByte (m : MethodId) (t : Addr) : entryFrame m #[(.ref t), (.int (0 : Int32)), (.int (Int32.ofNat n))] 5 = mkF m 0 #[.val (.ref t), .val (.int (0 : Int32)), .val (.int (Int32.ofNat n)), .unset, .unset] [] := by first | (simp [entryFrame, mkF, argsToLocals, Value.category]; done) | rfl
theorem d_jdk_65_133_0 : decode jdk_65_method_133_code 0 = .ok (.iload_n 1, 1) := by decide +kernel
theorem d_jdk_65_133_1 : decode jdk_65_method_133_code 1 = .ok (.iload_n 2, 1) := by decide +kernel
theorem d_jdk_65_133_2 : decode jdk_65_method_133_code 2 = .ok (.invokestatic 343, 3) := by decide +kernel
theorem pd_13 : parseMethodDescriptor "(II)V" = some ⟨[.int, .int], none⟩ := by decide +kernel
theorem d_jdk_65_133_5 : decode jdk_65_method_133_code 5 = .ok (.iload_n 2, 1) := by decide +kernel
theorem d_jdk_65_133_6 : decode jdk_65_method_133_code 6 = .ok (.iload_n 1, 1) := by decide +kernel
theorem d_jdk_65_133_7 : decode jdk_65_method_133_code 7 = .ok (.isub, 1) := by decide +kernel
theorem d_jdk_65_133_8 : decode jdk_65_method_133_code 8 = .ok (.istore_n 3, 1) := by decide +kernel
theorem d_jdk_65_133_9 : decode jdk_65_method_133_code 9 = .ok (.iload_n 3, 1) := by decide +kernel
theorem d_jdk_65_133_10 : decode jdk_65_method_133_code 10 = .ok (.newarray .byte, 2) := by decide +kernel
theorem d_jdk_65_133_12 : decode jdk_65_method_133_code 12 = .ok (.astore 4, 2) := by decide +kernel
theorem d_jdk_65_133_14 : decode jdk_65_method_133_code 14 = .ok (.aload_n 0, 1) := by decide +kernel
theorem d_jdk_65_133_15 : decode jdk_65_method_133_code 15 = .ok (.iload_n 1, 1) := by decide +kernel
theorem d_jdk_65_133_16 : decode jdk_65_method_133_code 16 = .ok (.aload 4, 2) := by decide +kernel
theorem d_jdk_65_133_18 : decode jdk_65_method_133_code 18 = .ok (.iconst 0, 1) := by decide +kernel
theorem d_jdk_65_133_19 : decode jdk_65_method_133_code 19 = .ok (.aload_n 0, 1) := by decide +kernel
theorem d_jdk_65_133_20 : decode jdk_65_method_133_code 20 = .ok (.arraylength, 1) := by decide +kernel
theorem d_jdk_65_133_21 : decode jdk_65_method_133_code 21 = .ok (.iload_n 1, 1) := by decide +kernel
theorem d_jdk_65_133_22 : decode jdk_65_method_133_code 22 = .ok (.isub, 1) := by decide +kernel
theorem d_jdk_65_133_23 : decode jdk_65_method_133_code 23 = .ok (.iload_n 3, 1) := by decide +kernel
theorem d_jdk_65_133_24 : decode jdk_65_method_133_code 24 = .ok (.invokestatic 304, 3) := by decide +kernel
theorem pd_14 : parseMethodDescriptor "(II)I" = some ⟨[.int, .int], some .int⟩ := by decide +kernel
theorem d_jdk_65_133_27 : decode jdk_65_method_133_code 27 = .ok (.invokestatic 150, 3) := by decide +kernel
theorem d_jdk_65_133_30 : decode jdk_65_method_133_code 30 = .ok (.aload 4, 2) := by decide +kernel
theorem d_jdk_65_133_32 : decode jdk_65_method_133_code 32 = .ok (.areturn, 1) := by decide +kernel
set_option maxRecDepth 65536 in
set_option maxHeartbeats 40000000 in
theorem rm_corByte (l : Launch) {Z : State} {a0 : Array Value} (hD : Wd Z a0) (t : Addr) (k : ClassId) (cN n : Nat) (vs : List Value) {h0 : Heap} (O0 : Ext Z.heap h0) (V_t : Arv Z h0 t k .byte (Int32.ofNat cN) vs (.int 0)) (hvs : vs.length = cN) (hcN : cN ≤ 4000) (hn : n < cN) (hcap : n ≤ 18) :
    Con l Z (⟨"java/util/Arrays", "copyOfRangeByte", "([BII)[B"⟩ : MethodName) jdk_65_method_133_code 5 (some (.array .byte)) [] ({ frames := 1, cells := 1, slots := 18, locals := 18 } : Room) #[(.ref t), (.int (0 : Int32)), (.int (Int32.ofNat n))] h0 (Q_corByte Z t k cN n vs h0) := by
  refine Con.walk (plainFor_of_name pn_4) ?_
  intro p e s m below meth c T0 X0 hx hZ hby hml hown hnm hret hlk e0
  obtain ⟨hw, cz, S_CS, hcz⟩ := id hD
  have N0 := Fr.nil Z.heap.size
  have K0 : Keep h0 h0 [] := Keep.refl _ _
  refine OEnds.cast (ef_corByte m t) ?_
  have hn31 : n < 2 ^ 31 := by omega
  have hc31 : cN < 2 ^ 31 := by omega
  refine OEnds.st (S' := T0.setTop (mkF m 2 #[.val (.ref t), .val (.int (0 : Int32)), .val (.int (Int32.ofNat n)), .unset, .unset] [(.int (Int32.ofNat n)), (.int (0 : Int32))])) (fun _ k => ?_) ?_
  · show Steps p.tables e below (T0.setTop (mkF m 0 #[.val (.ref t), .val (.int (0 : Int32)), .val (.int (Int32.ofNat n)), .unset, .unset] [])) _
    refine XS.iloadN X0.here hx rfl (hb hby d_jdk_65_133_0) rfl ?_
    show Steps p.tables e below (T0.setTop (mkF m 1 #[.val (.ref t), .val (.int (0 : Int32)), .val (.int (Int32.ofNat n)), .unset, .unset] [(.int (0 : Int32))])) _
    refine XS.iloadN X0.here hx rfl (hb hby d_jdk_65_133_1) rfl ?_
    exact k
  obtain ⟨_, T1, h1, L1, X1, e1, hQ1, st1⟩ := callC X0 hx hZ hown (hw _ (List.mem_of_getElem? (i := 182) rfl)) (hw _ (List.mem_of_getElem? (i := 183) rfl)) (hw _ (List.mem_of_getElem? (i := 177) rfl)) (hw _ (List.mem_of_getElem? (i := 184) rfl)) (by decide) (kc := 0) (ks := 0) (Con.sb (W := 0) (rm_checkLen l hD (0 : Int32) (Int32.ofNat n) O0 (ofn_nneg hn31)) hZ (hw _ (List.mem_of_getElem? (i := 184) rfl)) (hw _ (List.mem_of_getElem? (i := 177) rfl)) (by decide) (by decide)) e0 (g := (mkF m 2 #[.val (.ref t), .val (.int (0 : Int32)), .val (.int (Int32.ofNat n)), .unset, .unset] [(.int (Int32.ofNat n)), (.int (0 : Int32))])) rfl (by rw [hml]; rfl) (argsL := [(.int (0 : Int32)), (.int (Int32.ofNat n))]) (rest := []) (lenOf pd_13 rfl) rfl (by show 2 * 0 + _ ≤ _; exact Nat.le_of_eq rfl) (hb hby d_jdk_65_133_2) (by decide) (by decide)
  obtain ⟨rfl, Nq1, Hq1⟩ := hQ1
  refine OEnds.st (S' := T1.setTop (mkF m 5 #[.val (.ref t), .val (.int (0 : Int32)), .val (.int (Int32.ofNat n)), .unset, .unset] [])) st1 ?_
  replace N0 := Fr.app N0 Nq1
  replace e1 := e1.trans Hq1
  refine OEnds.st (S' := T1.setTop (mkF m 8 #[.val (.ref t), .val (.int (0 : Int32)), .val (.int (Int32.ofNat n)), .unset, .unset] [(.int ((Int32.ofNat n) - (0 : Int32)))])) (fun _ k => ?_) ?_
  · show Steps p.tables e below (T1.setTop (mkF m 5 #[.val (.ref t), .val (.int (0 : Int32)), .val (.int (Int32.ofNat n)), .unset, .unset] [])) _
    refine XS.iloadN X1.here hx rfl (hb hby d_jdk_65_133_5) rfl ?_
    show Steps p.tables e below (T1.setTop (mkF m 6 #[.val (.ref t), .val (.int (0 : Int32)), .val (.int (Int32.ofNat n)), .unset, .unset] [(.int (Int32.ofNat n))])) _
    refine XS.iloadN X1.here hx rfl (hb hby d_jdk_65_133_6) rfl ?_
    show Steps p.tables e below (T1.setTop (mkF m 7 #[.val (.ref t), .val (.int (0 : Int32)), .val (.int (Int32.ofNat n)), .unset, .unset] [(.int (0 : Int32)), (.int (Int32.ofNat n))])) _
    refine XS.isub X1.here hx rfl (hb hby d_jdk_65_133_7) rfl ?_
    exact k
  rw [sub0]
  refine OEnds.st (S' := T1.setTop (mkF m 10 #[.val (.ref t), .val (.int (0 : Int32)), .val (.int (Int32.ofNat n)), .val (.int (Int32.ofNat n)), .unset] [(.int (Int32.ofNat n))])) (fun _ k => ?_) ?_
  · show Steps p.tables e below (T1.setTop (mkF m 8 #[.val (.ref t), .val (.int (0 : Int32)), .val (.int (Int32.ofNat n)), .unset, .unset] [(.int (Int32.ofNat n))])) _
    refine XS.istoreN X1.here hx rfl (hb hby d_jdk_65_133_8) rfl (l' := #[.val (.ref t), .val (.int (0 : Int32)), .val (.int (Int32.ofNat n)), .val (.int (Int32.ofNat n)), .unset]) rfl ?_
    show Steps p.tables e below (T1.setTop (mkF m 9 #[.val (.ref t), .val (.int (0 : Int32)), .val (.int (Int32.ofNat n)), .val (.int (Int32.ofNat n)), .unset] [])) _
    refine XS.iloadN X1.here hx rfl (hb hby d_jdk_65_133_9) rfl ?_
    exact k
  obtain ⟨T2, h2, k2, X2, e2, E2, A2, st2⟩ := newP X1 hx hZ (hw _ (List.mem_of_getElem? (i := 19) rfl)) e1 (g := (mkF m 10 #[.val (.ref t), .val (.int (0 : Int32)), .val (.int (Int32.ofNat n)), .val (.int (Int32.ofNat n)), .unset] [(.int (Int32.ofNat n))])) rfl (hb hby d_jdk_65_133_10) rfl (ofn_nneg hn31) (cap := 18) (by rw [ofn_clamp hn31]; exact hcap) (by decide) (by decide) (by decide)
  obtain ⟨b2, g2⟩ : ∃ z, z = h0.size := ⟨_, rfl⟩
  rw [← g2] at A2 st2
  refine OEnds.st (S' := T2.setTop (mkF m 12 #[.val (.ref t), .val (.int (0 : Int32)), .val (.int (Int32.ofNat n)), .val (.int (Int32.ofNat n)), .unset] [(.ref b2)])) st2 ?_
  have ne_t_b2 : t ≠ b2 := Nat.ne_of_lt (Nat.lt_of_lt_of_le V_t.lt (Nat.le_of_eq g2.symm))
  have ge_b2 : Z.heap.size ≤ b2 := Nat.le_trans O0.1 (Nat.le_of_eq g2.symm)
  have sz_b2 : h0.size ≤ b2 := Nat.le_trans K0.1 (Nat.le_of_eq g2.symm)
  replace V_t := V_t.ext E2
  replace O0 : Ext Z.heap h2 := ext_trans O0 E2
  replace K0 : Keep h0 h2 [] := K0.ext E2
  have V_b2 : Arv Z h2 b2 k2 .byte (Int32.ofNat n) (List.replicate n (.int (0 : Int32))) (.int (0 : Int32)) := (Arv.new A2 (ofn_nneg hn31)).pad (pad_rep [] ((.int (0 : Int32)) : Value) n)
  refine OEnds.st (S' := T2.setTop (mkF m 20 #[.val (.ref t), .val (.int (0 : Int32)), .val (.int (Int32.ofNat n)), .val (.int (Int32.ofNat n)), .val (.ref b2)] [(.ref t), (.int (0 : Int32)), (.ref b2), (.int (0 : Int32)), (.ref t)])) (fun _ k => ?_) ?_
  · show Steps p.tables e below (T2.setTop (mkF m 12 #[.val (.ref t), .val (.int (0 : Int32)), .val (.int (Int32.ofNat n)), .val (.int (Int32.ofNat n)), .unset] [(.ref b2)])) _
    refine XS.astore X2.here hx rfl (hb hby d_jdk_65_133_12) rfl rfl (l' := #[.val (.ref t), .val (.int (0 : Int32)), .val (.int (Int32.ofNat n)), .val (.int (Int32.ofNat n)), .val (.ref b2)]) rfl ?_
    show Steps p.tables e below (T2.setTop (mkF m 14 #[.val (.ref t), .val (.int (0 : Int32)), .val (.int (Int32.ofNat n)), .val (.int (Int32.ofNat n)), .val (.ref b2)] [])) _
    refine XS.aloadN X2.here hx rfl (hb hby d_jdk_65_133_14) rfl rfl ?_
    show Steps p.tables e below (T2.setTop (mkF m 15 #[.val (.ref t), .val (.int (0 : Int32)), .val (.int (Int32.ofNat n)), .val (.int (Int32.ofNat n)), .val (.ref b2)] [(.ref t)])) _
    refine XS.iloadN X2.here hx rfl (hb hby d_jdk_65_133_15) rfl ?_
    show Steps p.tables e below (T2.setTop (mkF m 16 #[.val (.ref t), .val (.int (0 : Int32)), .val (.int (Int32.ofNat n)), .val (.int (Int32.ofNat n)), .val (.ref b2)] [(.int (0 : Int32)), (.ref t)])) _
    refine XS.aload X2.here hx rfl (hb hby d_jdk_65_133_16) rfl rfl ?_
    show Steps p.tables e below (T2.setTop (mkF m 18 #[.val (.ref t), .val (.int (0 : Int32)), .val (.int (Int32.ofNat n)), .val (.int (Int32.ofNat n)), .val (.ref b2)] [(.ref b2), (.int (0 : Int32)), (.ref t)])) _
    refine XS.iconst X2.here hx rfl (hb hby d_jdk_65_133_18) ?_
    show Steps p.tables e below (T2.setTop (mkF m 19 #[.val (.ref t), .val (.int (0 : Int32)), .val (.int (Int32.ofNat n)), .val (.int (Int32.ofNat n)), .val (.ref b2)] [(.int (0 : Int32)), (.ref b2), (.int (0 : Int32)), (.ref t)])) _
    refine XS.aloadN X2.here hx rfl (hb hby d_jdk_65_133_19) rfl rfl ?_
    exact k
  obtain ⟨cl_t_3, Ar_t_3, q_t_3, S_t_3, N_t_3, H_t_3, G_t_3⟩ := id V_t
  refine OEnds.st (S' := T2.setTop (mkF m 21 #[.val (.ref t), .val (.int (0 : Int32)), .val (.int (Int32.ofNat n)), .val (.int (Int32.ofNat n)), .val (.ref b2)] [(.int (Int32.ofNat cN)), (.int (0 : Int32)), (.ref b2), (.int (0 : Int32)), (.ref t)])) (fun tg kk => X2.arraylength hx (by rw [e2]; exact Ar_t_3.1) (State.isArrayOf_alike hZ.alike Ar_t_3.2.1) (g := (mkF m 20 #[.val (.ref t), .val (.int (0 : Int32)), .val (.int (Int32.ofNat n)), .val (.int (Int32.ofNat n)), .val (.ref b2)] [(.ref t), (.int (0 : Int32)), (.ref b2), (.int (0 : Int32)), (.ref t)])) rfl rfl (hb hby d_jdk_65_133_20) tg (by rw [len_of S_t_3 N_t_3]; exact kk)) ?_
  refine OEnds.st (S' := T2.setTop (mkF m 23 #[.val (.ref t), .val (.int (0 : Int32)), .val (.int (Int32.ofNat n)), .val (.int (Int32.ofNat n)), .val (.ref b2)] [(.int ((Int32.ofNat cN) - (0 : Int32))), (.int (0 : Int32)), (.ref b2), (.int (0 : Int32)), (.ref t)])) (fun _ k => ?_) ?_
  · show Steps p.tables e below (T2.setTop (mkF m 21 #[.val (.ref t), .val (.int (0 : Int32)), .val (.int (Int32.ofNat n)), .val (.int (Int32.ofNat n)), .val (.ref b2)] [(.int (Int32.ofNat cN)), (.int (0 : Int32)), (.ref b2), (.int (0 : Int32)), (.ref t)])) _
    refine XS.iloadN X2.here hx rfl (hb hby d_jdk_65_133_21) rfl ?_
    show Steps p.tables e below (T2.setTop (mkF m 22 #[.val (.ref t), .val (.int (0 : Int32)), .val (.int (Int32.ofNat n)), .val (.int (Int32.ofNat n)), .val (.ref b2)] [(.int (0 : Int32)), (.int (Int32.ofNat cN)), (.int (0 : Int32)), (.ref b2), (.int (0 : Int32)), (.ref t)])) _
    refine XS.isub X2.here hx rfl (hb hby d_jdk_65_133_22) rfl ?_
    exact k
  rw [sub0]
  refine OEnds.st (S' := T2.setTop (mkF m 24 #[.val (.ref t), .val (.int (0 : Int32)), .val (.int (Int32.ofNat n)), .val (.int (Int32.ofNat n)), .val (.ref b2)] [(.int (Int32.ofNat n)), (.int (Int32.ofNat cN)), (.int (0 : Int32)), (.ref b2), (.int (0 : Int32)), (.ref t)])) (fun _ k => ?_) ?_
  · show Steps p.tables e below (T2.setTop (mkF m 23 #[.val (.ref t), .val (.int (0 : Int32)), .val (.int (Int32.ofNat n)), .val (.int (Int32.ofNat n)), .val (.ref b2)] [(.int (Int32.ofNat cN)), (.int (0 : Int32)), (.ref b2), (.int (0 : Int32)), (.ref t)])) _
    refine XS.iloadN X2.here hx rfl (hb hby d_jdk_65_133_23) rfl ?_
    exact k
  obtain ⟨_, T4, h4, L4, X4, e4, hQ4, st4⟩ := callC X2 hx hZ hown (hw _ (List.mem_of_getElem? (i := 185) rfl)) (hw _ (List.mem_of_getElem? (i := 186) rfl)) (hw _ (List.mem_of_getElem? (i := 187) rfl)) (hw _ (List.mem_of_getElem? (i := 188) rfl)) (by decide) (kc := 0) (ks := 0) (Con.sb (W := 4) (rm_mathMin l hD (Int32.ofNat cN) (Int32.ofNat n) O0 ((ofn_lt hn31 hc31).mpr hn)) hZ (hw _ (List.mem_of_getElem? (i := 188) rfl)) (hw _ (List.mem_of_getElem? (i := 187) rfl)) (by decide) (by decide)) e2 (g := (mkF m 24 #[.val (.ref t), .val (.int (0 : Int32)), .val (.int (Int32.ofNat n)), .val (.int (Int32.ofNat n)), .val (.ref b2)] [(.int (Int32.ofNat n)), (.int (Int32.ofNat cN)), (.int (0 : Int32)), (.ref b2), (.int (0 : Int32)), (.ref t)])) rfl (by rw [hml]; rfl) (argsL := [(.int (Int32.ofNat cN)), (.int (Int32.ofNat n))]) (rest := [(.int (0 : Int32)), (.ref b2), (.int (0 : Int32)), (.ref t)]) (lenOf pd_14 rfl) rfl (by show 2 * 0 + _ ≤ _; exact Nat.le_of_eq rfl) (hb hby d_jdk_65_133_24) (by decide) (by decide)
  obtain ⟨rfl, Nq4, Hq4⟩ := hQ4
  refine OEnds.st (S' := T4.setTop (mkF m 27 #[.val (.ref t), .val (.int (0 : Int32)), .val (.int (Int32.ofNat n)), .val (.int (Int32.ofNat n)), .val (.ref b2)] [(.int (Int32.ofNat n)), (.int (0 : Int32)), (.ref b2), (.int (0 : Int32)), (.ref t)])) st4 ?_
  replace N0 := Fr.app N0 Nq4
  replace e4 := e4.trans Hq4
  obtain ⟨T5, h5, L5, X5, e5, Nw5, Kq5, V5, st5⟩ := cpA X4 hx hZ hown (hw _ (List.mem_of_getElem? (i := 189) rfl)) (hw _ (List.mem_of_getElem? (i := 120) rfl)) (hw _ (List.mem_of_getElem? (i := 118) rfl)) (hw _ (List.mem_of_getElem? (i := 119) rfl)) e4 V_t V_b2 (us := _) (Or.inl ⟨rfl, rfl⟩) (by decide) (by decide) (ofn_nneg hn31) (by rw [ofn_clamp hn31, ofn_clamp hc31]; exact Nat.le_trans (Nat.le_of_eq (Nat.zero_add _)) (Nat.le_of_lt hn)) (Nat.le_of_eq (Nat.zero_add _)) rfl (by rw [ofn_clamp hn31, List.length_replicate]; exact Nat.le_of_eq (Nat.zero_add _)) N0 ge_b2 (g := (mkF m 27 #[.val (.ref t), .val (.int (0 : Int32)), .val (.int (Int32.ofNat n)), .val (.int (Int32.ofNat n)), .val (.ref b2)] [(.int (Int32.ofNat n)), (.int (0 : Int32)), (.ref b2), (.int (0 : Int32)), (.ref t)])) rfl (by rw [hml]; rfl) rfl (hb hby d_jdk_65_133_27) (by decide) (W := 0) (by show 2 * 0 + _ ≤ _; exact Nat.le_of_eq rfl) (by decide)
  replace N0 := Nw5
  refine OEnds.st (S' := T5.setTop (mkF m 30 #[.val (.ref t), .val (.int (0 : Int32)), .val (.int (Int32.ofNat n)), .val (.int (Int32.ofNat n)), .val (.ref b2)] [])) st5 ?_
  replace V_t := V_t.keep Kq5 (ninS ne_t_b2 nin0)
  replace O0 : Ext Z.heap h5 := ext_keep O0 Kq5 (allS ge_b2 all0)
  replace K0 : Keep h0 h5 [] := K0.trans Kq5 (allS (Or.inr sz_b2) all0)
  have V_b2_5 : Arv Z h5 b2 k2 .byte (Int32.ofNat n) (vs.take n) (.int (0 : Int32)) := by rw [← (cr_list (by omega) hn31)]; exact V5
  refine OEnds.st (S' := T5.setTop (mkF m 32 #[.val (.ref t), .val (.int (0 : Int32)), .val (.int (Int32.ofNat n)), .val (.int (Int32.ofNat n)), .val (.ref b2)] [(.ref b2)])) (fun _ k => ?_) ?_
  · show Steps p.tables e below (T5.setTop (mkF m 30 #[.val (.ref t), .val (.int (0 : Int32)), .val (.int (Int32.ofNat n)), .val (.int (Int32.ofNat n)), .val (.ref b2)] [])) _
    refine XS.aload X5.here hx rfl (hb hby d_jdk_65_133_30) rfl rfl ?_
    exact k
  exact OEnds.ret X5 hx hret hlk rfl (Or.inr (Or.inr (Or.inr (Or.inr ⟨rfl, rfl, rfl⟩)))) (hb hby d_jdk_65_133_32) (by decide) (by decide) (by rw [e5]; exact ⟨b2, _, rfl, N0, K0, sz_b2, V_b2_5⟩)
-- java/util/Arrays.copyOfRange:([BII)[B
def Q_copyOR (Z : State) (t : Addr) (k : ClassId) (cN n : Nat) (vs : List Value) (h0 : Heap) (v : Option Value) (h : Heap) (L : List Loc) : Prop := ∃ (r : Addr) (kr : ClassId), v = some (.ref r) ∧ Fr Z.heap.size L ∧ Keep h0 h [] ∧ h0.size ≤ r ∧ Arv Z h r kr .byte (Int32.ofNat n) (vs.take n) (.int 0)
theorem ef_copyOR (m : MethodId) (t : Addr) : entryFrame m #[(.ref t), (.int (0 : Int32)), (.int (Int32.ofNat n))] 3 = mkF m 0 #[.val (.ref t), .val (.int (0 : Int32)), .val (.int (Int32.ofNat n))] [] := by first | (simp [entryFrame, mkF, argsToLocals, Value.category]; done) | rfl
theorem d_jdk_65_132_0 : decode jdk_65_method_132_code 0 = .ok (.iload_n 1, 1) := by decide +kernel
theorem d_jdk_65_132_1 : decode jdk_65_method_132_code 1 = .ok (.ifCond .ne 9, 3) := by decide +kernel
theorem d_jdk_65_132_4 : decode jdk_65_method_132_code 4 = .ok (.iload_n 2, 1) := by decide +kernel
theorem d_jdk_65_132_5 : decode jdk_65_method_132_code 5 = .ok (.aload_n 0, 1) := by decide +kernel
theorem d_jdk_65_132_6 : decode jdk_65_method_132_code 6 = .ok (.arraylength, 1) := by decide +kernel
theorem d_jdk_65_132_7 : decode jdk_65_method_132_code 7 = .ok (.if_icmp .eq 10, 3) := by decide +kernel
theorem d_jdk_65_132_10 : decode jdk_65_method_132_code 10 = .ok (.aload_n 0, 1) := by decide +kernel
theorem d_jdk_65_132_11 : decode jdk_65_method_132_code 11 = .ok (.iload_n 1, 1) := by decide +kernel
theorem d_jdk_65_132_12 : decode jdk_65_method_132_code 12 = .ok (.iload_n 2, 1) := by decide +kernel
theorem d_jdk_65_132_13 : decode jdk_65_method_132_code 13 = .ok (.invokestatic 339, 3) := by decide +kernel
theorem pd_15 : parseMethodDescriptor "([BII)[B" = some ⟨[(.array .byte), .int, .int], some (.array .byte)⟩ := by decide +kernel
theorem d_jdk_65_132_16 : decode jdk_65_method_132_code 16 = .ok (.areturn, 1) := by decide +kernel
set_option maxRecDepth 65536 in
set_option maxHeartbeats 40000000 in
theorem rm_copyOR (l : Launch) {Z : State} {a0 : Array Value} (hD : Wd Z a0) (t : Addr) (k : ClassId) (cN n : Nat) (vs : List Value) {h0 : Heap} (O0 : Ext Z.heap h0) (V_t : Arv Z h0 t k .byte (Int32.ofNat cN) vs (.int 0)) (hvs : vs.length = cN) (hcN : cN ≤ 4000) (hn : n < cN) (hcap : n ≤ 18) :
    Con l Z (⟨"java/util/Arrays", "copyOfRange", "([BII)[B"⟩ : MethodName) jdk_65_method_132_code 3 (some (.array .byte)) [] ({ frames := 2, cells := 1, slots := 18, locals := 34 } : Room) #[(.ref t), (.int (0 : Int32)), (.int (Int32.ofNat n))] h0 (Q_copyOR Z t k cN n vs h0) := by
  refine Con.walk (plainFor_of_name pn_4) ?_
  intro p e s m below meth c T0 X0 hx hZ hby hml hown hnm hret hlk e0
  obtain ⟨hw, cz, S_CS, hcz⟩ := id hD
  have N0 := Fr.nil Z.heap.size
  have K0 : Keep h0 h0 [] := Keep.refl _ _
  refine OEnds.cast (ef_copyOR m t) ?_
  have hn31 : n < 2 ^ 31 := by omega
  have hc31 : cN < 2 ^ 31 := by omega
  refine OEnds.st (S' := T0.setTop (mkF m 6 #[.val (.ref t), .val (.int (0 : Int32)), .val (.int (Int32.ofNat n))] [(.ref t), (.int (Int32.ofNat n))])) (fun _ k => ?_) ?_
  · show Steps p.tables e below (T0.setTop (mkF m 0 #[.val (.ref t), .val (.int (0 : Int32)), .val (.int (Int32.ofNat n))] [])) _
    refine XS.iloadN X0.here hx rfl (hb hby d_jdk_65_132_0) rfl ?_
    show Steps p.tables e below (T0.setTop (mkF m 1 #[.val (.ref t), .val (.int (0 : Int32)), .val (.int (Int32.ofNat n))] [(.int (0 : Int32))])) _
    refine XS.ifNo X0.here hx rfl (hb hby d_jdk_65_132_1) rfl ((if0 _ _).trans (teq (by decide)).2) ?_
    show Steps p.tables e below (T0.setTop (mkF m 4 #[.val (.ref t), .val (.int (0 : Int32)), .val (.int (Int32.ofNat n))] [])) _
    refine XS.iloadN X0.here hx rfl (hb hby d_jdk_65_132_4) rfl ?_
    show Steps p.tables e below (T0.setTop (mkF m 5 #[.val (.ref t), .val (.int (0 : Int32)), .val (.int (Int32.ofNat n))] [(.int (Int32.ofNat n))])) _
    refine XS.aloadN X0.here hx rfl (hb hby d_jdk_65_132_5) rfl rfl ?_
    exact k
  obtain ⟨cl_t_1, Ar_t_1, q_t_1, S_t_1, N_t_1, H_t_1, G_t_1⟩ := id V_t
  refine OEnds.st (S' := T0.setTop (mkF m 7 #[.val (.ref t), .val (.int (0 : Int32)), .val (.int (Int32.ofNat n))] [(.int (Int32.ofNat cN)), (.int (Int32.ofNat n))])) (fun tg kk => X0.arraylength hx (by rw [e0]; exact Ar_t_1.1) (State.isArrayOf_alike hZ.alike Ar_t_1.2.1) (g := (mkF m 6 #[.val (.ref t), .val (.int (0 : Int32)), .val (.int (Int32.ofNat n))] [(.ref t), (.int (Int32.ofNat n))])) rfl rfl (hb hby d_jdk_65_132_6) tg (by rw [len_of S_t_1 N_t_1]; exact kk)) ?_
  refine OEnds.st (S' := T0.setTop (mkF m 13 #[.val (.ref t), .val (.int (0 : Int32)), .val (.int (Int32.ofNat n))] [(.int (Int32.ofNat n)), (.int (0 : Int32)), (.ref t)])) (fun _ k => ?_) ?_
  · show Steps p.tables e below (T0.setTop (mkF m 7 #[.val (.ref t), .val (.int (0 : Int32)), .val (.int (Int32.ofNat n))] [(.int (Int32.ofNat cN)), (.int (Int32.ofNat n))])) _
    refine XS.icmpNo X0.here hx rfl (hb hby d_jdk_65_132_7) rfl (feq (ofn_ne (Nat.ne_of_lt hn) hn31 hc31)).1 ?_
    show Steps p.tables e below (T0.setTop (mkF m 10 #[.val (.ref t), .val (.int (0 : Int32)), .val (.int (Int32.ofNat n))] [])) _
    refine XS.aloadN X0.here hx rfl (hb hby d_jdk_65_132_10) rfl rfl ?_
    show Steps p.tables e below (T0.setTop (mkF m 11 #[.val (.ref t), .val (.int (0 : Int32)), .val (.int (Int32.ofNat n))] [(.ref t)])) _
    refine XS.iloadN X0.here hx rfl (hb hby d_jdk_65_132_11) rfl ?_
    show Steps p.tables e below (T0.setTop (mkF m 12 #[.val (.ref t), .val (.int (0 : Int32)), .val (.int (Int32.ofNat n))] [(.int (0 : Int32)), (.ref t)])) _
    refine XS.iloadN X0.here hx rfl (hb hby d_jdk_65_132_12) rfl ?_
    exact k
  obtain ⟨_, T2, h2, L2, X2, e2, hQ2, st2⟩ := callC X0 hx hZ hown (hw _ (List.mem_of_getElem? (i := 179) rfl)) (hw _ (List.mem_of_getElem? (i := 180) rfl)) (hw _ (List.mem_of_getElem? (i := 177) rfl)) (hw _ (List.mem_of_getElem? (i := 181) rfl)) (by decide) (kc := 1) (ks := 18) (Con.sb (W := 0) (rm_corByte l hD t k cN n vs O0 V_t hvs hcN hn hcap) hZ (hw _ (List.mem_of_getElem? (i := 181) rfl)) (hw _ (List.mem_of_getElem? (i := 177) rfl)) (by decide) (by decide)) e0 (g := (mkF m 13 #[.val (.ref t), .val (.int (0 : Int32)), .val (.int (Int32.ofNat n))] [(.int (Int32.ofNat n)), (.int (0 : Int32)), (.ref t)])) rfl (by rw [hml]; rfl) (argsL := [(.ref t), (.int (0 : Int32)), (.int (Int32.ofNat n))]) (rest := []) (lenOf pd_15 rfl) rfl (by show 2 * 0 + _ ≤ _; exact Nat.le_of_eq rfl) (hb hby d_jdk_65_132_13) (by decide) (by decide)
  obtain ⟨r2, kr2, rfl, Nq2, Kq2, szq2, V2⟩ := hQ2
  refine OEnds.st (S' := T2.setTop (mkF m 16 #[.val (.ref t), .val (.int (0 : Int32)), .val (.int (Int32.ofNat n))] [(.ref r2)])) st2 ?_
  replace N0 := Fr.app N0 Nq2
  have ne_t_r2 : t ≠ r2 := Nat.ne_of_lt (Nat.lt_of_lt_of_le V_t.lt szq2)
  have ge_r2 : Z.heap.size ≤ r2 := Nat.le_trans O0.1 szq2
  have sz_r2 : h0.size ≤ r2 := Nat.le_trans K0.1 szq2
  replace V_t := V_t.keep Kq2 nin0
  replace O0 : Ext Z.heap h2 := ext_keep O0 Kq2 all0
  replace K0 : Keep h0 h2 [] := K0.trans Kq2 all0
  exact OEnds.ret X2 hx hret hlk rfl (Or.inr (Or.inr (Or.inr (Or.inr ⟨rfl, rfl, rfl⟩)))) (hb hby d_jdk_65_132_16) (by decide) (by decide) (by rw [e2]; exact ⟨r2, kr2, rfl, N0, K0, sz_r2, V2⟩)
-- java/lang/String.<init>:(Ljava/lang/AbstractStringBuilder;Ljava/lang/Void;)V
def Q_strInitASB (Z : State) (a : Addr) (b : Addr) (t : Addr) (k : ClassId) (cN n : Nat) (vs : List Value) (h0 : Heap) (v : Option Value) (h : Heap) (L : List Loc) : Prop := v = none ∧ Fr Z.heap.size L ∧ Keep h0 h [a] ∧ Exa Z h a "java/lang/String" ∧ Fld Z h a "java/lang/String" "coder" "B" (.int 0) ∧ ∃ (r : Addr) (kr : ClassId), h0.size ≤ r ∧ Fld Z h a "java/lang/String" "value" "[B" (.ref r) ∧ Arv Z h r kr .byte (Int32.ofNat n) (vs.take n) (.int 0)
theorem ef_strInitASB (m : MethodId) (a : Addr) (b : Addr) : entryFrame m #[(.ref a), (.ref b), .null] 5 = mkF m 0 #[.val (.ref a), .val (.ref b), .val .null, .unset, .unset] [] := by first | (simp [entryFrame, mkF, argsToLocals, Value.category]; done) | rfl
theorem d_jdk_42_150_0 : decode jdk_42_method_150_code 0 = .ok (.aload_n 0, 1) := by decide +kernel
theorem d_jdk_42_150_1 : decode jdk_42_method_150_code 1 = .ok (.invokespecial 1, 3) := by decide +kernel
theorem d_jdk_42_150_4 : decode jdk_42_method_150_code 4 = .ok (.aload_n 1, 1) := by decide +kernel
theorem d_jdk_42_150_5 : decode jdk_42_method_150_code 5 = .ok (.invokevirtual 552, 3) := by decide +kernel
theorem pd_16 : parseMethodDescriptor "()[B" = some ⟨[], some (.array .byte)⟩ := by decide +kernel
theorem d_jdk_42_150_8 : decode jdk_42_method_150_code 8 = .ok (.astore_n 3, 1) := by decide +kernel
theorem d_jdk_42_150_9 : decode jdk_42_method_150_code 9 = .ok (.aload_n 1, 1) := by decide +kernel
theorem d_jdk_42_150_10 : decode jdk_42_method_150_code 10 = .ok (.invokevirtual 549, 3) := by decide +kernel
theorem d_jdk_42_150_13 : decode jdk_42_method_150_code 13 = .ok (.istore 4, 2) := by decide +kernel
theorem d_jdk_42_150_15 : decode jdk_42_method_150_code 15 = .ok (.aload_n 1, 1) := by decide +kernel
theorem d_jdk_42_150_16 : decode jdk_42_method_150_code 16 = .ok (.invokevirtual 1047, 3) := by decide +kernel
theorem d_jdk_42_150_19 : decode jdk_42_method_150_code 19 = .ok (.ifCond .eq 22, 3) := by decide +kernel
theorem d_jdk_42_150_22 : decode jdk_42_method_150_code 22 = .ok (.aload_n 0, 1) := by decide +kernel
theorem d_jdk_42_150_23 : decode jdk_42_method_150_code 23 = .ok (.iconst 0, 1) := by decide +kernel
theorem d_jdk_42_150_24 : decode jdk_42_method_150_code 24 = .ok (.putfield 15, 3) := by decide +kernel
theorem d_jdk_42_150_27 : decode jdk_42_method_150_code 27 = .ok (.aload_n 0, 1) := by decide +kernel
theorem d_jdk_42_150_28 : decode jdk_42_method_150_code 28 = .ok (.aload_n 3, 1) := by decide +kernel
theorem d_jdk_42_150_29 : decode jdk_42_method_150_code 29 = .ok (.iconst 0, 1) := by decide +kernel
theorem d_jdk_42_150_30 : decode jdk_42_method_150_code 30 = .ok (.iload 4, 2) := by decide +kernel
theorem d_jdk_42_150_32 : decode jdk_42_method_150_code 32 = .ok (.invokestatic 54, 3) := by decide +kernel
theorem d_jdk_42_150_35 : decode jdk_42_method_150_code 35 = .ok (.putfield 9, 3) := by decide +kernel
theorem d_jdk_42_150_38 : decode jdk_42_method_150_code 38 = .ok (.goto 59, 3) := by decide +kernel
theorem d_jdk_42_150_97 : decode jdk_42_method_150_code 97 = .ok (.return_, 1) := by decide +kernel
set_option maxRecDepth 65536 in
set_option maxHeartbeats 40000000 in
theorem rm_strInitASB (l : Launch) {Z : State} {a0 : Array Value} (hD : Wd Z a0) (a : Addr) (b : Addr) (t : Addr) (k : ClassId) (cN n : Nat) (vs : List Value) {h0 : Heap} (O0 : Ext Z.heap h0) (E_a : Exa Z h0 a "java/lang/String") (F_value_a : Fld Z h0 a "java/lang/String" "value" "[B" .null) (F_coder_a : Fld Z h0 a "java/lang/String" "coder" "B" (.int 0)) (ge_a : Z.heap.size ≤ a) (E_b : Exa Z h0 b "java/lang/StringBuilder") (F_coder_b : Fld Z h0 b "java/lang/AbstractStringBuilder" "coder" "B" (.int 0)) (F_count_b : Fld Z h0 b "java/lang/AbstractStringBuilder" "count" "I" (.int (Int32.ofNat n))) (F_value_b : Fld Z h0 b "java/lang/AbstractStringBuilder" "value" "[B" (.ref t)) (V_t : Arv Z h0 t k .byte (Int32.ofNat cN) vs (.int 0)) (hvs : vs.length = cN) (hcN : cN ≤ 4000) (hn : n < cN) (hcap : n ≤ 18) (ne_a_b : a ≠ b) (ne_a_t : a ≠ t) :
    Con l Z (⟨"java/lang/String", "<init>", "(Ljava/lang/AbstractStringBuilder;Ljava/lang/Void;)V"⟩ : MethodName) jdk_42_method_150_code 5 none [] ({ frames := 3, cells := 1, slots := 18, locals := 49 } : Room) #[(.ref a), (.ref b), .null] h0 (Q_strInitASB Z a b t k cN n vs h0) := by
  refine Con.walk (plainFor_of_name pn_1) ?_
  intro p e s m below meth c T0 X0 hx hZ hby hml hown hnm hret hlk e0
  obtain ⟨hw, cz, S_CS, hcz⟩ := id hD
  have N0 := Fr.nil Z.heap.size
  have K0 : Keep h0 h0 [a] := Keep.refl _ _
  refine OEnds.cast (ef_strInitASB m a b) ?_
  refine OEnds.st (S' := T0.setTop (mkF m 1 #[.val (.ref a), .val (.ref b), .val .null, .unset, .unset] [(.ref a)])) (fun _ k => ?_) ?_
  · show Steps p.tables e below (T0.setTop (mkF m 0 #[.val (.ref a), .val (.ref b), .val .null, .unset, .unset] [])) _
    refine XS.aloadN X0.here hx rfl (hb hby d_jdk_42_150_0) rfl rfl ?_
    exact k
  obtain ⟨T1, X1, e1, st1⟩ := initO X0 hx hZ hown (hw _ (List.mem_of_getElem? (i := 11) rfl)) (hw _ (List.mem_of_getElem? (i := 12) rfl)) (hw _ (List.mem_of_getElem? (i := 13) rfl)) e0 (g := (mkF m 1 #[.val (.ref a), .val (.ref b), .val .null, .unset, .unset] [(.ref a)])) rfl (by rw [hml]; rfl) rfl (hb hby d_jdk_42_150_1) (by decide) (W := 0) (by show 2 * 0 + _ ≤ _; exact Nat.le_of_eq rfl) (by decide)
  refine OEnds.st (S' := T1.setTop (mkF m 4 #[.val (.ref a), .val (.ref b), .val .null, .unset, .unset] [])) st1 ?_
  refine OEnds.st (S' := T1.setTop (mkF m 5 #[.val (.ref a), .val (.ref b), .val .null, .unset, .unset] [(.ref b)])) (fun _ k => ?_) ?_
  · show Steps p.tables e below (T1.setTop (mkF m 4 #[.val (.ref a), .val (.ref b), .val .null, .unset, .unset] [])) _
    refine XS.aloadN X1.here hx rfl (hb hby d_jdk_42_150_4) rfl rfl ?_
    exact k
  obtain ⟨_, T2, h2, L2, X2, e2, hQ2, st2⟩ := virtC X1 hx hZ (y := (⟨"java/lang/AbstractStringBuilder", "getValue", "()[B"⟩ : MethodName)) (z := (⟨"java/lang/AbstractStringBuilder", "getValue", "()[B"⟩ : MethodName)) hown (hw _ (List.mem_of_getElem? (i := 161) rfl)) (hw _ (List.mem_of_getElem? (i := 162) rfl)) (nf_sel (args := #[]) (mvT hZ (hw _ (List.mem_of_getElem? (i := 99) rfl))) rfl) (hw _ (List.mem_of_getElem? (i := 164) rfl)) (hw _ (List.mem_of_getElem? (i := 163) rfl)) (by decide) (kc := 0) (ks := 0) (Con.sb (W := 0) (rm_getValue l hD b t O0 F_value_b) hZ (hw _ (List.mem_of_getElem? (i := 165) rfl)) (hw _ (List.mem_of_getElem? (i := 61) rfl)) (by decide) (by decide)) e1 E_b (g := (mkF m 5 #[.val (.ref a), .val (.ref b), .val .null, .unset, .unset] [(.ref b)])) rfl (by rw [hml]; rfl) (argsL := []) (rest := []) (lenOf pd_16 rfl) rfl (by show 2 * 0 + _ ≤ _; exact Nat.le_of_eq rfl) (hb hby d_jdk_42_150_5) (by decide) (by decide)
  obtain ⟨rfl, Nq2, Hq2⟩ := hQ2
  refine OEnds.st (S' := T2.setTop (mkF m 8 #[.val (.ref a), .val (.ref b), .val .null, .unset, .unset] [(.ref t)])) st2 ?_
  replace N0 := Fr.app N0 Nq2
  replace e2 := e2.trans Hq2
  refine OEnds.st (S' := T2.setTop (mkF m 10 #[.val (.ref a), .val (.ref b), .val .null, .val (.ref t), .unset] [(.ref b)])) (fun _ k => ?_) ?_
  · show Steps p.tables e below (T2.setTop (mkF m 8 #[.val (.ref a), .val (.ref b), .val .null, .unset, .unset] [(.ref t)])) _
    refine XS.astoreN X2.here hx rfl (hb hby d_jdk_42_150_8) rfl rfl (l' := #[.val (.ref a), .val (.ref b), .val .null, .val (.ref t), .unset]) rfl ?_
    show Steps p.tables e below (T2.setTop (mkF m 9 #[.val (.ref a), .val (.ref b), .val .null, .val (.ref t), .unset] [])) _
    refine XS.aloadN X2.here hx rfl (hb hby d_jdk_42_150_9) rfl rfl ?_
    exact k
  obtain ⟨_, T3, h3, L3, X3, e3, hQ3, st3⟩ := virtC X2 hx hZ (y := (⟨"java/lang/AbstractStringBuilder", "length", "()I"⟩ : MethodName)) (z := (⟨"java/lang/StringBuilder", "length", "()I"⟩ : MethodName)) hown (hw _ (List.mem_of_getElem? (i := 166) rfl)) (hw _ (List.mem_of_getElem? (i := 167) rfl)) (nf_sel (args := #[]) (mvT hZ (hw _ (List.mem_of_getElem? (i := 99) rfl))) rfl) (hw _ (List.mem_of_getElem? (i := 169) rfl)) (hw _ (List.mem_of_getElem? (i := 170) rfl)) (by decide) (kc := 0) (ks := 0) (Con.sb (W := 0) (rm_sbLen l hD b (Int32.ofNat n) O0 E_b F_count_b) hZ (hw _ (List.mem_of_getElem? (i := 171) rfl)) (hw _ (List.mem_of_getElem? (i := 53) rfl)) (by decide) (by decide)) e2 E_b (g := (mkF m 10 #[.val (.ref a), .val (.ref b), .val .null, .val (.ref t), .unset] [(.ref b)])) rfl (by rw [hml]; rfl) (argsL := []) (rest := []) (lenOf pd_9 rfl) rfl (by show 2 * 0 + _ ≤ _; exact Nat.le_of_eq rfl) (hb hby d_jdk_42_150_10) (by decide) (by decide)
  obtain ⟨rfl, Nq3, Hq3⟩ := hQ3
  refine OEnds.st (S' := T3.setTop (mkF m 13 #[.val (.ref a), .val (.ref b), .val .null, .val (.ref t), .unset] [(.int (Int32.ofNat n))])) st3 ?_
  replace N0 := Fr.app N0 Nq3
  replace e3 := e3.trans Hq3
  refine OEnds.st (S' := T3.setTop (mkF m 16 #[.val (.ref a), .val (.ref b), .val .null, .val (.ref t), .val (.int (Int32.ofNat n))] [(.ref b)])) (fun _ k => ?_) ?_
  · show Steps p.tables e below (T3.setTop (mkF m 13 #[.val (.ref a), .val (.ref b), .val .null, .val (.ref t), .unset] [(.int (Int32.ofNat n))])) _
    refine XS.istore X3.here hx rfl (hb hby d_jdk_42_150_13) rfl (l' := #[.val (.ref a), .val (.ref b), .val .null, .val (.ref t), .val (.int (Int32.ofNat n))]) rfl ?_
    show Steps p.tables e below (T3.setTop (mkF m 15 #[.val (.ref a), .val (.ref b), .val .null, .val (.ref t), .val (.int (Int32.ofNat n))] [])) _
    refine XS.aloadN X3.here hx rfl (hb hby d_jdk_42_150_15) rfl rfl ?_
    exact k
  obtain ⟨_, T4, h4, L4, X4, e4, hQ4, st4⟩ := virtC X3 hx hZ (y := (⟨"java/lang/AbstractStringBuilder", "isLatin1", "()Z"⟩ : MethodName)) (z := (⟨"java/lang/AbstractStringBuilder", "isLatin1", "()Z"⟩ : MethodName)) hown (hw _ (List.mem_of_getElem? (i := 174) rfl)) (hw _ (List.mem_of_getElem? (i := 138) rfl)) (nf_sel (args := #[]) (mvT hZ (hw _ (List.mem_of_getElem? (i := 99) rfl))) rfl) (hw _ (List.mem_of_getElem? (i := 140) rfl)) (hw _ (List.mem_of_getElem? (i := 139) rfl)) (by decide) (kc := 0) (ks := 0) (Con.sb (W := 0) (rm_isLat l hD b O0 F_coder_b) hZ (hw _ (List.mem_of_getElem? (i := 141) rfl)) (hw _ (List.mem_of_getElem? (i := 61) rfl)) (by decide) (by decide)) e3 E_b (g := (mkF m 16 #[.val (.ref a), .val (.ref b), .val .null, .val (.ref t), .val (.int (Int32.ofNat n))] [(.ref b)])) rfl (by rw [hml]; rfl) (argsL := []) (rest := []) (lenOf pd_5 rfl) rfl (by show 2 * 0 + _ ≤ _; exact Nat.le_of_eq rfl) (hb hby d_jdk_42_150_16) (by decide) (by decide)
  obtain ⟨rfl, Nq4, Hq4⟩ := hQ4
  refine OEnds.st (S' := T4.setTop (mkF m 19 #[.val (.ref a), .val (.ref b), .val .null, .val (.ref t), .val (.int (Int32.ofNat n))] [(.int (1 : Int32))])) st4 ?_
  replace N0 := Fr.app N0 Nq4
  replace e4 := e4.trans Hq4
  refine OEnds.st (S' := T4.setTop (mkF m 24 #[.val (.ref a), .val (.ref b), .val .null, .val (.ref t), .val (.int (Int32.ofNat n))] [(.int (0 : Int32)), (.ref a)])) (fun _ k => ?_) ?_
  · show Steps p.tables e below (T4.setTop (mkF m 19 #[.val (.ref a), .val (.ref b), .val .null, .val (.ref t), .val (.int (Int32.ofNat n))] [(.int (1 : Int32))])) _
    refine XS.ifNo X4.here hx rfl (hb hby d_jdk_42_150_19) rfl ((if0 _ _).trans (feq (by decide)).1) ?_
    show Steps p.tables e below (T4.setTop (mkF m 22 #[.val (.ref a), .val (.ref b), .val .null, .val (.ref t), .val (.int (Int32.ofNat n))] [])) _
    refine XS.aloadN X4.here hx rfl (hb hby d_jdk_42_150_22) rfl rfl ?_
    show Steps p.tables e below (T4.setTop (mkF m 23 #[.val (.ref a), .val (.ref b), .val .null, .val (.ref t), .val (.int (Int32.ofNat n))] [(.ref a)])) _
    refine XS.iconst X4.here hx rfl (hb hby d_jdk_42_150_23) ?_
    exact k
  obtain ⟨T5, h5, X5, e5, W5, st5⟩ := putF X4 hx hZ hown (host := "") (Or.inl (hw _ (List.mem_of_getElem? (i := 26) rfl))) Via.refl e4 F_coder_a E_a (Or.inr ⟨(hw _ (List.mem_of_getElem? (i := 27) rfl)), rfl, hnm⟩) (hw _ (List.mem_of_getElem? (i := 1) rfl)) (ty := .byte) (by decide) rfl rfl (g := (mkF m 24 #[.val (.ref a), .val (.ref b), .val .null, .val (.ref t), .val (.int (Int32.ofNat n))] [(.int (0 : Int32)), (.ref a)])) rfl rfl (hb hby d_jdk_42_150_24)
  refine OEnds.st (S' := T5.setTop (mkF m 27 #[.val (.ref a), .val (.ref b), .val .null, .val (.ref t), .val (.int (Int32.ofNat n))] [])) st5 ?_
  replace E_a := E_a.wr W5
  replace F_value_a := F_value_a.other W5 (Or.inr (slot_ne (Or.inr (hw _ (List.mem_of_getElem? (i := 29) rfl))) (Or.inr (hw _ (List.mem_of_getElem? (i := 27) rfl))) (by decide) (t := (.array .byte)) (t' := .byte) (by decide) (by decide)))
  replace F_coder_a := F_coder_a.same W5
  replace E_b := E_b.wr W5
  replace F_coder_b := F_coder_b.other W5 (Or.inl (Ne.symm ne_a_b))
  replace F_count_b := F_count_b.other W5 (Or.inl (Ne.symm ne_a_b))
  replace F_value_b := F_value_b.other W5 (Or.inl (Ne.symm ne_a_b))
  replace V_t := V_t.other W5 (Ne.symm ne_a_t)
  replace O0 : Ext Z.heap h5 := ext_wr O0 W5 ge_a
  replace N0 := Fr.snoc X5 N0 ge_a
  replace K0 : Keep h0 h5 [a] := K0.wr W5 (Or.inl (List.mem_of_getElem? (i := 0) rfl))
  refine OEnds.st (S' := T5.setTop (mkF m 32 #[.val (.ref a), .val (.ref b), .val .null, .val (.ref t), .val (.int (Int32.ofNat n))] [(.int (Int32.ofNat n)), (.int (0 : Int32)), (.ref t), (.ref a)])) (fun _ k => ?_) ?_
  · show Steps p.tables e below (T5.setTop (mkF m 27 #[.val (.ref a), .val (.ref b), .val .null, .val (.ref t), .val (.int (Int32.ofNat n))] [])) _
    refine XS.aloadN X5.here hx rfl (hb hby d_jdk_42_150_27) rfl rfl ?_
    show Steps p.tables e below (T5.setTop (mkF m 28 #[.val (.ref a), .val (.ref b), .val .null, .val (.ref t), .val (.int (Int32.ofNat n))] [(.ref a)])) _
    refine XS.aloadN X5.here hx rfl (hb hby d_jdk_42_150_28) rfl rfl ?_
    show Steps p.tables e below (T5.setTop (mkF m 29 #[.val (.ref a), .val (.ref b), .val .null, .val (.ref t), .val (.int (Int32.ofNat n))] [(.ref t), (.ref a)])) _
    refine XS.iconst X5.here hx rfl (hb hby d_jdk_42_150_29) ?_
    show Steps p.tables e below (T5.setTop (mkF m 30 #[.val (.ref a), .val (.ref b), .val .null, .val (.ref t), .val (.int (Int32.ofNat n))] [(.int (0 : Int32)), (.ref t), (.ref a)])) _
    refine XS.iload X5.here hx rfl (hb hby d_jdk_42_150_30) rfl ?_
    exact k
  obtain ⟨_, T6, h6, L6, X6, e6, hQ6, st6⟩ := callC X5 hx hZ hown (hw _ (List.mem_of_getElem? (i := 175) rfl)) (hw _ (List.mem_of_getElem? (i := 176) rfl)) (hw _ (List.mem_of_getElem? (i := 177) rfl)) (hw _ (List.mem_of_getElem? (i := 178) rfl)) (by decide) (kc := 1) (ks := 18) (Con.sb (W := 1) (rm_copyOR l hD t k cN n vs O0 V_t hvs hcN hn hcap) hZ (hw _ (List.mem_of_getElem? (i := 178) rfl)) (hw _ (List.mem_of_getElem? (i := 177) rfl)) (by decide) (by decide)) e5 (g := (mkF m 32 #[.val (.ref a), .val (.ref b), .val .null, .val (.ref t), .val (.int (Int32.ofNat n))] [(.int (Int32.ofNat n)), (.int (0 : Int32)), (.ref t), (.ref a)])) rfl (by rw [hml]; rfl) (argsL := [(.ref t), (.int (0 : Int32)), (.int (Int32.ofNat n))]) (rest := [(.ref a)]) (lenOf pd_15 rfl) rfl (by show 2 * 0 + _ ≤ _; exact Nat.le_of_eq rfl) (hb hby d_jdk_42_150_32) (by decide) (by decide)
  obtain ⟨r6, kr6, rfl, Nq6, Kq6, szq6, V6⟩ := hQ6
  refine OEnds.st (S' := T6.setTop (mkF m 35 #[.val (.ref a), .val (.ref b), .val .null, .val (.ref t), .val (.int (Int32.ofNat n))] [(.ref r6), (.ref a)])) st6 ?_
  replace N0 := Fr.app N0 Nq6
  have ne_a_r6 : a ≠ r6 := Nat.ne_of_lt (Nat.lt_of_lt_of_le E_a.lt szq6)
  have ne_b_r6 : b ≠ r6 := Nat.ne_of_lt (Nat.lt_of_lt_of_le E_b.lt szq6)
  have ne_t_r6 : t ≠ r6 := Nat.ne_of_lt (Nat.lt_of_lt_of_le V_t.lt szq6)
  have ge_r6 : Z.heap.size ≤ r6 := Nat.le_trans O0.1 szq6
  have sz_r6 : h0.size ≤ r6 := Nat.le_trans K0.1 szq6
  replace E_a := E_a.keep Kq6
  replace F_value_a := F_value_a.keep Kq6 nin0
  replace F_coder_a := F_coder_a.keep Kq6 nin0
  replace E_b := E_b.keep Kq6
  replace F_coder_b := F_coder_b.keep Kq6 nin0
  replace F_count_b := F_count_b.keep Kq6 nin0
  replace F_value_b := F_value_b.keep Kq6 nin0
  replace V_t := V_t.keep Kq6 nin0
  replace O0 : Ext Z.heap h6 := ext_keep O0 Kq6 all0
  replace K0 : Keep h0 h6 [a] := K0.trans Kq6 all0
  obtain ⟨T7, h7, X7, e7, W7, st7⟩ := putF X6 hx hZ hown (host := "") (Or.inl (hw _ (List.mem_of_getElem? (i := 28) rfl))) Via.refl e6 F_value_a E_a (Or.inr ⟨(hw _ (List.mem_of_getElem? (i := 29) rfl)), rfl, hnm⟩) (hw _ (List.mem_of_getElem? (i := 1) rfl)) (ty := (.array .byte)) (by decide) rfl rfl (g := (mkF m 35 #[.val (.ref a), .val (.ref b), .val .null, .val (.ref t), .val (.int (Int32.ofNat n))] [(.ref r6), (.ref a)])) rfl rfl (hb hby d_jdk_42_150_35)
  refine OEnds.st (S' := T7.setTop (mkF m 38 #[.val (.ref a), .val (.ref b), .val .null, .val (.ref t), .val (.int (Int32.ofNat n))] [])) st7 ?_
  replace E_a := E_a.wr W7
  replace F_value_a := F_value_a.same W7
  replace F_coder_a := F_coder_a.other W7 (Or.inr (slot_ne (Or.inr (hw _ (List.mem_of_getElem? (i := 27) rfl))) (Or.inr (hw _ (List.mem_of_getElem? (i := 29) rfl))) (by decide) (t := .byte) (t' := (.array .byte)) (by decide) (by decide)))
  replace E_b := E_b.wr W7
  replace F_coder_b := F_coder_b.other W7 (Or.inl (Ne.symm ne_a_b))
  replace F_count_b := F_count_b.other W7 (Or.inl (Ne.symm ne_a_b))
  replace F_value_b := F_value_b.other W7 (Or.inl (Ne.symm ne_a_b))
  replace V_t := V_t.other W7 (Ne.symm ne_a_t)
  replace V6 := V6.other W7 (Ne.symm ne_a_r6)
  replace O0 : Ext Z.heap h7 := ext_wr O0 W7 ge_a
  replace N0 := Fr.snoc X7 N0 ge_a
  replace K0 : Keep h0 h7 [a] := K0.wr W7 (Or.inl (List.mem_of_getElem? (i := 0) rfl))
  refine OEnds.st (S' := T7.setTop (mkF m 97 #[.val (.ref a), .val (.ref b), .val .null, .val (.ref t), .val (.int (Int32.ofNat n))] [])) (fun _ k => ?_) ?_
  · show Steps p.tables e below (T7.setTop (mkF m 38 #[.val (.ref a), .val (.ref b), .val .null, .val (.ref t), .val (.int (Int32.ofNat n))] [])) _
    refine XS.goto X7.here hx rfl (pc0 := 38) (pc' := 97) rfl (hb hby d_jdk_42_150_38) (by decide) (by decide) ?_
    exact k
  exact OEnds.retV X7 hx hret hlk (hb hby d_jdk_42_150_97) (by decide) (by decide) (by rw [e7]; exact ⟨rfl, N0, K0, E_a, F_coder_a, r6, _, sz_r6, F_value_a, V6⟩)
-- java/lang/String.<init>:(Ljava/lang/StringBuilder;)V
def Q_strInitSB (Z : State) (a : Addr) (b : Addr) (t : Addr) (k : ClassId) (cN n : Nat) (vs : List Value) (h0 : Heap) (v : Option Value) (h : Heap) (L : List Loc) : Prop := v = none ∧ Fr Z.heap.size L ∧ Keep h0 h [a] ∧ Exa Z h a "java/lang/String" ∧ Fld Z h a "java/lang/String" "coder" "B" (.int 0) ∧ ∃ (r : Addr) (kr : ClassId), h0.size ≤ r ∧ Fld Z h a "java/lang/String" "value" "[B" (.ref r) ∧ Arv Z h r kr .byte (Int32.ofNat n) (vs.take n) (.int 0)
theorem ef_strInitSB (m : MethodId) (a : Addr) (b : Addr) : entryFrame m #[(.ref a), (.ref b)] 2 = mkF m 0 #[.val (.ref a), .val (.ref b)] [] := by first | (simp [entryFrame, mkF, argsToLocals, Value.category]; done) | rfl
theorem d_jdk_42_53_0 : decode jdk_42_method_53_code 0 = .ok (.aload_n 0, 1) := by decide +kernel
theorem d_jdk_42_53_1 : decode jdk_42_method_53_code 1 = .ok (.aload_n 1, 1) := by decide +kernel
theorem d_jdk_42_53_2 : decode jdk_42_method_53_code 2 = .ok (.aconst_null, 1) := by decide +kernel
theorem d_jdk_42_53_3 : decode jdk_42_method_53_code 3 = .ok (.invokespecial 489, 3) := by decide +kernel
theorem pd_17 : parseMethodDescriptor "(Ljava/lang/AbstractStringBuilder;Ljava/lang/Void;)V" = some ⟨[(.object "java/lang/AbstractStringBuilder"), (.object "java/lang/Void")], none⟩ := by decide +kernel
theorem d_jdk_42_53_6 : decode jdk_42_method_53_code 6 = .ok (.return_, 1) := by decide +kernel
set_option maxRecDepth 65536 in
set_option maxHeartbeats 40000000 in
theorem rm_strInitSB (l : Launch) {Z : State} {a0 : Array Value} (hD : Wd Z a0) (a : Addr) (b : Addr) (t : Addr) (k : ClassId) (cN n : Nat) (vs : List Value) {h0 : Heap} (O0 : Ext Z.heap h0) (E_a : Exa Z h0 a "java/lang/String") (F_value_a : Fld Z h0 a "java/lang/String" "value" "[B" .null) (F_coder_a : Fld Z h0 a "java/lang/String" "coder" "B" (.int 0)) (ge_a : Z.heap.size ≤ a) (E_b : Exa Z h0 b "java/lang/StringBuilder") (F_coder_b : Fld Z h0 b "java/lang/AbstractStringBuilder" "coder" "B" (.int 0)) (F_count_b : Fld Z h0 b "java/lang/AbstractStringBuilder" "count" "I" (.int (Int32.ofNat n))) (F_value_b : Fld Z h0 b "java/lang/AbstractStringBuilder" "value" "[B" (.ref t)) (V_t : Arv Z h0 t k .byte (Int32.ofNat cN) vs (.int 0)) (hvs : vs.length = cN) (hcN : cN ≤ 4000) (hn : n < cN) (hcap : n ≤ 18) (ne_a_b : a ≠ b) (ne_a_t : a ≠ t) :
    Con l Z (⟨"java/lang/String", "<init>", "(Ljava/lang/StringBuilder;)V"⟩ : MethodName) jdk_42_method_53_code 2 none [] ({ frames := 4, cells := 1, slots := 18, locals := 65 } : Room) #[(.ref a), (.ref b)] h0 (Q_strInitSB Z a b t k cN n vs h0) := by
  refine Con.walk (plainFor_of_name pn_1) ?_
  intro p e s m below meth c T0 X0 hx hZ hby hml hown hnm hret hlk e0
  obtain ⟨hw, cz, S_CS, hcz⟩ := id hD
  have N0 := Fr.nil Z.heap.size
  have K0 : Keep h0 h0 [a] := Keep.refl _ _
  refine OEnds.cast (ef_strInitSB m a b) ?_
  refine OEnds.st (S' := T0.setTop (mkF m 3 #[.val (.ref a), .val (.ref b)] [.null, (.ref b), (.ref a)])) (fun _ k => ?_) ?_
  · show Steps p.tables e below (T0.setTop (mkF m 0 #[.val (.ref a), .val (.ref b)] [])) _
    refine XS.aloadN X0.here hx rfl (hb hby d_jdk_42_53_0) rfl rfl ?_
    show Steps p.tables e below (T0.setTop (mkF m 1 #[.val (.ref a), .val (.ref b)] [(.ref a)])) _
    refine XS.aloadN X0.here hx rfl (hb hby d_jdk_42_53_1) rfl rfl ?_
    show Steps p.tables e below (T0.setTop (mkF m 2 #[.val (.ref a), .val (.ref b)] [(.ref b), (.ref a)])) _
    refine XS.aconstNull X0.here hx rfl (hb hby d_jdk_42_53_2) ?_
    exact k
  obtain ⟨_, T1, h1, L1, X1, e1, hQ1, st1⟩ := specC X0 hx hZ rfl hown (hw _ (List.mem_of_getElem? (i := 158) rfl)) (hw _ (List.mem_of_getElem? (i := 159) rfl)) (hw _ (List.mem_of_getElem? (i := 160) rfl)) (by decide) (kc := 1) (ks := 18) (Con.sb (W := 0) (rm_strInitASB l hD a b t k cN n vs O0 E_a F_value_a F_coder_a ge_a E_b F_coder_b F_count_b F_value_b V_t hvs hcN hn hcap ne_a_b ne_a_t) hZ (hw _ (List.mem_of_getElem? (i := 160) rfl)) (hw _ (List.mem_of_getElem? (i := 2) rfl)) (by decide) (by decide)) e0 (a := a) (g := (mkF m 3 #[.val (.ref a), .val (.ref b)] [.null, (.ref b), (.ref a)])) rfl (by rw [hml]; rfl) (argsL := [(.ref b), .null]) (rest := []) (lenOf pd_17 rfl) rfl (by show 2 * 0 + _ ≤ _; exact Nat.le_of_eq rfl) (hb hby d_jdk_42_53_3) (by decide) (by decide)
  obtain ⟨rfl, Nq1, Kq1, Eq1, Fc1, r1, kr1, szq1, Fv1, V1⟩ := hQ1
  refine OEnds.st (S' := T1.setTop (mkF m 6 #[.val (.ref a), .val (.ref b)] [])) st1 ?_
  replace N0 := Fr.app N0 Nq1
  replace E_a := E_a.keep Kq1
  replace E_b := E_b.keep Kq1
  replace F_coder_b := F_coder_b.keep Kq1 (ninS (Ne.symm ne_a_b) nin0)
  replace F_count_b := F_count_b.keep Kq1 (ninS (Ne.symm ne_a_b) nin0)
  replace F_value_b := F_value_b.keep Kq1 (ninS (Ne.symm ne_a_b) nin0)
  replace V_t := V_t.keep Kq1 (ninS (Ne.symm ne_a_t) nin0)
  replace O0 : Ext Z.heap h1 := ext_keep O0 Kq1 (allS ge_a all0)
  replace K0 : Keep h0 h1 [a] := K0.trans Kq1 (allS (Or.inl (List.mem_of_getElem? (i := 0) rfl)) all0)
  exact OEnds.retV X1 hx hret hlk (hb hby d_jdk_42_53_6) (by decide) (by decide) (by rw [e1]; exact ⟨rfl, N0, K0, Eq1, Fc1, r1, kr1, szq1, Fv1, V1⟩)
-- java/lang/StringBuilder.toString:()Ljava/lang/String;
def Q_sbToStr (Z : State) (b : Addr) (t : Addr) (k : ClassId) (cN n : Nat) (vs : List Value) (h0 : Heap) (v : Option Value) (h : Heap) (L : List Loc) : Prop := ∃ (a r : Addr) (kr : ClassId), v = some (.ref a) ∧ Fr Z.heap.size L ∧ Keep h0 h [] ∧ h0.size ≤ a ∧ h0.size ≤ r ∧ a ≠ r ∧ Exa Z h a "java/lang/String" ∧ Fld Z h a "java/lang/String" "coder" "B" (.int 0) ∧ Fld Z h a "java/lang/String" "value" "[B" (.ref r) ∧ Arv Z h r kr .byte (Int32.ofNat n) (vs.take n) (.int 0)
theorem ef_sbToStr (m : MethodId) (b : Addr) : entryFrame m #[(.ref b)] 1 = mkF m 0 #[.val (.ref b)] [] := by first | (simp [entryFrame, mkF, argsToLocals, Value.category]; done) | rfl
theorem d_jdk_67_42_0 : decode jdk_67_method_42_code 0 = .ok (.new 18, 3) := by decide +kernel
theorem d_jdk_67_42_3 : decode jdk_67_method_42_code 3 = .ok (.dup, 1) := by decide +kernel
theorem d_jdk_67_42_4 : decode jdk_67_method_42_code 4 = .ok (.aload_n 0, 1) := by decide +kernel
theorem d_jdk_67_42_5 : decode jdk_67_method_42_code 5 = .ok (.invokespecial 137, 3) := by decide +kernel
theorem pd_18 : parseMethodDescriptor "(Ljava/lang/StringBuilder;)V" = some ⟨[(.object "java/lang/StringBuilder")], none⟩ := by decide +kernel
theorem d_jdk_67_42_8 : decode jdk_67_method_42_code 8 = .ok (.areturn, 1) := by decide +kernel
set_option maxRecDepth 65536 in
set_option maxHeartbeats 40000000 in
theorem rm_sbToStr (l : Launch) {Z : State} {a0 : Array Value} (hD : Wd Z a0) (b : Addr) (t : Addr) (k : ClassId) (cN n : Nat) (vs : List Value) {h0 : Heap} (O0 : Ext Z.heap h0) (E_b : Exa Z h0 b "java/lang/StringBuilder") (F_coder_b : Fld Z h0 b "java/lang/AbstractStringBuilder" "coder" "B" (.int 0)) (F_count_b : Fld Z h0 b "java/lang/AbstractStringBuilder" "count" "I" (.int (Int32.ofNat n))) (F_value_b : Fld Z h0 b "java/lang/AbstractStringBuilder" "value" "[B" (.ref t)) (V_t : Arv Z h0 t k .byte (Int32.ofNat cN) vs (.int 0)) (hvs : vs.length = cN) (hcN : cN ≤ 4000) (hn : n < cN) (hcap : n ≤ 18) :
    Con l Z (⟨"java/lang/StringBuilder", "toString", "()Ljava/lang/String;"⟩ : MethodName) jdk_67_method_42_code 1 (some (.object "java/lang/String")) [] ({ frames := 5, cells := 2, slots := 22, locals := 79 } : Room) #[(.ref b)] h0 (Q_sbToStr Z b t k cN n vs h0) := by
  refine Con.walk (plainFor_of_name pn_3) ?_
  intro p e s m below meth c T0 X0 hx hZ hby hml hown hnm hret hlk e0
  obtain ⟨hw, cz, S_CS, hcz⟩ := id hD
  have N0 := Fr.nil Z.heap.size
  have K0 : Keep h0 h0 [] := Keep.refl _ _
  refine OEnds.cast (ef_sbToStr m b) ?_
  obtain ⟨T1, h1, X1, e1, E1, A1, D1, U1, st1⟩ := newO X0 hx hZ hown (hw _ (List.mem_of_getElem? (i := 154) rfl)) (hw _ (List.mem_of_getElem? (i := 1) rfl)) (hw _ (List.mem_of_getElem? (i := 2) rfl)) e0 (g := (mkF m 0 #[.val (.ref b)] [])) rfl (hb hby d_jdk_67_42_0) (by decide) (by decide)
  obtain ⟨b1, g1⟩ : ∃ z, z = h0.size := ⟨_, rfl⟩
  rw [← g1] at A1 D1 U1 st1
  refine OEnds.st (S' := T1.setTop (mkF m 3 #[.val (.ref b)] [(.ref b1)])) st1 ?_
  have ne_b_b1 : b ≠ b1 := Nat.ne_of_lt (Nat.lt_of_lt_of_le E_b.lt (Nat.le_of_eq g1.symm))
  have ne_t_b1 : t ≠ b1 := Nat.ne_of_lt (Nat.lt_of_lt_of_le V_t.lt (Nat.le_of_eq g1.symm))
  have ge_b1 : Z.heap.size ≤ b1 := Nat.le_trans O0.1 (Nat.le_of_eq g1.symm)
  have sz_b1 : h0.size ≤ b1 := Nat.le_trans K0.1 (Nat.le_of_eq g1.symm)
  replace E_b := E_b.ext E1
  replace F_coder_b := F_coder_b.ext E1
  replace F_count_b := F_count_b.ext E1
  replace F_value_b := F_value_b.ext E1
  replace V_t := V_t.ext E1
  replace O0 : Ext Z.heap h1 := ext_trans O0 E1
  replace K0 : Keep h0 h1 [] := K0.ext E1
  have F_coder_b1 : Fld Z h1 b1 "java/lang/String" "coder" "B" (.int (0 : Int32)) := D1 (Or.inr (hw _ (List.mem_of_getElem? (i := 27) rfl))) (ty := .byte) (by decide)
  have F_value_b1 : Fld Z h1 b1 "java/lang/String" "value" "[B" .null := D1 (Or.inr (hw _ (List.mem_of_getElem? (i := 29) rfl))) (ty := (.array .byte)) (by decide)
  refine OEnds.st (S' := T1.setTop (mkF m 5 #[.val (.ref b)] [(.ref b), (.ref b1), (.ref b1)])) (fun _ k => ?_) ?_
  · show Steps p.tables e below (T1.setTop (mkF m 3 #[.val (.ref b)] [(.ref b1)])) _
    refine XS.dup X1.here hx rfl (hb hby d_jdk_67_42_3) rfl rfl ?_
    show Steps p.tables e below (T1.setTop (mkF m 4 #[.val (.ref b)] [(.ref b1), (.ref b1)])) _
    refine XS.aloadN X1.here hx rfl (hb hby d_jdk_67_42_4) rfl rfl ?_
    exact k
  have lt_b1 := A1.lt
  obtain ⟨_, T2, h2, L2, X2, e2, hQ2, st2⟩ := specC X1 hx hZ rfl hown (hw _ (List.mem_of_getElem? (i := 155) rfl)) (hw _ (List.mem_of_getElem? (i := 156) rfl)) (hw _ (List.mem_of_getElem? (i := 157) rfl)) (by decide) (kc := 1) (ks := 18) (Con.sb (W := 1) (rm_strInitSB l hD b1 b t k cN n vs O0 A1 F_value_b1 F_coder_b1 ge_b1 E_b F_coder_b F_count_b F_value_b V_t hvs hcN hn hcap (Ne.symm ne_b_b1) (Ne.symm ne_t_b1)) hZ (hw _ (List.mem_of_getElem? (i := 157) rfl)) (hw _ (List.mem_of_getElem? (i := 2) rfl)) (by decide) (by decide)) e1 (a := b1) (g := (mkF m 5 #[.val (.ref b)] [(.ref b), (.ref b1), (.ref b1)])) rfl (by rw [hml]; rfl) (argsL := [(.ref b)]) (rest := [(.ref b1)]) (lenOf pd_18 rfl) rfl (by show 2 * 0 + _ ≤ _; exact Nat.le_of_eq rfl) (hb hby d_jdk_67_42_5) (by decide) (by decide)
  obtain ⟨rfl, Nq2, Kq2, Eq2, Fc2, r2, kr2, szq2, Fv2, V2⟩ := hQ2
  refine OEnds.st (S' := T2.setTop (mkF m 8 #[.val (.ref b)] [(.ref b1)])) st2 ?_
  replace N0 := Fr.app N0 Nq2
  have ne_b_r2 : b ≠ r2 := Nat.ne_of_lt (Nat.lt_of_lt_of_le E_b.lt szq2)
  have ne_b1_r2 : b1 ≠ r2 := Nat.ne_of_lt (Nat.lt_of_lt_of_le A1.lt szq2)
  have ne_t_r2 : t ≠ r2 := Nat.ne_of_lt (Nat.lt_of_lt_of_le V_t.lt szq2)
  have ge_r2 : Z.heap.size ≤ r2 := Nat.le_trans O0.1 szq2
  have sz_r2 : h0.size ≤ r2 := Nat.le_trans K0.1 szq2
  replace E_b := E_b.keep Kq2
  replace F_coder_b := F_coder_b.keep Kq2 (ninS ne_b_b1 nin0)
  replace F_count_b := F_count_b.keep Kq2 (ninS ne_b_b1 nin0)
  replace F_value_b := F_value_b.keep Kq2 (ninS ne_b_b1 nin0)
  replace V_t := V_t.keep Kq2 (ninS ne_t_b1 nin0)
  replace A1 := A1.keep Kq2
  replace O0 : Ext Z.heap h2 := ext_keep O0 Kq2 (allS ge_b1 all0)
  replace K0 : Keep h0 h2 [] := K0.trans Kq2 (allS (Or.inr sz_b1) all0)
  exact OEnds.ret X2 hx hret hlk rfl (Or.inr (Or.inr (Or.inr (Or.inr ⟨rfl, rfl, rfl⟩)))) (hb hby d_jdk_67_42_8) (by decide) (by decide) (by rw [e2]; exact ⟨b1, r2, kr2, rfl, N0, K0, sz_b1, sz_r2, (Nat.ne_of_lt (Nat.lt_of_lt_of_le lt_b1 szq2)), Eq2, Fc2, Fv2, V2⟩)
-- java/lang/AbstractStringBuilder.<init>:(Ljava/lang/String;)V
def Q_asbInit (Z : State) (b : Addr) (a : Addr) (ts : Addr) (ks : ClassId) (us : List Value) (h0 : Heap) (v : Option Value) (h : Heap) (L : List Loc) : Prop := v = none ∧ Fr Z.heap.size L ∧ Keep h0 h [b] ∧ ∃ (t : Addr) (k : ClassId), h0.size ≤ t ∧ b ≠ t ∧ Exa Z h b "java/lang/StringBuilder" ∧ Fld Z h b "java/lang/AbstractStringBuilder" "coder" "B" (.int 0) ∧ Fld Z h b "java/lang/AbstractStringBuilder" "count" "I" (.int (Int32.ofNat 2)) ∧ Fld Z h b "java/lang/AbstractStringBuilder" "value" "[B" (.ref t) ∧ Arv Z h t k .byte (Int32.ofNat 18) (us ++ List.replicate 16 (.int 0)) (.int 0)
theorem ef_asbInit (m : MethodId) (b : Addr) (a : Addr) : entryFrame m #[(.ref b), (.ref a)] 5 = mkF m 0 #[.val (.ref b), .val (.ref a), .unset, .unset, .unset] [] := by first | (simp [entryFrame, mkF, argsToLocals, Value.category]; done) | rfl
theorem d_jdk_68_3_0 : decode jdk_68_method_3_code 0 = .ok (.aload_n 0, 1) := by decide +kernel
theorem d_jdk_68_3_1 : decode jdk_68_method_3_code 1 = .ok (.invokespecial 3, 3) := by decide +kernel
theorem d_jdk_68_3_4 : decode jdk_68_method_3_code 4 = .ok (.aload_n 1, 1) := by decide +kernel
theorem d_jdk_68_3_5 : decode jdk_68_method_3_code 5 = .ok (.invokevirtual 32, 3) := by decide +kernel
theorem d_jdk_68_3_8 : decode jdk_68_method_3_code 8 = .ok (.istore_n 2, 1) := by decide +kernel
theorem d_jdk_68_3_9 : decode jdk_68_method_3_code 9 = .ok (.iload_n 2, 1) := by decide +kernel
theorem d_jdk_68_3_10 : decode jdk_68_method_3_code 10 = .ok (.ldc 38, 2) := by decide +kernel
theorem d_jdk_68_3_12 : decode jdk_68_method_3_code 12 = .ok (.if_icmp .ge 10, 3) := by decide +kernel
theorem d_jdk_68_3_15 : decode jdk_68_method_3_code 15 = .ok (.iload_n 2, 1) := by decide +kernel
theorem d_jdk_68_3_16 : decode jdk_68_method_3_code 16 = .ok (.bipush 16, 2) := by decide +kernel
theorem d_jdk_68_3_18 : decode jdk_68_method_3_code 18 = .ok (.iadd, 1) := by decide +kernel
theorem d_jdk_68_3_19 : decode jdk_68_method_3_code 19 = .ok (.goto 5, 3) := by decide +kernel
theorem d_jdk_68_3_24 : decode jdk_68_method_3_code 24 = .ok (.istore_n 3, 1) := by decide +kernel
theorem d_jdk_68_3_25 : decode jdk_68_method_3_code 25 = .ok (.aload_n 1, 1) := by decide +kernel
theorem d_jdk_68_3_26 : decode jdk_68_method_3_code 26 = .ok (.invokevirtual 40, 3) := by decide +kernel
theorem d_jdk_68_3_29 : decode jdk_68_method_3_code 29 = .ok (.istore 4, 2) := by decide +kernel
theorem d_jdk_68_3_31 : decode jdk_68_method_3_code 31 = .ok (.aload_n 0, 1) := by decide +kernel
theorem d_jdk_68_3_32 : decode jdk_68_method_3_code 32 = .ok (.iload 4, 2) := by decide +kernel
theorem d_jdk_68_3_34 : decode jdk_68_method_3_code 34 = .ok (.putfield 22, 3) := by decide +kernel
theorem d_jdk_68_3_37 : decode jdk_68_method_3_code 37 = .ok (.aload_n 0, 1) := by decide +kernel
theorem d_jdk_68_3_38 : decode jdk_68_method_3_code 38 = .ok (.iload 4, 2) := by decide +kernel
theorem d_jdk_68_3_40 : decode jdk_68_method_3_code 40 = .ok (.ifCond .ne 9, 3) := by decide +kernel
theorem d_jdk_68_3_43 : decode jdk_68_method_3_code 43 = .ok (.iload_n 3, 1) := by decide +kernel
theorem d_jdk_68_3_44 : decode jdk_68_method_3_code 44 = .ok (.newarray .byte, 2) := by decide +kernel
theorem d_jdk_68_3_46 : decode jdk_68_method_3_code 46 = .ok (.goto 7, 3) := by decide +kernel
theorem d_jdk_68_3_53 : decode jdk_68_method_3_code 53 = .ok (.putfield 15, 3) := by decide +kernel
theorem d_jdk_68_3_56 : decode jdk_68_method_3_code 56 = .ok (.aload_n 0, 1) := by decide +kernel
theorem d_jdk_68_3_57 : decode jdk_68_method_3_code 57 = .ok (.aload_n 1, 1) := by decide +kernel
theorem d_jdk_68_3_58 : decode jdk_68_method_3_code 58 = .ok (.invokevirtual 43, 3) := by decide +kernel
theorem d_jdk_68_3_61 : decode jdk_68_method_3_code 61 = .ok (.pop, 1) := by decide +kernel
theorem d_jdk_68_3_62 : decode jdk_68_method_3_code 62 = .ok (.return_, 1) := by decide +kernel
set_option maxRecDepth 65536 in
set_option maxHeartbeats 40000000 in
theorem rm_asbInit (l : Launch) {Z : State} {a0 : Array Value} (hD : Wd Z a0) (b : Addr) (a : Addr) (ts : Addr) (ks : ClassId) (us : List Value) {h0 : Heap} (O0 : Ext Z.heap h0) (E_b : Exa Z h0 b "java/lang/StringBuilder") (F_coder_b : Fld Z h0 b "java/lang/AbstractStringBuilder" "coder" "B" (.int 0)) (F_count_b : Fld Z h0 b "java/lang/AbstractStringBuilder" "count" "I" (.int 0)) (F_value_b : Fld Z h0 b "java/lang/AbstractStringBuilder" "value" "[B" .null) (ge_b : Z.heap.size ≤ b) (E_a : Exa Z h0 a "java/lang/String") (F_coder_a : Fld Z h0 a "java/lang/String" "coder" "B" (.int 0)) (F_value_a : Fld Z h0 a "java/lang/String" "value" "[B" (.ref ts)) (V_ts : Arv Z h0 ts ks .byte (Int32.ofNat 2) us (.int 0)) (hus : us.length = 2) :
    Con l Z (⟨"java/lang/AbstractStringBuilder", "<init>", "(Ljava/lang/String;)V"⟩ : MethodName) jdk_68_method_3_code 5 none [] ({ frames := 6, cells := 1, slots := 18, locals := 87 } : Room) #[(.ref b), (.ref a)] h0 (Q_asbInit Z b a ts ks us h0) := by
  refine Con.walk (plainFor_of_name pn_2) ?_
  intro p e s m below meth c T0 X0 hx hZ hby hml hown hnm hret hlk e0
  obtain ⟨hw, cz, S_CS, hcz⟩ := id hD
  have N0 := Fr.nil Z.heap.size
  have K0 : Keep h0 h0 [b] := Keep.refl _ _
  refine OEnds.cast (ef_asbInit m b a) ?_
  refine OEnds.st (S' := T0.setTop (mkF m 1 #[.val (.ref b), .val (.ref a), .unset, .unset, .unset] [(.ref b)])) (fun _ k => ?_) ?_
  · show Steps p.tables e below (T0.setTop (mkF m 0 #[.val (.ref b), .val (.ref a), .unset, .unset, .unset] [])) _
    refine XS.aloadN X0.here hx rfl (hb hby d_jdk_68_3_0) rfl rfl ?_
    exact k
  obtain ⟨T1, X1, e1, st1⟩ := initO X0 hx hZ hown (hw _ (List.mem_of_getElem? (i := 63) rfl)) (hw _ (List.mem_of_getElem? (i := 12) rfl)) (hw _ (List.mem_of_getElem? (i := 13) rfl)) e0 (g := (mkF m 1 #[.val (.ref b), .val (.ref a), .unset, .unset, .unset] [(.ref b)])) rfl (by rw [hml]; rfl) rfl (hb hby d_jdk_68_3_1) (by decide) (W := 0) (by show 2 * 0 + _ ≤ _; exact Nat.le_of_eq rfl) (by decide)
  refine OEnds.st (S' := T1.setTop (mkF m 4 #[.val (.ref b), .val (.ref a), .unset, .unset, .unset] [])) st1 ?_
  refine OEnds.st (S' := T1.setTop (mkF m 5 #[.val (.ref b), .val (.ref a), .unset, .unset, .unset] [(.ref a)])) (fun _ k => ?_) ?_
  · show Steps p.tables e below (T1.setTop (mkF m 4 #[.val (.ref b), .val (.ref a), .unset, .unset, .unset] [])) _
    refine XS.aloadN X1.here hx rfl (hb hby d_jdk_68_3_4) rfl rfl ?_
    exact k
  obtain ⟨_, T2, h2, L2, X2, e2, hQ2, st2⟩ := virtC X1 hx hZ (y := (⟨"java/lang/String", "length", "()I"⟩ : MethodName)) (z := (⟨"java/lang/String", "length", "()I"⟩ : MethodName)) hown (hw _ (List.mem_of_getElem? (i := 64) rfl)) (hw _ (List.mem_of_getElem? (i := 65) rfl)) (nf_sel (args := #[]) (mvT hZ (hw _ (List.mem_of_getElem? (i := 67) rfl))) rfl) (hw _ (List.mem_of_getElem? (i := 67) rfl)) (hw _ (List.mem_of_getElem? (i := 66) rfl)) (by decide) (kc := 0) (ks := 0) (Con.sb (W := 0) (rm_strLen l hD a ts ks (Int32.ofNat 2) us O0 E_a F_coder_a F_value_a V_ts) hZ (hw _ (List.mem_of_getElem? (i := 68) rfl)) (hw _ (List.mem_of_getElem? (i := 2) rfl)) (by decide) (by decide)) e1 E_a (g := (mkF m 5 #[.val (.ref b), .val (.ref a), .unset, .unset, .unset] [(.ref a)])) rfl (by rw [hml]; rfl) (argsL := []) (rest := []) (lenOf pd_9 rfl) rfl (by show 2 * 0 + _ ≤ _; exact Nat.le_of_eq rfl) (hb hby d_jdk_68_3_5) (by decide) (by decide)
  obtain ⟨rfl, Nq2, Hq2⟩ := hQ2
  refine OEnds.st (S' := T2.setTop (mkF m 8 #[.val (.ref b), .val (.ref a), .unset, .unset, .unset] [(.int (2 : Int32))])) st2 ?_
  replace N0 := Fr.app N0 Nq2
  replace e2 := e2.trans Hq2
  refine OEnds.st (S' := T2.setTop (mkF m 26 #[.val (.ref b), .val (.ref a), .val (.int (2 : Int32)), .val (.int (18 : Int32)), .unset] [(.ref a)])) (fun _ k => ?_) ?_
  · show Steps p.tables e below (T2.setTop (mkF m 8 #[.val (.ref b), .val (.ref a), .unset, .unset, .unset] [(.int (2 : Int32))])) _
    refine XS.istoreN X2.here hx rfl (hb hby d_jdk_68_3_8) rfl (l' := #[.val (.ref b), .val (.ref a), .val (.int (2 : Int32)), .unset, .unset]) rfl ?_
    show Steps p.tables e below (T2.setTop (mkF m 9 #[.val (.ref b), .val (.ref a), .val (.int (2 : Int32)), .unset, .unset] [])) _
    refine XS.iloadN X2.here hx rfl (hb hby d_jdk_68_3_9) rfl ?_
    show Steps p.tables e below (T2.setTop (mkF m 10 #[.val (.ref b), .val (.ref a), .val (.int (2 : Int32)), .unset, .unset] [(.int (2 : Int32))])) _
    refine X2.ldcInt hx hown (mvT hZ (hw _ (List.mem_of_getElem? (i := 74) rfl))) (g := (mkF m 10 #[.val (.ref b), .val (.ref a), .val (.int (2 : Int32)), .unset, .unset] [(.int (2 : Int32))])) rfl (hb hby d_jdk_68_3_10) _ ?_
    show Steps p.tables e below (T2.setTop (mkF m 12 #[.val (.ref b), .val (.ref a), .val (.int (2 : Int32)), .unset, .unset] [(.int (2147483631 : Int32)), (.int (2 : Int32))])) _
    refine XS.icmpNo X2.here hx rfl (hb hby d_jdk_68_3_12) rfl (tlt (by decide)).2.1 ?_
    show Steps p.tables e below (T2.setTop (mkF m 15 #[.val (.ref b), .val (.ref a), .val (.int (2 : Int32)), .unset, .unset] [])) _
    refine XS.iloadN X2.here hx rfl (hb hby d_jdk_68_3_15) rfl ?_
    show Steps p.tables e below (T2.setTop (mkF m 16 #[.val (.ref b), .val (.ref a), .val (.int (2 : Int32)), .unset, .unset] [(.int (2 : Int32))])) _
    refine XS.bipush X2.here hx rfl (hb hby d_jdk_68_3_16) ?_
    show Steps p.tables e below (T2.setTop (mkF m 18 #[.val (.ref b), .val (.ref a), .val (.int (2 : Int32)), .unset, .unset] [(.int (16 : Int32)), (.int (2 : Int32))])) _
    refine XS.iadd X2.here hx rfl (hb hby d_jdk_68_3_18) rfl ?_
    show Steps p.tables e below (T2.setTop (mkF m 19 #[.val (.ref b), .val (.ref a), .val (.int (2 : Int32)), .unset, .unset] [(.int (18 : Int32))])) _
    refine XS.goto X2.here hx rfl (pc0 := 19) (pc' := 24) rfl (hb hby d_jdk_68_3_19) (by decide) (by decide) ?_
    show Steps p.tables e below (T2.setTop (mkF m 24 #[.val (.ref b), .val (.ref a), .val (.int (2 : Int32)), .unset, .unset] [(.int (18 : Int32))])) _
    refine XS.istoreN X2.here hx rfl (hb hby d_jdk_68_3_24) rfl (l' := #[.val (.ref b), .val (.ref a), .val (.int (2 : Int32)), .val (.int (18 : Int32)), .unset]) rfl ?_
    show Steps p.tables e below (T2.setTop (mkF m 25 #[.val (.ref b), .val (.ref a), .val (.int (2 : Int32)), .val (.int (18 : Int32)), .unset] [])) _
    refine XS.aloadN X2.here hx rfl (hb hby d_jdk_68_3_25) rfl rfl ?_
    exact k
  obtain ⟨_, T3, h3, L3, X3, e3, hQ3, st3⟩ := virtC X2 hx hZ (y := (⟨"java/lang/String", "coder", "()B"⟩ : MethodName)) (z := (⟨"java/lang/String", "coder", "()B"⟩ : MethodName)) hown (hw _ (List.mem_of_getElem? (i := 75) rfl)) (hw _ (List.mem_of_getElem? (i := 70) rfl)) (nf_sel (args := #[]) (mvT hZ (hw _ (List.mem_of_getElem? (i := 67) rfl))) rfl) (hw _ (List.mem_of_getElem? (i := 72) rfl)) (hw _ (List.mem_of_getElem? (i := 71) rfl)) (by decide) (kc := 0) (ks := 0) (Con.sb (W := 0) (rm_coder l hD a O0 F_coder_a) hZ (hw _ (List.mem_of_getElem? (i := 73) rfl)) (hw _ (List.mem_of_getElem? (i := 2) rfl)) (by decide) (by decide)) e2 E_a (g := (mkF m 26 #[.val (.ref b), .val (.ref a), .val (.int (2 : Int32)), .val (.int (18 : Int32)), .unset] [(.ref a)])) rfl (by rw [hml]; rfl) (argsL := []) (rest := []) (lenOf pd_3 rfl) rfl (by show 2 * 0 + _ ≤ _; exact Nat.le_of_eq rfl) (hb hby d_jdk_68_3_26) (by decide) (by decide)
  obtain ⟨rfl, Nq3, Hq3⟩ := hQ3
  refine OEnds.st (S' := T3.setTop (mkF m 29 #[.val (.ref b), .val (.ref a), .val (.int (2 : Int32)), .val (.int (18 : Int32)), .unset] [(.int (0 : Int32))])) st3 ?_
  replace N0 := Fr.app N0 Nq3
  replace e3 := e3.trans Hq3
  refine OEnds.st (S' := T3.setTop (mkF m 34 #[.val (.ref b), .val (.ref a), .val (.int (2 : Int32)), .val (.int (18 : Int32)), .val (.int (0 : Int32))] [(.int (0 : Int32)), (.ref b)])) (fun _ k => ?_) ?_
  · show Steps p.tables e below (T3.setTop (mkF m 29 #[.val (.ref b), .val (.ref a), .val (.int (2 : Int32)), .val (.int (18 : Int32)), .unset] [(.int (0 : Int32))])) _
    refine XS.istore X3.here hx rfl (hb hby d_jdk_68_3_29) rfl (l' := #[.val (.ref b), .val (.ref a), .val (.int (2 : Int32)), .val (.int (18 : Int32)), .val (.int (0 : Int32))]) rfl ?_
    show Steps p.tables e below (T3.setTop (mkF m 31 #[.val (.ref b), .val (.ref a), .val (.int (2 : Int32)), .val (.int (18 : Int32)), .val (.int (0 : Int32))] [])) _
    refine XS.aloadN X3.here hx rfl (hb hby d_jdk_68_3_31) rfl rfl ?_
    show Steps p.tables e below (T3.setTop (mkF m 32 #[.val (.ref b), .val (.ref a), .val (.int (2 : Int32)), .val (.int (18 : Int32)), .val (.int (0 : Int32))] [(.ref b)])) _
    refine XS.iload X3.here hx rfl (hb hby d_jdk_68_3_32) rfl ?_
    exact k
  have ne_a_b : a ≠ b := ne_exa E_a E_b (by decide)
  have ne_ts_b : ts ≠ b := Ne.symm (ne_arv E_b (hw _ (List.mem_of_getElem? (i := 52) rfl)) V_ts)
  obtain ⟨T4, h4, X4, e4, W4, st4⟩ := putF X3 hx hZ hown (host := "") (Or.inl (hw _ (List.mem_of_getElem? (i := 76) rfl))) Via.refl e3 F_coder_b E_b (Or.inl (hw _ (List.mem_of_getElem? (i := 77) rfl))) (hw _ (List.mem_of_getElem? (i := 52) rfl)) (ty := .byte) (by decide) rfl rfl (g := (mkF m 34 #[.val (.ref b), .val (.ref a), .val (.int (2 : Int32)), .val (.int (18 : Int32)), .val (.int (0 : Int32))] [(.int (0 : Int32)), (.ref b)])) rfl rfl (hb hby d_jdk_68_3_34)
  refine OEnds.st (S' := T4.setTop (mkF m 37 #[.val (.ref b), .val (.ref a), .val (.int (2 : Int32)), .val (.int (18 : Int32)), .val (.int (0 : Int32))] [])) st4 ?_
  replace E_b := E_b.wr W4
  replace F_coder_b := F_coder_b.same W4
  replace F_count_b := F_count_b.other W4 (Or.inr (slot_ne (Or.inl (hw _ (List.mem_of_getElem? (i := 95) rfl))) (Or.inl (hw _ (List.mem_of_getElem? (i := 77) rfl))) (by decide) (t := .int) (t' := .byte) (by decide) (by decide)))
  replace F_value_b := F_value_b.other W4 (Or.inr (slot_ne (Or.inl (hw _ (List.mem_of_getElem? (i := 79) rfl))) (Or.inl (hw _ (List.mem_of_getElem? (i := 77) rfl))) (by decide) (t := (.array .byte)) (t' := .byte) (by decide) (by decide)))
  replace E_a := E_a.wr W4
  replace F_coder_a := F_coder_a.other W4 (Or.inl ne_a_b)
  replace F_value_a := F_value_a.other W4 (Or.inl ne_a_b)
  replace V_ts := V_ts.other W4 ne_ts_b
  replace O0 : Ext Z.heap h4 := ext_wr O0 W4 ge_b
  replace N0 := Fr.snoc X4 N0 ge_b
  replace K0 : Keep h0 h4 [b] := K0.wr W4 (Or.inl (List.mem_of_getElem? (i := 0) rfl))
  refine OEnds.st (S' := T4.setTop (mkF m 44 #[.val (.ref b), .val (.ref a), .val (.int (2 : Int32)), .val (.int (18 : Int32)), .val (.int (0 : Int32))] [(.int (18 : Int32)), (.ref b)])) (fun _ k => ?_) ?_
  · show Steps p.tables e below (T4.setTop (mkF m 37 #[.val (.ref b), .val (.ref a), .val (.int (2 : Int32)), .val (.int (18 : Int32)), .val (.int (0 : Int32))] [])) _
    refine XS.aloadN X4.here hx rfl (hb hby d_jdk_68_3_37) rfl rfl ?_
    show Steps p.tables e below (T4.setTop (mkF m 38 #[.val (.ref b), .val (.ref a), .val (.int (2 : Int32)), .val (.int (18 : Int32)), .val (.int (0 : Int32))] [(.ref b)])) _
    refine XS.iload X4.here hx rfl (hb hby d_jdk_68_3_38) rfl ?_
    show Steps p.tables e below (T4.setTop (mkF m 40 #[.val (.ref b), .val (.ref a), .val (.int (2 : Int32)), .val (.int (18 : Int32)), .val (.int (0 : Int32))] [(.int (0 : Int32)), (.ref b)])) _
    refine XS.ifNo X4.here hx rfl (hb hby d_jdk_68_3_40) rfl ((if0 _ _).trans (teq (by decide)).2) ?_
    show Steps p.tables e below (T4.setTop (mkF m 43 #[.val (.ref b), .val (.ref a), .val (.int (2 : Int32)), .val (.int (18 : Int32)), .val (.int (0 : Int32))] [(.ref b)])) _
    refine XS.iloadN X4.here hx rfl (hb hby d_jdk_68_3_43) rfl ?_
    exact k
  obtain ⟨T5, h5, k5, X5, e5, E5, A5, st5⟩ := newP X4 hx hZ (hw _ (List.mem_of_getElem? (i := 19) rfl)) e4 (g := (mkF m 44 #[.val (.ref b), .val (.ref a), .val (.int (2 : Int32)), .val (.int (18 : Int32)), .val (.int (0 : Int32))] [(.int (18 : Int32)), (.ref b)])) rfl (hb hby d_jdk_68_3_44) rfl (by decide) (cap := 18) (by decide) (by decide) (by decide) (by decide)
  obtain ⟨b5, g5⟩ : ∃ z, z = h4.size := ⟨_, rfl⟩
  rw [← g5] at A5 st5
  refine OEnds.st (S' := T5.setTop (mkF m 46 #[.val (.ref b), .val (.ref a), .val (.int (2 : Int32)), .val (.int (18 : Int32)), .val (.int (0 : Int32))] [(.ref b5), (.ref b)])) st5 ?_
  have ne_a_b5 : a ≠ b5 := Nat.ne_of_lt (Nat.lt_of_lt_of_le E_a.lt (Nat.le_of_eq g5.symm))
  have ne_b_b5 : b ≠ b5 := Nat.ne_of_lt (Nat.lt_of_lt_of_le E_b.lt (Nat.le_of_eq g5.symm))
  have ne_ts_b5 : ts ≠ b5 := Nat.ne_of_lt (Nat.lt_of_lt_of_le V_ts.lt (Nat.le_of_eq g5.symm))
  have ge_b5 : Z.heap.size ≤ b5 := Nat.le_trans O0.1 (Nat.le_of_eq g5.symm)
  have sz_b5 : h0.size ≤ b5 := Nat.le_trans K0.1 (Nat.le_of_eq g5.symm)
  replace E_b := E_b.ext E5
  replace F_coder_b := F_coder_b.ext E5
  replace F_count_b := F_count_b.ext E5
  replace F_value_b := F_value_b.ext E5
  replace E_a := E_a.ext E5
  replace F_coder_a := F_coder_a.ext E5
  replace F_value_a := F_value_a.ext E5
  replace V_ts := V_ts.ext E5
  replace O0 : Ext Z.heap h5 := ext_trans O0 E5
  replace K0 : Keep h0 h5 [b] := K0.ext E5
  have V_b5 : Arv Z h5 b5 k5 .byte (18 : Int32) [(.int (0 : Int32)), (.int (0 : Int32)), (.int (0 : Int32)), (.int (0 : Int32)), (.int (0 : Int32)), (.int (0 : Int32)), (.int (0 : Int32)), (.int (0 : Int32)), (.int (0 : Int32)), (.int (0 : Int32)), (.int (0 : Int32)), (.int (0 : Int32)), (.int (0 : Int32)), (.int (0 : Int32)), (.int (0 : Int32)), (.int (0 : Int32)), (.int (0 : Int32)), (.int (0 : Int32))] (.int (0 : Int32)) := (Arv.new A5 (by decide)).pad (pad_rep [] (.int (0 : Int32)) 18)
  refine OEnds.st (S' := T5.setTop (mkF m 53 #[.val (.ref b), .val (.ref a), .val (.int (2 : Int32)), .val (.int (18 : Int32)), .val (.int (0 : Int32))] [(.ref b5), (.ref b)])) (fun _ k => ?_) ?_
  · show Steps p.tables e below (T5.setTop (mkF m 46 #[.val (.ref b), .val (.ref a), .val (.int (2 : Int32)), .val (.int (18 : Int32)), .val (.int (0 : Int32))] [(.ref b5), (.ref b)])) _
    refine XS.goto X5.here hx rfl (pc0 := 46) (pc' := 53) rfl (hb hby d_jdk_68_3_46) (by decide) (by decide) ?_
    exact k
  obtain ⟨T6, h6, X6, e6, W6, st6⟩ := putF X5 hx hZ hown (host := "") (Or.inl (hw _ (List.mem_of_getElem? (i := 78) rfl))) Via.refl e5 F_value_b E_b (Or.inl (hw _ (List.mem_of_getElem? (i := 79) rfl))) (hw _ (List.mem_of_getElem? (i := 52) rfl)) (ty := (.array .byte)) (by decide) rfl rfl (g := (mkF m 53 #[.val (.ref b), .val (.ref a), .val (.int (2 : Int32)), .val (.int (18 : Int32)), .val (.int (0 : Int32))] [(.ref b5), (.ref b)])) rfl rfl (hb hby d_jdk_68_3_53)
  refine OEnds.st (S' := T6.setTop (mkF m 56 #[.val (.ref b), .val (.ref a), .val (.int (2 : Int32)), .val (.int (18 : Int32)), .val (.int (0 : Int32))] [])) st6 ?_
  replace E_b := E_b.wr W6
  replace F_coder_b := F_coder_b.other W6 (Or.inr (slot_ne (Or.inl (hw _ (List.mem_of_getElem? (i := 77) rfl))) (Or.inl (hw _ (List.mem_of_getElem? (i := 79) rfl))) (by decide) (t := .byte) (t' := (.array .byte)) (by decide) (by decide)))
  replace F_count_b := F_count_b.other W6 (Or.inr (slot_ne (Or.inl (hw _ (List.mem_of_getElem? (i := 95) rfl))) (Or.inl (hw _ (List.mem_of_getElem? (i := 79) rfl))) (by decide) (t := .int) (t' := (.array .byte)) (by decide) (by decide)))
  replace F_value_b := F_value_b.same W6
  replace E_a := E_a.wr W6
  replace F_coder_a := F_coder_a.other W6 (Or.inl ne_a_b)
  replace F_value_a := F_value_a.other W6 (Or.inl ne_a_b)
  replace V_ts := V_ts.other W6 ne_ts_b
  replace V_b5 := V_b5.other W6 (Ne.symm ne_b_b5)
  replace O0 : Ext Z.heap h6 := ext_wr O0 W6 ge_b
  replace N0 := Fr.snoc X6 N0 ge_b
  replace K0 : Keep h0 h6 [b] := K0.wr W6 (Or.inl (List.mem_of_getElem? (i := 0) rfl))
  refine OEnds.st (S' := T6.setTop (mkF m 58 #[.val (.ref b), .val (.ref a), .val (.int (2 : Int32)), .val (.int (18 : Int32)), .val (.int (0 : Int32))] [(.ref a), (.ref b)])) (fun _ k => ?_) ?_
  · show Steps p.tables e below (T6.setTop (mkF m 56 #[.val (.ref b), .val (.ref a), .val (.int (2 : Int32)), .val (.int (18 : Int32)), .val (.int (0 : Int32))] [])) _
    refine XS.aloadN X6.here hx rfl (hb hby d_jdk_68_3_56) rfl rfl ?_
    show Steps p.tables e below (T6.setTop (mkF m 57 #[.val (.ref b), .val (.ref a), .val (.int (2 : Int32)), .val (.int (18 : Int32)), .val (.int (0 : Int32))] [(.ref b)])) _
    refine XS.aloadN X6.here hx rfl (hb hby d_jdk_68_3_57) rfl rfl ?_
    exact k
  obtain ⟨_, T7, h7, L7, X7, e7, hQ7, st7⟩ := virtC X6 hx hZ (y := (⟨"java/lang/AbstractStringBuilder", "append", "(Ljava/lang/String;)Ljava/lang/AbstractStringBuilder;"⟩ : MethodName)) (z := (⟨"java/lang/StringBuilder", "append", "(Ljava/lang/String;)Ljava/lang/AbstractStringBuilder;"⟩ : MethodName)) hown (hw _ (List.mem_of_getElem? (i := 80) rfl)) (hw _ (List.mem_of_getElem? (i := 81) rfl)) (nf_sel (args := #[]) (mvT hZ (hw _ (List.mem_of_getElem? (i := 99) rfl))) rfl) (hw _ (List.mem_of_getElem? (i := 83) rfl)) (hw _ (List.mem_of_getElem? (i := 84) rfl)) (by decide) (kc := 0) (ks := 0) (Con.sb (W := 0) (rm_brAppS l hD b a b5 k5 18 0 [(.int (0 : Int32)), (.int (0 : Int32)), (.int (0 : Int32)), (.int (0 : Int32)), (.int (0 : Int32)), (.int (0 : Int32)), (.int (0 : Int32)), (.int (0 : Int32)), (.int (0 : Int32)), (.int (0 : Int32)), (.int (0 : Int32)), (.int (0 : Int32)), (.int (0 : Int32)), (.int (0 : Int32)), (.int (0 : Int32)), (.int (0 : Int32)), (.int (0 : Int32)), (.int (0 : Int32))] ts ks 2 us O0 E_b F_coder_b F_count_b F_value_b V_b5 E_a F_coder_a F_value_a V_ts rfl (by decide) hus (by decide) ge_b ge_b5 ne_b_b5) hZ (hw _ (List.mem_of_getElem? (i := 85) rfl)) (hw _ (List.mem_of_getElem? (i := 53) rfl)) (by decide) (by decide)) e6 E_b (g := (mkF m 58 #[.val (.ref b), .val (.ref a), .val (.int (2 : Int32)), .val (.int (18 : Int32)), .val (.int (0 : Int32))] [(.ref a), (.ref b)])) rfl (by rw [hml]; rfl) (argsL := [(.ref a)]) (rest := []) (lenOf pd_11 rfl) rfl (by show 2 * 0 + _ ≤ _; exact Nat.le_of_eq rfl) (hb hby d_jdk_68_3_58) (by decide) (by decide)
  obtain ⟨rfl, Nq7, Kq7, Eq7, Fc7, Fn7, Fv7, V7⟩ := hQ7
  refine OEnds.st (S' := T7.setTop (mkF m 61 #[.val (.ref b), .val (.ref a), .val (.int (2 : Int32)), .val (.int (18 : Int32)), .val (.int (0 : Int32))] [(.ref b)])) st7 ?_
  replace N0 := Fr.app N0 Nq7
  replace E_b := E_b.keep Kq7
  replace E_a := E_a.keep Kq7
  replace F_coder_a := F_coder_a.keep Kq7 (ninS ne_a_b (ninS ne_a_b5 nin0))
  replace F_value_a := F_value_a.keep Kq7 (ninS ne_a_b (ninS ne_a_b5 nin0))
  replace V_ts := V_ts.keep Kq7 (ninS ne_ts_b (ninS ne_ts_b5 nin0))
  replace O0 : Ext Z.heap h7 := ext_keep O0 Kq7 (allS ge_b (allS ge_b5 all0))
  replace K0 : Keep h0 h7 [b] := K0.trans Kq7 (allS (Or.inl (List.mem_of_getElem? (i := 0) rfl)) (allS (Or.inr sz_b5) all0))
  refine OEnds.st (S' := T7.setTop (mkF m 62 #[.val (.ref b), .val (.ref a), .val (.int (2 : Int32)), .val (.int (18 : Int32)), .val (.int (0 : Int32))] [])) (fun _ k => ?_) ?_
  · show Steps p.tables e below (T7.setTop (mkF m 61 #[.val (.ref b), .val (.ref a), .val (.int (2 : Int32)), .val (.int (18 : Int32)), .val (.int (0 : Int32))] [(.ref b)])) _
    refine XS.pop X7.here hx rfl (hb hby d_jdk_68_3_61) rfl rfl ?_
    exact k
  exact OEnds.retV X7 hx hret hlk (hb hby d_jdk_68_3_62) (by decide) (by decide) (by rw [e7]; exact ⟨rfl, N0, K0, b5, k5, sz_b5, ne_b_b5, Eq7, Fc7, Fn7, Fv7, V7⟩)
-- java/lang/StringBuilder.<init>:(Ljava/lang/String;)V
def Q_sbInit (Z : State) (b : Addr) (a : Addr) (ts : Addr) (ks : ClassId) (us : List Value) (h0 : Heap) (v : Option Value) (h : Heap) (L : List Loc) : Prop := v = none ∧ Fr Z.heap.size L ∧ Keep h0 h [b] ∧ ∃ (t : Addr) (k : ClassId), h0.size ≤ t ∧ b ≠ t ∧ Exa Z h b "java/lang/StringBuilder" ∧ Fld Z h b "java/lang/AbstractStringBuilder" "coder" "B" (.int 0) ∧ Fld Z h b "java/lang/AbstractStringBuilder" "count" "I" (.int (Int32.ofNat 2)) ∧ Fld Z h b "java/lang/AbstractStringBuilder" "value" "[B" (.ref t) ∧ Arv Z h t k .byte (Int32.ofNat 18) (us ++ List.replicate 16 (.int 0)) (.int 0)
theorem ef_sbInit (m : MethodId) (b : Addr) (a : Addr) : entryFrame m #[(.ref b), (.ref a)] 2 = mkF m 0 #[.val (.ref b), .val (.ref a)] [] := by first | (simp [entryFrame, mkF, argsToLocals, Value.category]; done) | rfl
theorem d_jdk_67_3_0 : decode jdk_67_method_3_code 0 = .ok (.aload_n 0, 1) := by decide +kernel
theorem d_jdk_67_3_1 : decode jdk_67_method_3_code 1 = .ok (.aload_n 1, 1) := by decide +kernel
theorem d_jdk_67_3_2 : decode jdk_67_method_3_code 2 = .ok (.invokespecial 7, 3) := by decide +kernel
theorem d_jdk_67_3_5 : decode jdk_67_method_3_code 5 = .ok (.return_, 1) := by decide +kernel
set_option maxRecDepth 65536 in
set_option maxHeartbeats 40000000 in
theorem rm_sbInit (l : Launch) {Z : State} {a0 : Array Value} (hD : Wd Z a0) (b : Addr) (a : Addr) (ts : Addr) (ks : ClassId) (us : List Value) {h0 : Heap} (O0 : Ext Z.heap h0) (E_b : Exa Z h0 b "java/lang/StringBuilder") (F_coder_b : Fld Z h0 b "java/lang/AbstractStringBuilder" "coder" "B" (.int 0)) (F_count_b : Fld Z h0 b "java/lang/AbstractStringBuilder" "count" "I" (.int 0)) (F_value_b : Fld Z h0 b "java/lang/AbstractStringBuilder" "value" "[B" .null) (ge_b : Z.heap.size ≤ b) (E_a : Exa Z h0 a "java/lang/String") (F_coder_a : Fld Z h0 a "java/lang/String" "coder" "B" (.int 0)) (F_value_a : Fld Z h0 a "java/lang/String" "value" "[B" (.ref ts)) (V_ts : Arv Z h0 ts ks .byte (Int32.ofNat 2) us (.int 0)) (hus : us.length = 2) :
    Con l Z (⟨"java/lang/StringBuilder", "<init>", "(Ljava/lang/String;)V"⟩ : MethodName) jdk_67_method_3_code 2 none [] ({ frames := 7, cells := 1, slots := 18, locals := 103 } : Room) #[(.ref b), (.ref a)] h0 (Q_sbInit Z b a ts ks us h0) := by
  refine Con.walk (plainFor_of_name pn_3) ?_
  intro p e s m below meth c T0 X0 hx hZ hby hml hown hnm hret hlk e0
  obtain ⟨hw, cz, S_CS, hcz⟩ := id hD
  have N0 := Fr.nil Z.heap.size
  have K0 : Keep h0 h0 [b] := Keep.refl _ _
  refine OEnds.cast (ef_sbInit m b a) ?_
  refine OEnds.st (S' := T0.setTop (mkF m 2 #[.val (.ref b), .val (.ref a)] [(.ref a), (.ref b)])) (fun _ k => ?_) ?_
  · show Steps p.tables e below (T0.setTop (mkF m 0 #[.val (.ref b), .val (.ref a)] [])) _
    refine XS.aloadN X0.here hx rfl (hb hby d_jdk_67_3_0) rfl rfl ?_
    show Steps p.tables e below (T0.setTop (mkF m 1 #[.val (.ref b), .val (.ref a)] [(.ref b)])) _
    refine XS.aloadN X0.here hx rfl (hb hby d_jdk_67_3_1) rfl rfl ?_
    exact k
  obtain ⟨_, T1, h1, L1, X1, e1, hQ1, st1⟩ := specC X0 hx hZ rfl hown (hw _ (List.mem_of_getElem? (i := 57) rfl)) (hw _ (List.mem_of_getElem? (i := 58) rfl)) (hw _ (List.mem_of_getElem? (i := 62) rfl)) (by decide) (kc := 1) (ks := 18) (Con.sb (W := 0) (rm_asbInit l hD b a ts ks us O0 E_b F_coder_b F_count_b F_value_b ge_b E_a F_coder_a F_value_a V_ts hus) hZ (hw _ (List.mem_of_getElem? (i := 62) rfl)) (hw _ (List.mem_of_getElem? (i := 61) rfl)) (by decide) (by decide)) e0 (a := b) (g := (mkF m 2 #[.val (.ref b), .val (.ref a)] [(.ref a), (.ref b)])) rfl (by rw [hml]; rfl) (argsL := [(.ref a)]) (rest := []) (lenOf pd_7 rfl) rfl (by show 2 * 0 + _ ≤ _; exact Nat.le_of_eq rfl) (hb hby d_jdk_67_3_2) (by decide) (by decide)
  obtain ⟨rfl, Nq1, Kq1, R1⟩ := hQ1
  refine OEnds.st (S' := T1.setTop (mkF m 5 #[.val (.ref b), .val (.ref a)] [])) st1 ?_
  replace N0 := Fr.app N0 Nq1
  have ne_a_b : a ≠ b := ne_exa E_a E_b (by decide)
  have ne_ts_b : ts ≠ b := Ne.symm (ne_arv E_b (hw _ (List.mem_of_getElem? (i := 52) rfl)) V_ts)
  replace E_b := E_b.keep Kq1
  replace E_a := E_a.keep Kq1
  replace F_coder_a := F_coder_a.keep Kq1 (ninS ne_a_b nin0)
  replace F_value_a := F_value_a.keep Kq1 (ninS ne_a_b nin0)
  replace V_ts := V_ts.keep Kq1 (ninS ne_ts_b nin0)
  replace O0 : Ext Z.heap h1 := ext_keep O0 Kq1 (allS ge_b all0)
  replace K0 : Keep h0 h1 [b] := K0.trans Kq1 (allS (Or.inl (List.mem_of_getElem? (i := 0) rfl)) all0)
  exact OEnds.retV X1 hx hret hlk (hb hby d_jdk_67_3_5) (by decide) (by decide) (by rw [e1]; exact ⟨rfl, N0, K0, R1⟩)
-- cordon/cli/ResultLine.<init>:(Ljava/lang/String;)V
def Q_rlInit (Z : State) (a : Addr) (sx : Addr) (ts : Addr) (ks : ClassId) (us : List Value) (h0 : Heap) (v : Option Value) (h : Heap) (L : List Loc) : Prop := v = none ∧ Fr Z.heap.size L ∧ Keep h0 h [a] ∧ ∃ (b t : Addr) (k : ClassId), h0.size ≤ b ∧ h0.size ≤ t ∧ b ≠ t ∧ Exa Z h a "cordon/cli/ResultLine" ∧ Fld Z h a "cordon/cli/ResultLine" "line" "Ljava/lang/StringBuilder;" (.ref b) ∧ Exa Z h b "java/lang/StringBuilder" ∧ Fld Z h b "java/lang/AbstractStringBuilder" "coder" "B" (.int 0) ∧ Fld Z h b "java/lang/AbstractStringBuilder" "count" "I" (.int (Int32.ofNat 2)) ∧ Fld Z h b "java/lang/AbstractStringBuilder" "value" "[B" (.ref t) ∧ Arv Z h t k .byte (Int32.ofNat 18) (us ++ List.replicate 16 (.int 0)) (.int 0)
theorem ef_rlInit (m : MethodId) (a : Addr) (sx : Addr) : entryFrame m #[(.ref a), (.ref sx)] 2 = mkF m 0 #[.val (.ref a), .val (.ref sx)] [] := by first | (simp [entryFrame, mkF, argsToLocals, Value.category]; done) | rfl
theorem pn_5 : plainName "cordon/cli/ResultLine" = true := by first | (simp [plainName, overriddenIn]; done) | decide +kernel
theorem d_prog_18_1_0 : decode prog_18_method_1_code 0 = .ok (.aload_n 0, 1) := by decide +kernel
theorem d_prog_18_1_1 : decode prog_18_method_1_code 1 = .ok (.invokespecial 1, 3) := by decide +kernel
theorem d_prog_18_1_4 : decode prog_18_method_1_code 4 = .ok (.aload_n 0, 1) := by decide +kernel
theorem d_prog_18_1_5 : decode prog_18_method_1_code 5 = .ok (.new 7, 3) := by decide +kernel
theorem d_prog_18_1_8 : decode prog_18_method_1_code 8 = .ok (.dup, 1) := by decide +kernel
theorem d_prog_18_1_9 : decode prog_18_method_1_code 9 = .ok (.aload_n 1, 1) := by decide +kernel
theorem d_prog_18_1_10 : decode prog_18_method_1_code 10 = .ok (.invokespecial 9, 3) := by decide +kernel
theorem d_prog_18_1_13 : decode prog_18_method_1_code 13 = .ok (.putfield 12, 3) := by decide +kernel
theorem d_prog_18_1_16 : decode prog_18_method_1_code 16 = .ok (.return_, 1) := by decide +kernel
set_option maxRecDepth 65536 in
set_option maxHeartbeats 40000000 in
theorem rm_rlInit (l : Launch) {Z : State} {a0 : Array Value} (hD : Wd Z a0) (a : Addr) (sx : Addr) (ts : Addr) (ks : ClassId) (us : List Value) {h0 : Heap} (O0 : Ext Z.heap h0) (E_a : Exa Z h0 a "cordon/cli/ResultLine") (F_line_a : Fld Z h0 a "cordon/cli/ResultLine" "line" "Ljava/lang/StringBuilder;" .null) (ge_a : Z.heap.size ≤ a) (E_sx : Exa Z h0 sx "java/lang/String") (F_coder_sx : Fld Z h0 sx "java/lang/String" "coder" "B" (.int 0)) (F_value_sx : Fld Z h0 sx "java/lang/String" "value" "[B" (.ref ts)) (V_ts : Arv Z h0 ts ks .byte (Int32.ofNat 2) us (.int 0)) (hus : us.length = 2) :
    Con l Z (⟨"cordon/cli/ResultLine", "<init>", "(Ljava/lang/String;)V"⟩ : MethodName) prog_18_method_1_code 2 none [] ({ frames := 8, cells := 2, slots := 22, locals := 118 } : Room) #[(.ref a), (.ref sx)] h0 (Q_rlInit Z a sx ts ks us h0) := by
  refine Con.walk (plainFor_of_name pn_5) ?_
  intro p e s m below meth c T0 X0 hx hZ hby hml hown hnm hret hlk e0
  obtain ⟨hw, cz, S_CS, hcz⟩ := id hD
  have N0 := Fr.nil Z.heap.size
  have K0 : Keep h0 h0 [a] := Keep.refl _ _
  refine OEnds.cast (ef_rlInit m a sx) ?_
  refine OEnds.st (S' := T0.setTop (mkF m 1 #[.val (.ref a), .val (.ref sx)] [(.ref a)])) (fun _ k => ?_) ?_
  · show Steps p.tables e below (T0.setTop (mkF m 0 #[.val (.ref a), .val (.ref sx)] [])) _
    refine XS.aloadN X0.here hx rfl (hb hby d_prog_18_1_0) rfl rfl ?_
    exact k
  obtain ⟨T1, X1, e1, st1⟩ := initO X0 hx hZ hown (hw _ (List.mem_of_getElem? (i := 50) rfl)) (hw _ (List.mem_of_getElem? (i := 12) rfl)) (hw _ (List.mem_of_getElem? (i := 13) rfl)) e0 (g := (mkF m 1 #[.val (.ref a), .val (.ref sx)] [(.ref a)])) rfl (by rw [hml]; rfl) rfl (hb hby d_prog_18_1_1) (by decide) (W := 0) (by show 2 * 0 + _ ≤ _; exact Nat.le_of_eq rfl) (by decide)
  refine OEnds.st (S' := T1.setTop (mkF m 4 #[.val (.ref a), .val (.ref sx)] [])) st1 ?_
  refine OEnds.st (S' := T1.setTop (mkF m 5 #[.val (.ref a), .val (.ref sx)] [(.ref a)])) (fun _ k => ?_) ?_
  · show Steps p.tables e below (T1.setTop (mkF m 4 #[.val (.ref a), .val (.ref sx)] [])) _
    refine XS.aloadN X1.here hx rfl (hb hby d_prog_18_1_4) rfl rfl ?_
    exact k
  obtain ⟨T2, h2, X2, e2, E2, A2, D2, U2, st2⟩ := newO X1 hx hZ hown (hw _ (List.mem_of_getElem? (i := 51) rfl)) (hw _ (List.mem_of_getElem? (i := 52) rfl)) (hw _ (List.mem_of_getElem? (i := 53) rfl)) e1 (g := (mkF m 5 #[.val (.ref a), .val (.ref sx)] [(.ref a)])) rfl (hb hby d_prog_18_1_5) (by decide) (by decide)
  obtain ⟨b2, g2⟩ : ∃ z, z = h0.size := ⟨_, rfl⟩
  rw [← g2] at A2 D2 U2 st2
  refine OEnds.st (S' := T2.setTop (mkF m 8 #[.val (.ref a), .val (.ref sx)] [(.ref b2), (.ref a)])) st2 ?_
  have ne_a_b2 : a ≠ b2 := Nat.ne_of_lt (Nat.lt_of_lt_of_le E_a.lt (Nat.le_of_eq g2.symm))
  have ne_sx_b2 : sx ≠ b2 := Nat.ne_of_lt (Nat.lt_of_lt_of_le E_sx.lt (Nat.le_of_eq g2.symm))
  have ne_ts_b2 : ts ≠ b2 := Nat.ne_of_lt (Nat.lt_of_lt_of_le V_ts.lt (Nat.le_of_eq g2.symm))
  have ge_b2 : Z.heap.size ≤ b2 := Nat.le_trans O0.1 (Nat.le_of_eq g2.symm)
  have sz_b2 : h0.size ≤ b2 := Nat.le_trans K0.1 (Nat.le_of_eq g2.symm)
  replace E_a := E_a.ext E2
  replace F_line_a := F_line_a.ext E2
  replace E_sx := E_sx.ext E2
  replace F_coder_sx := F_coder_sx.ext E2
  replace F_value_sx := F_value_sx.ext E2
  replace V_ts := V_ts.ext E2
  replace O0 : Ext Z.heap h2 := ext_trans O0 E2
  replace K0 : Keep h0 h2 [a] := K0.ext E2
  have F_coder_b2 : Fld Z h2 b2 "java/lang/AbstractStringBuilder" "coder" "B" (.int (0 : Int32)) := D2 (Or.inl (hw _ (List.mem_of_getElem? (i := 77) rfl))) (ty := .byte) (by decide)
  have F_value_b2 : Fld Z h2 b2 "java/lang/AbstractStringBuilder" "value" "[B" .null := D2 (Or.inl (hw _ (List.mem_of_getElem? (i := 79) rfl))) (ty := (.array .byte)) (by decide)
  have F_count_b2 : Fld Z h2 b2 "java/lang/AbstractStringBuilder" "count" "I" (.int (0 : Int32)) := D2 (Or.inl (hw _ (List.mem_of_getElem? (i := 95) rfl))) (ty := .int) (by decide)
  refine OEnds.st (S' := T2.setTop (mkF m 10 #[.val (.ref a), .val (.ref sx)] [(.ref sx), (.ref b2), (.ref b2), (.ref a)])) (fun _ k => ?_) ?_
  · show Steps p.tables e below (T2.setTop (mkF m 8 #[.val (.ref a), .val (.ref sx)] [(.ref b2), (.ref a)])) _
    refine XS.dup X2.here hx rfl (hb hby d_prog_18_1_8) rfl rfl ?_
    show Steps p.tables e below (T2.setTop (mkF m 9 #[.val (.ref a), .val (.ref sx)] [(.ref b2), (.ref b2), (.ref a)])) _
    refine XS.aloadN X2.here hx rfl (hb hby d_prog_18_1_9) rfl rfl ?_
    exact k
  obtain ⟨_, T3, h3, L3, X3, e3, hQ3, st3⟩ := specC X2 hx hZ rfl hown (hw _ (List.mem_of_getElem? (i := 54) rfl)) (hw _ (List.mem_of_getElem? (i := 55) rfl)) (hw _ (List.mem_of_getElem? (i := 56) rfl)) (by decide) (kc := 1) (ks := 18) (Con.sb (W := 2) (rm_sbInit l hD b2 sx ts ks us O0 A2 F_coder_b2 F_count_b2 F_value_b2 ge_b2 E_sx F_coder_sx F_value_sx V_ts hus) hZ (hw _ (List.mem_of_getElem? (i := 56) rfl)) (hw _ (List.mem_of_getElem? (i := 53) rfl)) (by decide) (by decide)) e2 (a := b2) (g := (mkF m 10 #[.val (.ref a), .val (.ref sx)] [(.ref sx), (.ref b2), (.ref b2), (.ref a)])) rfl (by rw [hml]; rfl) (argsL := [(.ref sx)]) (rest := [(.ref b2), (.ref a)]) (lenOf pd_7 rfl) rfl (by show 2 * 0 + _ ≤ _; exact Nat.le_of_eq rfl) (hb hby d_prog_18_1_10) (by decide) (by decide)
  obtain ⟨rfl, Nq3, Kq3, t3, k3, szq3, nbt3, Eq3, Fc3, Fn3, Fv3, V3⟩ := hQ3
  refine OEnds.st (S' := T3.setTop (mkF m 13 #[.val (.ref a), .val (.ref sx)] [(.ref b2), (.ref a)])) st3 ?_
  replace N0 := Fr.app N0 Nq3
  have ne_a_t3 : a ≠ t3 := Nat.ne_of_lt (Nat.lt_of_lt_of_le E_a.lt szq3)
  have ne_b2_t3 : b2 ≠ t3 := Nat.ne_of_lt (Nat.lt_of_lt_of_le A2.lt szq3)
  have ne_sx_t3 : sx ≠ t3 := Nat.ne_of_lt (Nat.lt_of_lt_of_le E_sx.lt szq3)
  have ne_ts_t3 : ts ≠ t3 := Nat.ne_of_lt (Nat.lt_of_lt_of_le V_ts.lt szq3)
  have ge_t3 : Z.heap.size ≤ t3 := Nat.le_trans O0.1 szq3
  have sz_t3 : h0.size ≤ t3 := Nat.le_trans K0.1 szq3
  replace E_a := E_a.keep Kq3
  replace F_line_a := F_line_a.keep Kq3 (ninS ne_a_b2 nin0)
  replace E_sx := E_sx.keep Kq3
  replace F_coder_sx := F_coder_sx.keep Kq3 (ninS ne_sx_b2 nin0)
  replace F_value_sx := F_value_sx.keep Kq3 (ninS ne_sx_b2 nin0)
  replace V_ts := V_ts.keep Kq3 (ninS ne_ts_b2 nin0)
  replace A2 := A2.keep Kq3
  replace O0 : Ext Z.heap h3 := ext_keep O0 Kq3 (allS ge_b2 all0)
  replace K0 : Keep h0 h3 [a] := K0.trans Kq3 (allS (Or.inr sz_b2) all0)
  have ne_sx_a : sx ≠ a := ne_exa E_sx E_a (by decide)
  have ne_ts_a : ts ≠ a := Ne.symm (ne_arv E_a (hw _ (List.mem_of_getElem? (i := 45) rfl)) V_ts)
  obtain ⟨T4, h4, X4, e4, W4, st4⟩ := putF X3 hx hZ hown (host := "") (Or.inl (hw _ (List.mem_of_getElem? (i := 121) rfl))) Via.refl e3 F_line_a E_a (Or.inr ⟨(hw _ (List.mem_of_getElem? (i := 122) rfl)), rfl, hnm⟩) (hw _ (List.mem_of_getElem? (i := 45) rfl)) (ty := (.object "java/lang/StringBuilder")) (by decide) rfl rfl (g := (mkF m 13 #[.val (.ref a), .val (.ref sx)] [(.ref b2), (.ref a)])) rfl rfl (hb hby d_prog_18_1_13)
  refine OEnds.st (S' := T4.setTop (mkF m 16 #[.val (.ref a), .val (.ref sx)] [])) st4 ?_
  replace E_a := E_a.wr W4
  replace F_line_a := F_line_a.same W4
  replace E_sx := E_sx.wr W4
  replace F_coder_sx := F_coder_sx.other W4 (Or.inl ne_sx_a)
  replace F_value_sx := F_value_sx.other W4 (Or.inl ne_sx_a)
  replace V_ts := V_ts.other W4 ne_ts_a
  replace A2 := A2.wr W4
  replace Fc3 := Fc3.other W4 (Or.inl (Ne.symm ne_a_b2))
  replace Fn3 := Fn3.other W4 (Or.inl (Ne.symm ne_a_b2))
  replace Fv3 := Fv3.other W4 (Or.inl (Ne.symm ne_a_b2))
  replace V3 := V3.other W4 (Ne.symm ne_a_t3)
  replace O0 : Ext Z.heap h4 := ext_wr O0 W4 ge_a
  replace N0 := Fr.snoc X4 N0 ge_a
  replace K0 : Keep h0 h4 [a] := K0.wr W4 (Or.inl (List.mem_of_getElem? (i := 0) rfl))
  exact OEnds.retV X4 hx hret hlk (hb hby d_prog_18_1_16) (by decide) (by decide) (by rw [e4]; exact ⟨rfl, N0, K0, b2, t3, k3, sz_b2, sz_t3, nbt3, E_a, F_line_a, A2, Fc3, Fn3, Fv3, V3⟩)
def addL (vs : List Value) (n : Nat) (u1 u2 : List Value) : List Value :=
  let v1 := List.set vs n (.int (32 : Int32).toInt8.toInt32)
  let v2 := v1.take (n + 1) ++ u1 ++ v1.drop (n + 1 + 1)
  let v3 := List.set v2 (n + 1 + 1) (.int (61 : Int32).toInt8.toInt32)
  v3.take (n + 1 + 1 + 1) ++ u2 ++ v3.drop (n + 1 + 1 + 1 + 1)
theorem addL_2 (b0 b1 k w : Value) : addL ([b0, b1] ++ List.replicate 16 (.int 0)) 2 [k] [w] = [b0, b1, (.int (32 : Int32).toInt8.toInt32), k, (.int (61 : Int32).toInt8.toInt32), w] ++ List.replicate 12 (.int 0) := rfl
theorem addL_6 (b0 b1 b2 b3 b4 b5 k w : Value) : addL ([b0, b1, b2, b3, b4, b5] ++ List.replicate 12 (.int 0)) 6 [k] [w] = [b0, b1, b2, b3, b4, b5, (.int (32 : Int32).toInt8.toInt32), k, (.int (61 : Int32).toInt8.toInt32), w] ++ List.replicate 8 (.int 0) := rfl
theorem take_6 (b0 b1 b2 b3 b4 b5 : Value) (r : List Value) : ([b0, b1, b2, b3, b4, b5] ++ r).take 6 = [b0, b1, b2, b3, b4, b5] := rfl
theorem take_10 (b0 b1 b2 b3 b4 b5 b6 b7 b8 b9 : Value) (r : List Value) : ([b0, b1, b2, b3, b4, b5, b6, b7, b8, b9] ++ r).take 10 = [b0, b1, b2, b3, b4, b5, b6, b7, b8, b9] := rfl
theorem len_2 (b0 b1 d : Value) : ([b0, b1] ++ List.replicate 16 d).length = 18 := rfl
theorem len_6 (b0 b1 b2 b3 b4 b5 d : Value) : ([b0, b1, b2, b3, b4, b5] ++ List.replicate 12 d).length = 18 := rfl
theorem len_10 (b0 b1 b2 b3 b4 b5 b6 b7 b8 b9 d : Value) : ([b0, b1, b2, b3, b4, b5, b6, b7, b8, b9] ++ List.replicate 8 d).length = 18 := rfl
-- cordon/cli/ResultLine.add:(Ljava/lang/String;Ljava/lang/String;)Lcordon/cli/ResultLine;
def Q_rlAdd (Z : State) (a : Addr) (s1 : Addr) (s2 : Addr) (b : Addr) (t : Addr) (k : ClassId) (cN n : Nat) (vs : List Value) (t1 : Addr) (k1 : ClassId) (u1 : List Value) (t2 : Addr) (k2 : ClassId) (u2 : List Value) (h0 : Heap) (v : Option Value) (h : Heap) (L : List Loc) : Prop := v = some (.ref a) ∧ Fr Z.heap.size L ∧ Keep h0 h [b, t] ∧ Exa Z h a "cordon/cli/ResultLine" ∧ Fld Z h a "cordon/cli/ResultLine" "line" "Ljava/lang/StringBuilder;" (.ref b) ∧ Exa Z h b "java/lang/StringBuilder" ∧ Fld Z h b "java/lang/AbstractStringBuilder" "coder" "B" (.int 0) ∧ Fld Z h b "java/lang/AbstractStringBuilder" "count" "I" (.int (Int32.ofNat (n + 4))) ∧ Fld Z h b "java/lang/AbstractStringBuilder" "value" "[B" (.ref t) ∧ Arv Z h t k .byte (Int32.ofNat cN) (addL vs n u1 u2) (.int 0)
theorem ef_rlAdd (m : MethodId) (a : Addr) (s1 : Addr) (s2 : Addr) : entryFrame m #[(.ref a), (.ref s1), (.ref s2)] 3 = mkF m 0 #[.val (.ref a), .val (.ref s1), .val (.ref s2)] [] := by first | (simp [entryFrame, mkF, argsToLocals, Value.category]; done) | rfl
theorem d_prog_18_2_0 : decode prog_18_method_2_code 0 = .ok (.aload_n 0, 1) := by decide +kernel
theorem d_prog_18_2_1 : decode prog_18_method_2_code 1 = .ok (.getfield 12, 3) := by decide +kernel
theorem d_prog_18_2_4 : decode prog_18_method_2_code 4 = .ok (.bipush 32, 2) := by decide +kernel
theorem d_prog_18_2_6 : decode prog_18_method_2_code 6 = .ok (.invokevirtual 18, 3) := by decide +kernel
theorem pd_19 : parseMethodDescriptor "(C)Ljava/lang/StringBuilder;" = some ⟨[.char], some (.object "java/lang/StringBuilder")⟩ := by decide +kernel
theorem d_prog_18_2_9 : decode prog_18_method_2_code 9 = .ok (.aload_n 1, 1) := by decide +kernel
theorem d_prog_18_2_10 : decode prog_18_method_2_code 10 = .ok (.invokevirtual 22, 3) := by decide +kernel
theorem d_prog_18_2_13 : decode prog_18_method_2_code 13 = .ok (.bipush 61, 2) := by decide +kernel
theorem d_prog_18_2_15 : decode prog_18_method_2_code 15 = .ok (.invokevirtual 18, 3) := by decide +kernel
theorem d_prog_18_2_18 : decode prog_18_method_2_code 18 = .ok (.aload_n 2, 1) := by decide +kernel
theorem d_prog_18_2_19 : decode prog_18_method_2_code 19 = .ok (.invokevirtual 22, 3) := by decide +kernel
theorem d_prog_18_2_22 : decode prog_18_method_2_code 22 = .ok (.pop, 1) := by decide +kernel
theorem d_prog_18_2_23 : decode prog_18_method_2_code 23 = .ok (.aload_n 0, 1) := by decide +kernel
theorem d_prog_18_2_24 : decode prog_18_method_2_code 24 = .ok (.areturn, 1) := by decide +kernel
set_option maxRecDepth 65536 in
set_option maxHeartbeats 40000000 in
theorem rm_rlAdd (l : Launch) {Z : State} {a0 : Array Value} (hD : Wd Z a0) (a : Addr) (s1 : Addr) (s2 : Addr) (b : Addr) (t : Addr) (k : ClassId) (cN n : Nat) (vs : List Value) (t1 : Addr) (k1 : ClassId) (u1 : List Value) (t2 : Addr) (k2 : ClassId) (u2 : List Value) {h0 : Heap} (O0 : Ext Z.heap h0) (E_a : Exa Z h0 a "cordon/cli/ResultLine") (F_line_a : Fld Z h0 a "cordon/cli/ResultLine" "line" "Ljava/lang/StringBuilder;" (.ref b)) (E_b : Exa Z h0 b "java/lang/StringBuilder") (F_coder_b : Fld Z h0 b "java/lang/AbstractStringBuilder" "coder" "B" (.int 0)) (F_count_b : Fld Z h0 b "java/lang/AbstractStringBuilder" "count" "I" (.int (Int32.ofNat n))) (F_value_b : Fld Z h0 b "java/lang/AbstractStringBuilder" "value" "[B" (.ref t)) (V_t : Arv Z h0 t k .byte (Int32.ofNat cN) vs (.int 0)) (E_s1 : Exa Z h0 s1 "java/lang/String") (F_coder_s1 : Fld Z h0 s1 "java/lang/String" "coder" "B" (.int 0)) (F_value_s1 : Fld Z h0 s1 "java/lang/String" "value" "[B" (.ref t1)) (V_t1 : Arv Z h0 t1 k1 .byte (Int32.ofNat 1) u1 (.int 0)) (E_s2 : Exa Z h0 s2 "java/lang/String") (F_coder_s2 : Fld Z h0 s2 "java/lang/String" "coder" "B" (.int 0)) (F_value_s2 : Fld Z h0 s2 "java/lang/String" "value" "[B" (.ref t2)) (V_t2 : Arv Z h0 t2 k2 .byte (Int32.ofNat 1) u2 (.int 0)) (hvs : vs.length = cN) (hcN : cN ≤ 4000) (ge_b : Z.heap.size ≤ b) (ge_t : Z.heap.size ≤ t) (ne_b_t : b ≠ t) (hu1 : u1.length = 1) (hu2 : u2.length = 1) (hroom : n + 4 ≤ cN) (ne_a_b : a ≠ b) (ne_a_t : a ≠ t) (ne_s1_b : s1 ≠ b) (ne_s1_t : s1 ≠ t) (ne_t1_b : t1 ≠ b) (ne_t1_t : t1 ≠ t) (ne_s2_b : s2 ≠ b) (ne_s2_t : s2 ≠ t) (ne_t2_b : t2 ≠ b) (ne_t2_t : t2 ≠ t) :
    Con l Z (⟨"cordon/cli/ResultLine", "add", "(Ljava/lang/String;Ljava/lang/String;)Lcordon/cli/ResultLine;"⟩ : MethodName) prog_18_method_2_code 3 (some (.object "cordon/cli/ResultLine")) [] ({ frames := 5, cells := 0, slots := 0, locals := 74 } : Room) #[(.ref a), (.ref s1), (.ref s2)] h0 (Q_rlAdd Z a s1 s2 b t k cN n vs t1 k1 u1 t2 k2 u2 h0) := by
  refine Con.walk (plainFor_of_name pn_5) ?_
  intro p e s m below meth c T0 X0 hx hZ hby hml hown hnm hret hlk e0
  obtain ⟨hw, cz, S_CS, hcz⟩ := id hD
  have N0 := Fr.nil Z.heap.size
  have K0 : Keep h0 h0 [b, t] := Keep.refl _ _
  refine OEnds.cast (ef_rlAdd m a s1 s2) ?_
  have l1 : (List.set vs n (.int (32 : Int32).toInt8.toInt32)).length = cN := len_set hvs
  have l2 : ((List.set vs n (.int (32 : Int32).toInt8.toInt32)).take (n + 1) ++ u1 ++ (List.set vs n (.int (32 : Int32).toInt8.toInt32)).drop (n + 1 + 1)).length = cN := len_cp l1 hu1 (by omega)
  have l3 : (List.set ((List.set vs n (.int (32 : Int32).toInt8.toInt32)).take (n + 1) ++ u1 ++ (List.set vs n (.int (32 : Int32).toInt8.toInt32)).drop (n + 1 + 1)) (n + 1 + 1) (.int (61 : Int32).toInt8.toInt32)).length = cN := len_set l2
  refine OEnds.st (S' := T0.setTop (mkF m 1 #[.val (.ref a), .val (.ref s1), .val (.ref s2)] [(.ref a)])) (fun _ k => ?_) ?_
  · show Steps p.tables e below (T0.setTop (mkF m 0 #[.val (.ref a), .val (.ref s1), .val (.ref s2)] [])) _
    refine XS.aloadN X0.here hx rfl (hb hby d_prog_18_2_0) rfl rfl ?_
    exact k
  obtain ⟨T1, X1, e1, st1⟩ := getF X0 hx hZ hown (host := "") (Or.inl (hw _ (List.mem_of_getElem? (i := 121) rfl))) Via.refl e0 F_line_a (g := (mkF m 1 #[.val (.ref a), .val (.ref s1), .val (.ref s2)] [(.ref a)])) rfl rfl (hb hby d_prog_18_2_1)
  refine OEnds.st (S' := T1.setTop (mkF m 4 #[.val (.ref a), .val (.ref s1), .val (.ref s2)] [(.ref b)])) st1 ?_
  refine OEnds.st (S' := T1.setTop (mkF m 6 #[.val (.ref a), .val (.ref s1), .val (.ref s2)] [(.int (32 : Int32)), (.ref b)])) (fun _ k => ?_) ?_
  · show Steps p.tables e below (T1.setTop (mkF m 4 #[.val (.ref a), .val (.ref s1), .val (.ref s2)] [(.ref b)])) _
    refine XS.bipush X1.here hx rfl (hb hby d_prog_18_2_4) ?_
    exact k
  obtain ⟨_, T2, h2, L2, X2, e2, hQ2, st2⟩ := virtC X1 hx hZ (y := (⟨"java/lang/StringBuilder", "append", "(C)Ljava/lang/StringBuilder;"⟩ : MethodName)) (z := (⟨"java/lang/StringBuilder", "append", "(C)Ljava/lang/StringBuilder;"⟩ : MethodName)) hown (hw _ (List.mem_of_getElem? (i := 128) rfl)) (hw _ (List.mem_of_getElem? (i := 129) rfl)) (nf_sel (args := #[]) (mvT hZ (hw _ (List.mem_of_getElem? (i := 83) rfl))) rfl) (hw _ (List.mem_of_getElem? (i := 131) rfl)) (hw _ (List.mem_of_getElem? (i := 130) rfl)) (by decide) (kc := 0) (ks := 0) (Con.sb (W := 0) (rm_sbAppC l hD b (32 : Int32) t k cN n vs O0 E_b F_coder_b F_count_b F_value_b V_t hvs hcN ge_b ge_t ne_b_t (by omega) (by decide)) hZ (hw _ (List.mem_of_getElem? (i := 132) rfl)) (hw _ (List.mem_of_getElem? (i := 53) rfl)) (by decide) (by decide)) e1 E_b (g := (mkF m 6 #[.val (.ref a), .val (.ref s1), .val (.ref s2)] [(.int (32 : Int32)), (.ref b)])) rfl (by rw [hml]; rfl) (argsL := [(.int (32 : Int32))]) (rest := []) (lenOf pd_19 rfl) rfl (by show 2 * 0 + _ ≤ _; exact Nat.le_of_eq rfl) (hb hby d_prog_18_2_6) (by decide) (by decide)
  obtain ⟨rfl, Nq2, Kq2, Eq2, Fc2, Fn2, Fv2, V2⟩ := hQ2
  refine OEnds.st (S' := T2.setTop (mkF m 9 #[.val (.ref a), .val (.ref s1), .val (.ref s2)] [(.ref b)])) st2 ?_
  replace N0 := Fr.app N0 Nq2
  replace E_a := E_a.keep Kq2
  replace F_line_a := F_line_a.keep Kq2 (ninS ne_a_b (ninS ne_a_t nin0))
  replace E_b := E_b.keep Kq2
  replace E_s1 := E_s1.keep Kq2
  replace F_coder_s1 := F_coder_s1.keep Kq2 (ninS ne_s1_b (ninS ne_s1_t nin0))
  replace F_value_s1 := F_value_s1.keep Kq2 (ninS ne_s1_b (ninS ne_s1_t nin0))
  replace V_t1 := V_t1.keep Kq2 (ninS ne_t1_b (ninS ne_t1_t nin0))
  replace E_s2 := E_s2.keep Kq2
  replace F_coder_s2 := F_coder_s2.keep Kq2 (ninS ne_s2_b (ninS ne_s2_t nin0))
  replace F_value_s2 := F_value_s2.keep Kq2 (ninS ne_s2_b (ninS ne_s2_t nin0))
  replace V_t2 := V_t2.keep Kq2 (ninS ne_t2_b (ninS ne_t2_t nin0))
  replace O0 : Ext Z.heap h2 := ext_keep O0 Kq2 (allS ge_b (allS ge_t all0))
  replace K0 : Keep h0 h2 [b, t] := K0.trans Kq2 (allS (Or.inl (List.mem_of_getElem? (i := 0) rfl)) (allS (Or.inl (List.mem_of_getElem? (i := 1) rfl)) all0))
  refine OEnds.st (S' := T2.setTop (mkF m 10 #[.val (.ref a), .val (.ref s1), .val (.ref s2)] [(.ref s1), (.ref b)])) (fun _ k => ?_) ?_
  · show Steps p.tables e below (T2.setTop (mkF m 9 #[.val (.ref a), .val (.ref s1), .val (.ref s2)] [(.ref b)])) _
    refine XS.aloadN X2.here hx rfl (hb hby d_prog_18_2_9) rfl rfl ?_
    exact k
  obtain ⟨_, T3, h3, L3, X3, e3, hQ3, st3⟩ := virtC X2 hx hZ (y := (⟨"java/lang/StringBuilder", "append", "(Ljava/lang/String;)Ljava/lang/StringBuilder;"⟩ : MethodName)) (z := (⟨"java/lang/StringBuilder", "append", "(Ljava/lang/String;)Ljava/lang/StringBuilder;"⟩ : MethodName)) hown (hw _ (List.mem_of_getElem? (i := 143) rfl)) (hw _ (List.mem_of_getElem? (i := 87) rfl)) (nf_sel (args := #[]) (mvT hZ (hw _ (List.mem_of_getElem? (i := 83) rfl))) rfl) (hw _ (List.mem_of_getElem? (i := 89) rfl)) (hw _ (List.mem_of_getElem? (i := 88) rfl)) (by decide) (kc := 0) (ks := 0) (Con.sb (W := 0) (rm_sbAppS l hD b s1 t k cN (n + 1) (List.set vs n (.int (32 : Int32).toInt8.toInt32)) t1 k1 1 u1 O0 E_b Fc2 Fn2 Fv2 V2 E_s1 F_coder_s1 F_value_s1 V_t1 l1 hcN hu1 (by omega) ge_b ge_t ne_b_t) hZ (hw _ (List.mem_of_getElem? (i := 90) rfl)) (hw _ (List.mem_of_getElem? (i := 53) rfl)) (by decide) (by decide)) e2 E_b (g := (mkF m 10 #[.val (.ref a), .val (.ref s1), .val (.ref s2)] [(.ref s1), (.ref b)])) rfl (by rw [hml]; rfl) (argsL := [(.ref s1)]) (rest := []) (lenOf pd_12 rfl) rfl (by show 2 * 0 + _ ≤ _; exact Nat.le_of_eq rfl) (hb hby d_prog_18_2_10) (by decide) (by decide)
  obtain ⟨rfl, Nq3, Kq3, Eq3, Fc3, Fn3, Fv3, V3⟩ := hQ3
  refine OEnds.st (S' := T3.setTop (mkF m 13 #[.val (.ref a), .val (.ref s1), .val (.ref s2)] [(.ref b)])) st3 ?_
  replace N0 := Fr.app N0 Nq3
  replace E_a := E_a.keep Kq3
  replace F_line_a := F_line_a.keep Kq3 (ninS ne_a_b (ninS ne_a_t nin0))
  replace E_b := E_b.keep Kq3
  replace E_s1 := E_s1.keep Kq3
  replace F_coder_s1 := F_coder_s1.keep Kq3 (ninS ne_s1_b (ninS ne_s1_t nin0))
  replace F_value_s1 := F_value_s1.keep Kq3 (ninS ne_s1_b (ninS ne_s1_t nin0))
  replace V_t1 := V_t1.keep Kq3 (ninS ne_t1_b (ninS ne_t1_t nin0))
  replace E_s2 := E_s2.keep Kq3
  replace F_coder_s2 := F_coder_s2.keep Kq3 (ninS ne_s2_b (ninS ne_s2_t nin0))
  replace F_value_s2 := F_value_s2.keep Kq3 (ninS ne_s2_b (ninS ne_s2_t nin0))
  replace V_t2 := V_t2.keep Kq3 (ninS ne_t2_b (ninS ne_t2_t nin0))
  replace O0 : Ext Z.heap h3 := ext_keep O0 Kq3 (allS ge_b (allS ge_t all0))
  replace K0 : Keep h0 h3 [b, t] := K0.trans Kq3 (allS (Or.inl (List.mem_of_getElem? (i := 0) rfl)) (allS (Or.inl (List.mem_of_getElem? (i := 1) rfl)) all0))
  refine OEnds.st (S' := T3.setTop (mkF m 15 #[.val (.ref a), .val (.ref s1), .val (.ref s2)] [(.int (61 : Int32)), (.ref b)])) (fun _ k => ?_) ?_
  · show Steps p.tables e below (T3.setTop (mkF m 13 #[.val (.ref a), .val (.ref s1), .val (.ref s2)] [(.ref b)])) _
    refine XS.bipush X3.here hx rfl (hb hby d_prog_18_2_13) ?_
    exact k
  obtain ⟨_, T4, h4, L4, X4, e4, hQ4, st4⟩ := virtC X3 hx hZ (y := (⟨"java/lang/StringBuilder", "append", "(C)Ljava/lang/StringBuilder;"⟩ : MethodName)) (z := (⟨"java/lang/StringBuilder", "append", "(C)Ljava/lang/StringBuilder;"⟩ : MethodName)) hown (hw _ (List.mem_of_getElem? (i := 128) rfl)) (hw _ (List.mem_of_getElem? (i := 129) rfl)) (nf_sel (args := #[]) (mvT hZ (hw _ (List.mem_of_getElem? (i := 83) rfl))) rfl) (hw _ (List.mem_of_getElem? (i := 131) rfl)) (hw _ (List.mem_of_getElem? (i := 130) rfl)) (by decide) (kc := 0) (ks := 0) (Con.sb (W := 0) (rm_sbAppC l hD b (61 : Int32) t k cN (n + 1 + 1) ((List.set vs n (.int (32 : Int32).toInt8.toInt32)).take (n + 1) ++ u1 ++ (List.set vs n (.int (32 : Int32).toInt8.toInt32)).drop (n + 1 + 1)) O0 E_b Fc3 Fn3 Fv3 V3 l2 hcN ge_b ge_t ne_b_t (by omega) (by decide)) hZ (hw _ (List.mem_of_getElem? (i := 132) rfl)) (hw _ (List.mem_of_getElem? (i := 53) rfl)) (by decide) (by decide)) e3 E_b (g := (mkF m 15 #[.val (.ref a), .val (.ref s1), .val (.ref s2)] [(.int (61 : Int32)), (.ref b)])) rfl (by rw [hml]; rfl) (argsL := [(.int (61 : Int32))]) (rest := []) (lenOf pd_19 rfl) rfl (by show 2 * 0 + _ ≤ _; exact Nat.le_of_eq rfl) (hb hby d_prog_18_2_15) (by decide) (by decide)
  obtain ⟨rfl, Nq4, Kq4, Eq4, Fc4, Fn4, Fv4, V4⟩ := hQ4
  refine OEnds.st (S' := T4.setTop (mkF m 18 #[.val (.ref a), .val (.ref s1), .val (.ref s2)] [(.ref b)])) st4 ?_
  replace N0 := Fr.app N0 Nq4
  replace E_a := E_a.keep Kq4
  replace F_line_a := F_line_a.keep Kq4 (ninS ne_a_b (ninS ne_a_t nin0))
  replace E_b := E_b.keep Kq4
  replace E_s1 := E_s1.keep Kq4
  replace F_coder_s1 := F_coder_s1.keep Kq4 (ninS ne_s1_b (ninS ne_s1_t nin0))
  replace F_value_s1 := F_value_s1.keep Kq4 (ninS ne_s1_b (ninS ne_s1_t nin0))
  replace V_t1 := V_t1.keep Kq4 (ninS ne_t1_b (ninS ne_t1_t nin0))
  replace E_s2 := E_s2.keep Kq4
  replace F_coder_s2 := F_coder_s2.keep Kq4 (ninS ne_s2_b (ninS ne_s2_t nin0))
  replace F_value_s2 := F_value_s2.keep Kq4 (ninS ne_s2_b (ninS ne_s2_t nin0))
  replace V_t2 := V_t2.keep Kq4 (ninS ne_t2_b (ninS ne_t2_t nin0))
  replace O0 : Ext Z.heap h4 := ext_keep O0 Kq4 (allS ge_b (allS ge_t all0))
  replace K0 : Keep h0 h4 [b, t] := K0.trans Kq4 (allS (Or.inl (List.mem_of_getElem? (i := 0) rfl)) (allS (Or.inl (List.mem_of_getElem? (i := 1) rfl)) all0))
  refine OEnds.st (S' := T4.setTop (mkF m 19 #[.val (.ref a), .val (.ref s1), .val (.ref s2)] [(.ref s2), (.ref b)])) (fun _ k => ?_) ?_
  · show Steps p.tables e below (T4.setTop (mkF m 18 #[.val (.ref a), .val (.ref s1), .val (.ref s2)] [(.ref b)])) _
    refine XS.aloadN X4.here hx rfl (hb hby d_prog_18_2_18) rfl rfl ?_
    exact k
  obtain ⟨_, T5, h5, L5, X5, e5, hQ5, st5⟩ := virtC X4 hx hZ (y := (⟨"java/lang/StringBuilder", "append", "(Ljava/lang/String;)Ljava/lang/StringBuilder;"⟩ : MethodName)) (z := (⟨"java/lang/StringBuilder", "append", "(Ljava/lang/String;)Ljava/lang/StringBuilder;"⟩ : MethodName)) hown (hw _ (List.mem_of_getElem? (i := 143) rfl)) (hw _ (List.mem_of_getElem? (i := 87) rfl)) (nf_sel (args := #[]) (mvT hZ (hw _ (List.mem_of_getElem? (i := 83) rfl))) rfl) (hw _ (List.mem_of_getElem? (i := 89) rfl)) (hw _ (List.mem_of_getElem? (i := 88) rfl)) (by decide) (kc := 0) (ks := 0) (Con.sb (W := 0) (rm_sbAppS l hD b s2 t k cN (n + 1 + 1 + 1) (List.set ((List.set vs n (.int (32 : Int32).toInt8.toInt32)).take (n + 1) ++ u1 ++ (List.set vs n (.int (32 : Int32).toInt8.toInt32)).drop (n + 1 + 1)) (n + 1 + 1) (.int (61 : Int32).toInt8.toInt32)) t2 k2 1 u2 O0 E_b Fc4 Fn4 Fv4 V4 E_s2 F_coder_s2 F_value_s2 V_t2 l3 hcN hu2 (by omega) ge_b ge_t ne_b_t) hZ (hw _ (List.mem_of_getElem? (i := 90) rfl)) (hw _ (List.mem_of_getElem? (i := 53) rfl)) (by decide) (by decide)) e4 E_b (g := (mkF m 19 #[.val (.ref a), .val (.ref s1), .val (.ref s2)] [(.ref s2), (.ref b)])) rfl (by rw [hml]; rfl) (argsL := [(.ref s2)]) (rest := []) (lenOf pd_12 rfl) rfl (by show 2 * 0 + _ ≤ _; exact Nat.le_of_eq rfl) (hb hby d_prog_18_2_19) (by decide) (by decide)
  obtain ⟨rfl, Nq5, Kq5, Eq5, Fc5, Fn5, Fv5, V5⟩ := hQ5
  refine OEnds.st (S' := T5.setTop (mkF m 22 #[.val (.ref a), .val (.ref s1), .val (.ref s2)] [(.ref b)])) st5 ?_
  replace N0 := Fr.app N0 Nq5
  replace E_a := E_a.keep Kq5
  replace F_line_a := F_line_a.keep Kq5 (ninS ne_a_b (ninS ne_a_t nin0))
  replace E_b := E_b.keep Kq5
  replace E_s1 := E_s1.keep Kq5
  replace F_coder_s1 := F_coder_s1.keep Kq5 (ninS ne_s1_b (ninS ne_s1_t nin0))
  replace F_value_s1 := F_value_s1.keep Kq5 (ninS ne_s1_b (ninS ne_s1_t nin0))
  replace V_t1 := V_t1.keep Kq5 (ninS ne_t1_b (ninS ne_t1_t nin0))
  replace E_s2 := E_s2.keep Kq5
  replace F_coder_s2 := F_coder_s2.keep Kq5 (ninS ne_s2_b (ninS ne_s2_t nin0))
  replace F_value_s2 := F_value_s2.keep Kq5 (ninS ne_s2_b (ninS ne_s2_t nin0))
  replace V_t2 := V_t2.keep Kq5 (ninS ne_t2_b (ninS ne_t2_t nin0))
  replace O0 : Ext Z.heap h5 := ext_keep O0 Kq5 (allS ge_b (allS ge_t all0))
  replace K0 : Keep h0 h5 [b, t] := K0.trans Kq5 (allS (Or.inl (List.mem_of_getElem? (i := 0) rfl)) (allS (Or.inl (List.mem_of_getElem? (i := 1) rfl)) all0))
  refine OEnds.st (S' := T5.setTop (mkF m 24 #[.val (.ref a), .val (.ref s1), .val (.ref s2)] [(.ref a)])) (fun _ k => ?_) ?_
  · show Steps p.tables e below (T5.setTop (mkF m 22 #[.val (.ref a), .val (.ref s1), .val (.ref s2)] [(.ref b)])) _
    refine XS.pop X5.here hx rfl (hb hby d_prog_18_2_22) rfl rfl ?_
    show Steps p.tables e below (T5.setTop (mkF m 23 #[.val (.ref a), .val (.ref s1), .val (.ref s2)] [])) _
    refine XS.aloadN X5.here hx rfl (hb hby d_prog_18_2_23) rfl rfl ?_
    exact k
  exact OEnds.ret X5 hx hret hlk rfl (Or.inr (Or.inr (Or.inr (Or.inr ⟨rfl, rfl, rfl⟩)))) (hb hby d_prog_18_2_24) (by decide) (by decide) (by rw [e5]; exact ⟨rfl, N0, K0, E_a, F_line_a, E_b, Fc5, Fn5, Fv5, V5⟩)
-- cordon/cli/ResultLine.toString:()Ljava/lang/String;
def Q_rlToStr (Z : State) (a : Addr) (b : Addr) (t : Addr) (k : ClassId) (cN n : Nat) (vs : List Value) (h0 : Heap) (v : Option Value) (h : Heap) (L : List Loc) : Prop := ∃ (x r : Addr) (kr : ClassId), v = some (.ref x) ∧ Fr Z.heap.size L ∧ Keep h0 h [] ∧ h0.size ≤ x ∧ h0.size ≤ r ∧ x ≠ r ∧ Exa Z h x "java/lang/String" ∧ Fld Z h x "java/lang/String" "coder" "B" (.int 0) ∧ Fld Z h x "java/lang/String" "value" "[B" (.ref r) ∧ Arv Z h r kr .byte (Int32.ofNat n) (vs.take n) (.int 0)
theorem ef_rlToStr (m : MethodId) (a : Addr) : entryFrame m #[(.ref a)] 1 = mkF m 0 #[.val (.ref a)] [] := by first | (simp [entryFrame, mkF, argsToLocals, Value.category]; done) | rfl
theorem d_prog_18_5_0 : decode prog_18_method_5_code 0 = .ok (.aload_n 0, 1) := by decide +kernel
theorem d_prog_18_5_1 : decode prog_18_method_5_code 1 = .ok (.getfield 12, 3) := by decide +kernel
theorem d_prog_18_5_4 : decode prog_18_method_5_code 4 = .ok (.invokevirtual 63, 3) := by decide +kernel
theorem pd_20 : parseMethodDescriptor "()Ljava/lang/String;" = some ⟨[], some (.object "java/lang/String")⟩ := by decide +kernel
theorem d_prog_18_5_7 : decode prog_18_method_5_code 7 = .ok (.areturn, 1) := by decide +kernel
set_option maxRecDepth 65536 in
set_option maxHeartbeats 40000000 in
theorem rm_rlToStr (l : Launch) {Z : State} {a0 : Array Value} (hD : Wd Z a0) (a : Addr) (b : Addr) (t : Addr) (k : ClassId) (cN n : Nat) (vs : List Value) {h0 : Heap} (O0 : Ext Z.heap h0) (F_line_a : Fld Z h0 a "cordon/cli/ResultLine" "line" "Ljava/lang/StringBuilder;" (.ref b)) (E_b : Exa Z h0 b "java/lang/StringBuilder") (F_coder_b : Fld Z h0 b "java/lang/AbstractStringBuilder" "coder" "B" (.int 0)) (F_count_b : Fld Z h0 b "java/lang/AbstractStringBuilder" "count" "I" (.int (Int32.ofNat n))) (F_value_b : Fld Z h0 b "java/lang/AbstractStringBuilder" "value" "[B" (.ref t)) (V_t : Arv Z h0 t k .byte (Int32.ofNat cN) vs (.int 0)) (hvs : vs.length = cN) (hcN : cN ≤ 4000) (hn : n < cN) (hcap : n ≤ 18) :
    Con l Z (⟨"cordon/cli/ResultLine", "toString", "()Ljava/lang/String;"⟩ : MethodName) prog_18_method_5_code 1 (some (.object "java/lang/String")) [] ({ frames := 6, cells := 2, slots := 22, locals := 91 } : Room) #[(.ref a)] h0 (Q_rlToStr Z a b t k cN n vs h0) := by
  refine Con.walk (plainFor_of_name pn_5) ?_
  intro p e s m below meth c T0 X0 hx hZ hby hml hown hnm hret hlk e0
  obtain ⟨hw, cz, S_CS, hcz⟩ := id hD
  have N0 := Fr.nil Z.heap.size
  have K0 : Keep h0 h0 [] := Keep.refl _ _
  refine OEnds.cast (ef_rlToStr m a) ?_
  refine OEnds.st (S' := T0.setTop (mkF m 1 #[.val (.ref a)] [(.ref a)])) (fun _ k => ?_) ?_
  · show Steps p.tables e below (T0.setTop (mkF m 0 #[.val (.ref a)] [])) _
    refine XS.aloadN X0.here hx rfl (hb hby d_prog_18_5_0) rfl rfl ?_
    exact k
  obtain ⟨T1, X1, e1, st1⟩ := getF X0 hx hZ hown (host := "") (Or.inl (hw _ (List.mem_of_getElem? (i := 121) rfl))) Via.refl e0 F_line_a (g := (mkF m 1 #[.val (.ref a)] [(.ref a)])) rfl rfl (hb hby d_prog_18_5_1)
  refine OEnds.st (S' := T1.setTop (mkF m 4 #[.val (.ref a)] [(.ref b)])) st1 ?_
  obtain ⟨_, T2, h2, L2, X2, e2, hQ2, st2⟩ := virtC X1 hx hZ (y := (⟨"java/lang/StringBuilder", "toString", "()Ljava/lang/String;"⟩ : MethodName)) (z := (⟨"java/lang/StringBuilder", "toString", "()Ljava/lang/String;"⟩ : MethodName)) hown (hw _ (List.mem_of_getElem? (i := 149) rfl)) (hw _ (List.mem_of_getElem? (i := 150) rfl)) (nf_sel (args := #[]) (mvT hZ (hw _ (List.mem_of_getElem? (i := 83) rfl))) rfl) (hw _ (List.mem_of_getElem? (i := 152) rfl)) (hw _ (List.mem_of_getElem? (i := 151) rfl)) (by decide) (kc := 2) (ks := 22) (Con.sb (W := 0) (rm_sbToStr l hD b t k cN n vs O0 E_b F_coder_b F_count_b F_value_b V_t hvs hcN hn hcap) hZ (hw _ (List.mem_of_getElem? (i := 153) rfl)) (hw _ (List.mem_of_getElem? (i := 53) rfl)) (by decide) (by decide)) e1 E_b (g := (mkF m 4 #[.val (.ref a)] [(.ref b)])) rfl (by rw [hml]; rfl) (argsL := []) (rest := []) (lenOf pd_20 rfl) rfl (by show 2 * 0 + _ ≤ _; exact Nat.le_of_eq rfl) (hb hby d_prog_18_5_4) (by decide) (by decide)
  obtain ⟨x2, r2, kr2, rfl, Nq2, Kq2, R2⟩ := hQ2
  refine OEnds.st (S' := T2.setTop (mkF m 7 #[.val (.ref a)] [(.ref x2)])) st2 ?_
  replace N0 := Fr.app N0 Nq2
  replace F_line_a := F_line_a.keep Kq2 nin0
  replace E_b := E_b.keep Kq2
  replace F_coder_b := F_coder_b.keep Kq2 nin0
  replace F_count_b := F_count_b.keep Kq2 nin0
  replace F_value_b := F_value_b.keep Kq2 nin0
  replace V_t := V_t.keep Kq2 nin0
  replace O0 : Ext Z.heap h2 := ext_keep O0 Kq2 all0
  replace K0 : Keep h0 h2 [] := K0.trans Kq2 all0
  exact OEnds.ret X2 hx hret hlk rfl (Or.inr (Or.inr (Or.inr (Or.inr ⟨rfl, rfl, rfl⟩)))) (hb hby d_prog_18_5_7) (by decide) (by decide) (by rw [e2]; exact ⟨x2, r2, kr2, rfl, N0, K0, R2⟩)
theorem words_new : ∀ d ∈ StrChars.Road.words, d ∈ tables_1 := by decide +kernel
theorem words_eq : ∀ d ∈ StrChars.Road.wordsEq, d ∈ tables_1 := by decide +kernel
def Q_law (Z : State) (v : Option Value) (h : Heap) (L : List Loc) : Prop := v = some (.int 1) ∧ Fr Z.heap.size L
theorem pd_21 : parseMethodDescriptor "([C)V" = some ⟨[(.array .char)], none⟩ := by decide +kernel
theorem pd_22 : parseMethodDescriptor "(C)Ljava/lang/String;" = some ⟨[.char], some (.object "java/lang/String")⟩ := by decide +kernel
theorem pd_23 : parseMethodDescriptor "(Ljava/lang/String;Ljava/lang/String;)Lcordon/cli/ResultLine;" = some ⟨[(.object "java/lang/String"), (.object "java/lang/String")], some (.object "cordon/cli/ResultLine")⟩ := by decide +kernel
theorem pd_24 : parseMethodDescriptor "(Ljava/lang/Object;)Z" = some ⟨[(.object "java/lang/Object")], some .boolean⟩ := by decide +kernel
set_option maxRecDepth 65536 in
set_option maxHeartbeats 40000000 in
theorem sg_70 {p : Program} {l : Launch} {e : Env} {s : State} {m : MethodId} {args : Array Value} {below : List Frame} {meth : Method} {c : Code} {T0 : State} {locs : List Loc} {Z : State} {a0 : Array Value} (hD : Wd Z a0) (p0 p1 p2 p3 : Int32) (c4 c5 c6 c7 c8 c9 tw : Int32) {h0 : Heap} (O0 : Ext Z.heap h0)
    (X0 : Stand p l e room_1 s m args below meth c T0 locs 0 0) (hx : p.tables.exec = Jvm.exec) (hZ : Z.Warmed39 s.vm) (hby : c.code = code) (hml : c.maxLocals = 22) (hown : s.vm.findClass "cordon/cli/ResultLineAddPinLaw" = some m.cls) (hnm : meth.name = "law") (hret : meth.sig.returnType = some .boolean) (hlk : meth.locks = false) (e0 : T0.heap = h0) (N0 : Fr Z.heap.size locs) (hc4 : ¬ c4 < 0 ∧ ¬ (255 : Int32) < c4) (hc5 : ¬ c5 < 0 ∧ ¬ (255 : Int32) < c5) (hc6 : ¬ c6 < 0 ∧ ¬ (255 : Int32) < c6) (hc7 : ¬ c7 < 0 ∧ ¬ (255 : Int32) < c7) (hc8 : ¬ c8 < 0 ∧ ¬ (255 : Int32) < c8) (hc9 : ¬ c9 < 0 ∧ ¬ (255 : Int32) < c9) :
    OEnds p e below s room_1.cells room_1.slots (Q_law Z) (T0.setTop (mkF m 70 #[.val (.int p0), .val (.int p1), .val (.int p2), .val (.int p3), .val (.int c4), .val (.int c5), .val (.int c6), .val (.int c7), .val (.int c8), .val (.int c9), .val (.int tw), .unset, .unset, .unset, .unset, .unset, .unset, .unset, .unset, .unset, .unset, .unset] [])) := by
  obtain ⟨hw, cz, S_CS, hcz⟩ := id hD
  have hws : ∀ d ∈ StrChars.Road.words, d.before a0 Z = true := fun d hd => hw d (words_new d hd)
  have heq : ∀ d ∈ StrChars.Road.wordsEq, d.before a0 Z = true := fun d hd => hw d (words_eq d hd)
  obtain ⟨T1, h1, X1, e1, E1, A1, D1, U1, st1⟩ := newO X0 hx hZ hown (hw _ (List.mem_of_getElem? (i := 0) rfl)) (hw _ (List.mem_of_getElem? (i := 1) rfl)) (hw _ (List.mem_of_getElem? (i := 2) rfl)) e0 (g := (mkF m 70 #[.val (.int p0), .val (.int p1), .val (.int p2), .val (.int p3), .val (.int c4), .val (.int c5), .val (.int c6), .val (.int c7), .val (.int c8), .val (.int c9), .val (.int tw), .unset, .unset, .unset, .unset, .unset, .unset, .unset, .unset, .unset, .unset, .unset] [])) rfl (hb hby at_70) (by decide) (by decide)
  obtain ⟨b1, g1⟩ : ∃ z, z = h0.size := ⟨_, rfl⟩
  rw [← g1] at A1 D1 U1 st1
  refine OEnds.st (S' := T1.setTop (mkF m 73 #[.val (.int p0), .val (.int p1), .val (.int p2), .val (.int p3), .val (.int c4), .val (.int c5), .val (.int c6), .val (.int c7), .val (.int c8), .val (.int c9), .val (.int tw), .unset, .unset, .unset, .unset, .unset, .unset, .unset, .unset, .unset, .unset, .unset] [(.ref b1)])) st1 ?_
  have ge_b1 : Z.heap.size ≤ b1 := Nat.le_trans O0.1 (Nat.le_of_eq g1.symm)
  replace O0 : Ext Z.heap h1 := ext_trans O0 E1
  have F_coder_b1 : Fld Z h1 b1 "java/lang/String" "coder" "B" (.int (0 : Int32)) := D1 (Or.inr (hw _ (List.mem_of_getElem? (i := 27) rfl))) (ty := .byte) (by decide)
  have F_value_b1 : Fld Z h1 b1 "java/lang/String" "value" "[B" .null := D1 (Or.inr (hw _ (List.mem_of_getElem? (i := 29) rfl))) (ty := (.array .byte)) (by decide)
  refine OEnds.st (S' := T1.setTop (mkF m 75 #[.val (.int p0), .val (.int p1), .val (.int p2), .val (.int p3), .val (.int c4), .val (.int c5), .val (.int c6), .val (.int c7), .val (.int c8), .val (.int c9), .val (.int tw), .unset, .unset, .unset, .unset, .unset, .unset, .unset, .unset, .unset, .unset, .unset] [(.int (2 : Int32)), (.ref b1), (.ref b1)])) (fun _ k => ?_) ?_
  · show Steps p.tables e below (T1.setTop (mkF m 73 #[.val (.int p0), .val (.int p1), .val (.int p2), .val (.int p3), .val (.int c4), .val (.int c5), .val (.int c6), .val (.int c7), .val (.int c8), .val (.int c9), .val (.int tw), .unset, .unset, .unset, .unset, .unset, .unset, .unset, .unset, .unset, .unset, .unset] [(.ref b1)])) _
    refine XS.dup X1.here hx rfl (hb hby at_73) rfl rfl ?_
    show Steps p.tables e below (T1.setTop (mkF m 74 #[.val (.int p0), .val (.int p1), .val (.int p2), .val (.int p3), .val (.int c4), .val (.int c5), .val (.int c6), .val (.int c7), .val (.int c8), .val (.int c9), .val (.int tw), .unset, .unset, .unset, .unset, .unset, .unset, .unset, .unset, .unset, .unset, .unset] [(.ref b1), (.ref b1)])) _
    refine XS.iconst X1.here hx rfl (hb hby at_74) ?_
    exact k
  obtain ⟨T2, h2, k2, X2, e2, E2, A2, st2⟩ := newP X1 hx hZ (hw _ (List.mem_of_getElem? (i := 3) rfl)) e1 (g := (mkF m 75 #[.val (.int p0), .val (.int p1), .val (.int p2), .val (.int p3), .val (.int c4), .val (.int c5), .val (.int c6), .val (.int c7), .val (.int c8), .val (.int c9), .val (.int tw), .unset, .unset, .unset, .unset, .unset, .unset, .unset, .unset, .unset, .unset, .unset] [(.int (2 : Int32)), (.ref b1), (.ref b1)])) rfl (hb hby at_75) rfl (by decide) (cap := 2) (by decide) (by decide) (by decide) (by decide)
  obtain ⟨b2, g2⟩ : ∃ z, z = h1.size := ⟨_, rfl⟩
  rw [← g2] at A2 st2
  refine OEnds.st (S' := T2.setTop (mkF m 77 #[.val (.int p0), .val (.int p1), .val (.int p2), .val (.int p3), .val (.int c4), .val (.int c5), .val (.int c6), .val (.int c7), .val (.int c8), .val (.int c9), .val (.int tw), .unset, .unset, .unset, .unset, .unset, .unset, .unset, .unset, .unset, .unset, .unset] [(.ref b2), (.ref b1), (.ref b1)])) st2 ?_
  have ne_b1_b2 : b1 ≠ b2 := Nat.ne_of_lt (Nat.lt_of_lt_of_le A1.lt (Nat.le_of_eq g2.symm))
  have ge_b2 : Z.heap.size ≤ b2 := Nat.le_trans O0.1 (Nat.le_of_eq g2.symm)
  replace A1 := A1.ext E2
  replace F_coder_b1 := F_coder_b1.ext E2
  replace F_value_b1 := F_value_b1.ext E2
  replace O0 : Ext Z.heap h2 := ext_trans O0 E2
  have V_b2 : Arv Z h2 b2 k2 .char (2 : Int32) [(.int (0 : Int32)), (.int (0 : Int32))] (.int (0 : Int32)) := (Arv.new A2 (by decide)).pad (pad_rep [] (.int (0 : Int32)) 2)
  refine OEnds.st (S' := T2.setTop (mkF m 81 #[.val (.int p0), .val (.int p1), .val (.int p2), .val (.int p3), .val (.int c4), .val (.int c5), .val (.int c6), .val (.int c7), .val (.int c8), .val (.int c9), .val (.int tw), .unset, .unset, .unset, .unset, .unset, .unset, .unset, .unset, .unset, .unset, .unset] [(.int c4), (.int (0 : Int32)), (.ref b2), (.ref b2), (.ref b1), (.ref b1)])) (fun _ k => ?_) ?_
  · show Steps p.tables e below (T2.setTop (mkF m 77 #[.val (.int p0), .val (.int p1), .val (.int p2), .val (.int p3), .val (.int c4), .val (.int c5), .val (.int c6), .val (.int c7), .val (.int c8), .val (.int c9), .val (.int tw), .unset, .unset, .unset, .unset, .unset, .unset, .unset, .unset, .unset, .unset, .unset] [(.ref b2), (.ref b1), (.ref b1)])) _
    refine XS.dup X2.here hx rfl (hb hby at_77) rfl rfl ?_
    show Steps p.tables e below (T2.setTop (mkF m 78 #[.val (.int p0), .val (.int p1), .val (.int p2), .val (.int p3), .val (.int c4), .val (.int c5), .val (.int c6), .val (.int c7), .val (.int c8), .val (.int c9), .val (.int tw), .unset, .unset, .unset, .unset, .unset, .unset, .unset, .unset, .unset, .unset, .unset] [(.ref b2), (.ref b2), (.ref b1), (.ref b1)])) _
    refine XS.iconst X2.here hx rfl (hb hby at_78) ?_
    show Steps p.tables e below (T2.setTop (mkF m 79 #[.val (.int p0), .val (.int p1), .val (.int p2), .val (.int p3), .val (.int c4), .val (.int c5), .val (.int c6), .val (.int c7), .val (.int c8), .val (.int c9), .val (.int tw), .unset, .unset, .unset, .unset, .unset, .unset, .unset, .unset, .unset, .unset, .unset] [(.int (0 : Int32)), (.ref b2), (.ref b2), (.ref b1), (.ref b1)])) _
    refine XS.iload X2.here hx rfl (hb hby at_79) rfl ?_
    exact k
  obtain ⟨cl_b2_3, Ar_b2_3, q_b2_3, S_b2_3, N_b2_3, H_b2_3, G_b2_3⟩ := V_b2
  obtain ⟨T3, h3, X3, e3, W3, st3⟩ := stC X2 hx hZ e2 Ar_b2_3 (j := (0 : Int32)) (inb_of S_b2_3 ⟨by decide, by decide⟩) (g := (mkF m 81 #[.val (.int p0), .val (.int p1), .val (.int p2), .val (.int p3), .val (.int c4), .val (.int c5), .val (.int c6), .val (.int c7), .val (.int c8), .val (.int c9), .val (.int tw), .unset, .unset, .unset, .unset, .unset, .unset, .unset, .unset, .unset, .unset, .unset] [(.int c4), (.int (0 : Int32)), (.ref b2), (.ref b2), (.ref b1), (.ref b1)])) rfl rfl (hb hby at_81)
  have V_b2_3 : Arv Z h3 b2 k2 .char (2 : Int32) [(.int (nar .char c4)), (.int (0 : Int32))] (.int (0 : Int32)) := Arv.set Ar_b2_3 q_b2_3 S_b2_3 N_b2_3 H_b2_3 G_b2_3 (fits_nar_char _) W3 0 rfl (Nat.le_of_ble_eq_true rfl)
  refine OEnds.st (S' := T3.setTop (mkF m 82 #[.val (.int p0), .val (.int p1), .val (.int p2), .val (.int p3), .val (.int c4), .val (.int c5), .val (.int c6), .val (.int c7), .val (.int c8), .val (.int c9), .val (.int tw), .unset, .unset, .unset, .unset, .unset, .unset, .unset, .unset, .unset, .unset, .unset] [(.ref b2), (.ref b1), (.ref b1)])) st3 ?_
  replace A1 := A1.wr W3
  replace F_coder_b1 := F_coder_b1.other W3 (Or.inl ne_b1_b2)
  replace F_value_b1 := F_value_b1.other W3 (Or.inl ne_b1_b2)
  replace O0 : Ext Z.heap h3 := ext_wr O0 W3 ge_b2
  replace N0 := Fr.snoc X3 N0 ge_b2
  refine OEnds.st (S' := T3.setTop (mkF m 86 #[.val (.int p0), .val (.int p1), .val (.int p2), .val (.int p3), .val (.int c4), .val (.int c5), .val (.int c6), .val (.int c7), .val (.int c8), .val (.int c9), .val (.int tw), .unset, .unset, .unset, .unset, .unset, .unset, .unset, .unset, .unset, .unset, .unset] [(.int c5), (.int (1 : Int32)), (.ref b2), (.ref b2), (.ref b1), (.ref b1)])) (fun _ k => ?_) ?_
  · show Steps p.tables e below (T3.setTop (mkF m 82 #[.val (.int p0), .val (.int p1), .val (.int p2), .val (.int p3), .val (.int c4), .val (.int c5), .val (.int c6), .val (.int c7), .val (.int c8), .val (.int c9), .val (.int tw), .unset, .unset, .unset, .unset, .unset, .unset, .unset, .unset, .unset, .unset, .unset] [(.ref b2), (.ref b1), (.ref b1)])) _
    refine XS.dup X3.here hx rfl (hb hby at_82) rfl rfl ?_
    show Steps p.tables e below (T3.setTop (mkF m 83 #[.val (.int p0), .val (.int p1), .val (.int p2), .val (.int p3), .val (.int c4), .val (.int c5), .val (.int c6), .val (.int c7), .val (.int c8), .val (.int c9), .val (.int tw), .unset, .unset, .unset, .unset, .unset, .unset, .unset, .unset, .unset, .unset, .unset] [(.ref b2), (.ref b2), (.ref b1), (.ref b1)])) _
    refine XS.iconst X3.here hx rfl (hb hby at_83) ?_
    show Steps p.tables e below (T3.setTop (mkF m 84 #[.val (.int p0), .val (.int p1), .val (.int p2), .val (.int p3), .val (.int c4), .val (.int c5), .val (.int c6), .val (.int c7), .val (.int c8), .val (.int c9), .val (.int tw), .unset, .unset, .unset, .unset, .unset, .unset, .unset, .unset, .unset, .unset, .unset] [(.int (1 : Int32)), (.ref b2), (.ref b2), (.ref b1), (.ref b1)])) _
    refine XS.iload X3.here hx rfl (hb hby at_84) rfl ?_
    exact k
  obtain ⟨cl_b2_4, Ar_b2_4, q_b2_4, S_b2_4, N_b2_4, H_b2_4, G_b2_4⟩ := V_b2_3
  obtain ⟨T4, h4, X4, e4, W4, st4⟩ := stC X3 hx hZ e3 Ar_b2_4 (j := (1 : Int32)) (inb_of S_b2_4 ⟨by decide, by decide⟩) (g := (mkF m 86 #[.val (.int p0), .val (.int p1), .val (.int p2), .val (.int p3), .val (.int c4), .val (.int c5), .val (.int c6), .val (.int c7), .val (.int c8), .val (.int c9), .val (.int tw), .unset, .unset, .unset, .unset, .unset, .unset, .unset, .unset, .unset, .unset, .unset] [(.int c5), (.int (1 : Int32)), (.ref b2), (.ref b2), (.ref b1), (.ref b1)])) rfl rfl (hb hby at_86)
  have V_b2_4 : Arv Z h4 b2 k2 .char (2 : Int32) [(.int (nar .char c4)), (.int (nar .char c5))] (.int (0 : Int32)) := Arv.set Ar_b2_4 q_b2_4 S_b2_4 N_b2_4 H_b2_4 G_b2_4 (fits_nar_char _) W4 1 rfl (Nat.le_of_ble_eq_true rfl)
  refine OEnds.st (S' := T4.setTop (mkF m 87 #[.val (.int p0), .val (.int p1), .val (.int p2), .val (.int p3), .val (.int c4), .val (.int c5), .val (.int c6), .val (.int c7), .val (.int c8), .val (.int c9), .val (.int tw), .unset, .unset, .unset, .unset, .unset, .unset, .unset, .unset, .unset, .unset, .unset] [(.ref b2), (.ref b1), (.ref b1)])) st4 ?_
  replace A1 := A1.wr W4
  replace F_coder_b1 := F_coder_b1.other W4 (Or.inl ne_b1_b2)
  replace F_value_b1 := F_value_b1.other W4 (Or.inl ne_b1_b2)
  replace O0 : Ext Z.heap h4 := ext_wr O0 W4 ge_b2
  replace N0 := Fr.snoc X4 N0 ge_b2
  simp only [nar_char (x := c4) hc4, nar_char (x := c5) hc5] at V_b2_4
  have hp5 : ∀ c ∈ ([c4, c5] : List Int32), ¬ c < 0 ∧ ¬ (255 : Int32) < c := by
    intro c hc; simp only [List.mem_cons, List.not_mem_nil, or_false] at hc
    rcases hc with rfl | rfl
    · exact hc4
    · exact hc5
  obtain ⟨_, T6, h6, L6, X6, e6, hQ6, st6⟩ := specC X4 hx hZ rfl hown (hw _ (List.mem_of_getElem? (i := 4) rfl)) (hw _ (List.mem_of_getElem? (i := 5) rfl)) (hw _ (List.mem_of_getElem? (i := 6) rfl)) (by decide) (kc := 1) (ks := 2) (SB.of (Q := StrChars.Road.QV Z b1 (2 : Int32) (([c4, c5] : List Int32).map (fun c => c.toInt8.toInt32)) h4 Z.heap.size) (StrChars.Road.backV (W := 1) hZ hws (kI := 4) (hw _ (List.mem_of_getElem? (i := 1) rfl)) (cs := ([c4, c5] : List Int32)) (bs := (([c4, c5] : List Int32).map (fun c => c.toInt8.toInt32))) (n := 2) ge_b1 O0.1 A1 F_value_b1 F_coder_b1 V_b2_4 (S_CS.ext O0) hcz rfl rfl (by decide) (by decide) hp5 rfl (by decide) (by decide))) e4 (a := b1) (g := (mkF m 87 #[.val (.int p0), .val (.int p1), .val (.int p2), .val (.int p3), .val (.int c4), .val (.int c5), .val (.int c6), .val (.int c7), .val (.int c8), .val (.int c9), .val (.int tw), .unset, .unset, .unset, .unset, .unset, .unset, .unset, .unset, .unset, .unset, .unset] [(.ref b2), (.ref b1), (.ref b1)])) rfl (by rw [hml]; rfl) (argsL := [(.ref b2)]) (rest := [(.ref b1)]) (lenOf pd_21 rfl) rfl (by show 2 * 0 + _ ≤ _; exact Nat.le_of_eq rfl) (hb hby at_87) (by decide) (by decide)
  obtain ⟨rfl, Nq6, Kq6, Eq6, Fc6, t6, kb6, gq6, szq6, nq6, Fv6, V6⟩ := hQ6
  refine OEnds.st (S' := T6.setTop (mkF m 90 #[.val (.int p0), .val (.int p1), .val (.int p2), .val (.int p3), .val (.int c4), .val (.int c5), .val (.int c6), .val (.int c7), .val (.int c8), .val (.int c9), .val (.int tw), .unset, .unset, .unset, .unset, .unset, .unset, .unset, .unset, .unset, .unset, .unset] [(.ref b1)])) st6 ?_
  replace N0 := Fr.app N0 Nq6
  have ne_b1_t6 : b1 ≠ t6 := Nat.ne_of_lt (Nat.lt_of_lt_of_le A1.lt szq6)
  have ne_b2_t6 : b2 ≠ t6 := Nat.ne_of_lt (Nat.lt_of_lt_of_le V_b2_4.lt szq6)
  have ge_t6 : Z.heap.size ≤ t6 := Nat.le_trans O0.1 szq6
  replace A1 := A1.keep Kq6
  replace V_b2_4 := V_b2_4.keep Kq6 (ninS (Ne.symm ne_b1_b2) nin0)
  replace O0 : Ext Z.heap h6 := ext_keep O0 Kq6 (allS ge_b1 all0)
  replace V6 : Arv Z h6 t6 kb6 .byte (Int32.ofNat 2) [(.int (c4).toInt8.toInt32), (.int (c5).toInt8.toInt32)] (.int 0) := V6
  clear V_b2_4
  refine OEnds.st (S' := T6.setTop (mkF m 94 #[.val (.int p0), .val (.int p1), .val (.int p2), .val (.int p3), .val (.int c4), .val (.int c5), .val (.int c6), .val (.int c7), .val (.int c8), .val (.int c9), .val (.int tw), .val (.ref b1), .unset, .unset, .unset, .unset, .unset, .unset, .unset, .unset, .unset, .unset] [(.int c6)])) (fun _ k => ?_) ?_
  · show Steps p.tables e below (T6.setTop (mkF m 90 #[.val (.int p0), .val (.int p1), .val (.int p2), .val (.int p3), .val (.int c4), .val (.int c5), .val (.int c6), .val (.int c7), .val (.int c8), .val (.int c9), .val (.int tw), .unset, .unset, .unset, .unset, .unset, .unset, .unset, .unset, .unset, .unset, .unset] [(.ref b1)])) _
    refine XS.astore X6.here hx rfl (hb hby at_90) rfl rfl (l' := #[.val (.int p0), .val (.int p1), .val (.int p2), .val (.int p3), .val (.int c4), .val (.int c5), .val (.int c6), .val (.int c7), .val (.int c8), .val (.int c9), .val (.int tw), .val (.ref b1), .unset, .unset, .unset, .unset, .unset, .unset, .unset, .unset, .unset, .unset]) rfl ?_
    show Steps p.tables e below (T6.setTop (mkF m 92 #[.val (.int p0), .val (.int p1), .val (.int p2), .val (.int p3), .val (.int c4), .val (.int c5), .val (.int c6), .val (.int c7), .val (.int c8), .val (.int c9), .val (.int tw), .val (.ref b1), .unset, .unset, .unset, .unset, .unset, .unset, .unset, .unset, .unset, .unset] [])) _
    refine XS.iload X6.here hx rfl (hb hby at_92) rfl ?_
    exact k
  obtain ⟨_, T7, h7, L7, X7, e7, hQ7, st7⟩ := callC X6 hx hZ hown (hw _ (List.mem_of_getElem? (i := 30) rfl)) (hw _ (List.mem_of_getElem? (i := 31) rfl)) (hw _ (List.mem_of_getElem? (i := 2) rfl)) (hw _ (List.mem_of_getElem? (i := 32) rfl)) (by decide) (kc := 2) (ks := 5) (Con.sb (W := 0) (rm_valueOfC l hD c6 O0 hc6.2) hZ (hw _ (List.mem_of_getElem? (i := 32) rfl)) (hw _ (List.mem_of_getElem? (i := 2) rfl)) (by decide) (by decide)) e6 (g := (mkF m 94 #[.val (.int p0), .val (.int p1), .val (.int p2), .val (.int p3), .val (.int c4), .val (.int c5), .val (.int c6), .val (.int c7), .val (.int c8), .val (.int c9), .val (.int tw), .val (.ref b1), .unset, .unset, .unset, .unset, .unset, .unset, .unset, .unset, .unset, .unset] [(.int c6)])) rfl (by rw [hml]; rfl) (argsL := [(.int c6)]) (rest := []) (lenOf pd_22 rfl) rfl (by show 2 * 0 + _ ≤ _; exact Nat.le_of_eq rfl) (hb hby at_94) (by decide) (by decide)
  obtain ⟨r7, t7, k7, rfl, Nq7, Kq7, szr7, szt7, nrt7, Eq7, Fc7, Fv7, V7⟩ := hQ7
  refine OEnds.st (S' := T7.setTop (mkF m 97 #[.val (.int p0), .val (.int p1), .val (.int p2), .val (.int p3), .val (.int c4), .val (.int c5), .val (.int c6), .val (.int c7), .val (.int c8), .val (.int c9), .val (.int tw), .val (.ref b1), .unset, .unset, .unset, .unset, .unset, .unset, .unset, .unset, .unset, .unset] [(.ref r7)])) st7 ?_
  replace N0 := Fr.app N0 Nq7
  have ne_b1_r7 : b1 ≠ r7 := Nat.ne_of_lt (Nat.lt_of_lt_of_le A1.lt szr7)
  have ne_t6_r7 : t6 ≠ r7 := Nat.ne_of_lt (Nat.lt_of_lt_of_le V6.lt szr7)
  have ge_r7 : Z.heap.size ≤ r7 := Nat.le_trans O0.1 szr7
  have ne_b1_t7 : b1 ≠ t7 := Nat.ne_of_lt (Nat.lt_of_lt_of_le A1.lt szt7)
  have ne_t6_t7 : t6 ≠ t7 := Nat.ne_of_lt (Nat.lt_of_lt_of_le V6.lt szt7)
  have ge_t7 : Z.heap.size ≤ t7 := Nat.le_trans O0.1 szt7
  replace A1 := A1.keep Kq7
  replace Fc6 := Fc6.keep Kq7 nin0
  replace Fv6 := Fv6.keep Kq7 nin0
  replace V6 := V6.keep Kq7 nin0
  replace O0 : Ext Z.heap h7 := ext_keep O0 Kq7 all0
  replace V7 : Arv Z h7 t7 k7 .byte (Int32.ofNat 1) [.int c6.toInt8.toInt32] (.int 0) := V7
  refine OEnds.st (S' := T7.setTop (mkF m 101 #[.val (.int p0), .val (.int p1), .val (.int p2), .val (.int p3), .val (.int c4), .val (.int c5), .val (.int c6), .val (.int c7), .val (.int c8), .val (.int c9), .val (.int tw), .val (.ref b1), .val (.ref r7), .unset, .unset, .unset, .unset, .unset, .unset, .unset, .unset, .unset] [(.int c7)])) (fun _ k => ?_) ?_
  · show Steps p.tables e below (T7.setTop (mkF m 97 #[.val (.int p0), .val (.int p1), .val (.int p2), .val (.int p3), .val (.int c4), .val (.int c5), .val (.int c6), .val (.int c7), .val (.int c8), .val (.int c9), .val (.int tw), .val (.ref b1), .unset, .unset, .unset, .unset, .unset, .unset, .unset, .unset, .unset, .unset] [(.ref r7)])) _
    refine XS.astore X7.here hx rfl (hb hby at_97) rfl rfl (l' := #[.val (.int p0), .val (.int p1), .val (.int p2), .val (.int p3), .val (.int c4), .val (.int c5), .val (.int c6), .val (.int c7), .val (.int c8), .val (.int c9), .val (.int tw), .val (.ref b1), .val (.ref r7), .unset, .unset, .unset, .unset, .unset, .unset, .unset, .unset, .unset]) rfl ?_
    show Steps p.tables e below (T7.setTop (mkF m 99 #[.val (.int p0), .val (.int p1), .val (.int p2), .val (.int p3), .val (.int c4), .val (.int c5), .val (.int c6), .val (.int c7), .val (.int c8), .val (.int c9), .val (.int tw), .val (.ref b1), .val (.ref r7), .unset, .unset, .unset, .unset, .unset, .unset, .unset, .unset, .unset] [])) _
    refine XS.iload X7.here hx rfl (hb hby at_99) rfl ?_
    exact k
  obtain ⟨_, T8, h8, L8, X8, e8, hQ8, st8⟩ := callC X7 hx hZ hown (hw _ (List.mem_of_getElem? (i := 30) rfl)) (hw _ (List.mem_of_getElem? (i := 31) rfl)) (hw _ (List.mem_of_getElem? (i := 2) rfl)) (hw _ (List.mem_of_getElem? (i := 32) rfl)) (by decide) (kc := 2) (ks := 5) (Con.sb (W := 0) (rm_valueOfC l hD c7 O0 hc7.2) hZ (hw _ (List.mem_of_getElem? (i := 32) rfl)) (hw _ (List.mem_of_getElem? (i := 2) rfl)) (by decide) (by decide)) e7 (g := (mkF m 101 #[.val (.int p0), .val (.int p1), .val (.int p2), .val (.int p3), .val (.int c4), .val (.int c5), .val (.int c6), .val (.int c7), .val (.int c8), .val (.int c9), .val (.int tw), .val (.ref b1), .val (.ref r7), .unset, .unset, .unset, .unset, .unset, .unset, .unset, .unset, .unset] [(.int c7)])) rfl (by rw [hml]; rfl) (argsL := [(.int c7)]) (rest := []) (lenOf pd_22 rfl) rfl (by show 2 * 0 + _ ≤ _; exact Nat.le_of_eq rfl) (hb hby at_101) (by decide) (by decide)
  obtain ⟨r8, t8, k8, rfl, Nq8, Kq8, szr8, szt8, nrt8, Eq8, Fc8, Fv8, V8⟩ := hQ8
  refine OEnds.st (S' := T8.setTop (mkF m 104 #[.val (.int p0), .val (.int p1), .val (.int p2), .val (.int p3), .val (.int c4), .val (.int c5), .val (.int c6), .val (.int c7), .val (.int c8), .val (.int c9), .val (.int tw), .val (.ref b1), .val (.ref r7), .unset, .unset, .unset, .unset, .unset, .unset, .unset, .unset, .unset] [(.ref r8)])) st8 ?_
  replace N0 := Fr.app N0 Nq8
  have ne_b1_r8 : b1 ≠ r8 := Nat.ne_of_lt (Nat.lt_of_lt_of_le A1.lt szr8)
  have ne_r7_r8 : r7 ≠ r8 := Nat.ne_of_lt (Nat.lt_of_lt_of_le Eq7.lt szr8)
  have ne_t6_r8 : t6 ≠ r8 := Nat.ne_of_lt (Nat.lt_of_lt_of_le V6.lt szr8)
  have ne_t7_r8 : t7 ≠ r8 := Nat.ne_of_lt (Nat.lt_of_lt_of_le V7.lt szr8)
  have ge_r8 : Z.heap.size ≤ r8 := Nat.le_trans O0.1 szr8
  have ne_b1_t8 : b1 ≠ t8 := Nat.ne_of_lt (Nat.lt_of_lt_of_le A1.lt szt8)
  have ne_r7_t8 : r7 ≠ t8 := Nat.ne_of_lt (Nat.lt_of_lt_of_le Eq7.lt szt8)
  have ne_t6_t8 : t6 ≠ t8 := Nat.ne_of_lt (Nat.lt_of_lt_of_le V6.lt szt8)
  have ne_t7_t8 : t7 ≠ t8 := Nat.ne_of_lt (Nat.lt_of_lt_of_le V7.lt szt8)
  have ge_t8 : Z.heap.size ≤ t8 := Nat.le_trans O0.1 szt8
  replace A1 := A1.keep Kq8
  replace Fc6 := Fc6.keep Kq8 nin0
  replace Fv6 := Fv6.keep Kq8 nin0
  replace V6 := V6.keep Kq8 nin0
  replace Eq7 := Eq7.keep Kq8
  replace Fc7 := Fc7.keep Kq8 nin0
  replace Fv7 := Fv7.keep Kq8 nin0
  replace V7 := V7.keep Kq8 nin0
  replace O0 : Ext Z.heap h8 := ext_keep O0 Kq8 all0
  replace V8 : Arv Z h8 t8 k8 .byte (Int32.ofNat 1) [.int c7.toInt8.toInt32] (.int 0) := V8
  refine OEnds.st (S' := T8.setTop (mkF m 108 #[.val (.int p0), .val (.int p1), .val (.int p2), .val (.int p3), .val (.int c4), .val (.int c5), .val (.int c6), .val (.int c7), .val (.int c8), .val (.int c9), .val (.int tw), .val (.ref b1), .val (.ref r7), .val (.ref r8), .unset, .unset, .unset, .unset, .unset, .unset, .unset, .unset] [(.int c8)])) (fun _ k => ?_) ?_
  · show Steps p.tables e below (T8.setTop (mkF m 104 #[.val (.int p0), .val (.int p1), .val (.int p2), .val (.int p3), .val (.int c4), .val (.int c5), .val (.int c6), .val (.int c7), .val (.int c8), .val (.int c9), .val (.int tw), .val (.ref b1), .val (.ref r7), .unset, .unset, .unset, .unset, .unset, .unset, .unset, .unset, .unset] [(.ref r8)])) _
    refine XS.astore X8.here hx rfl (hb hby at_104) rfl rfl (l' := #[.val (.int p0), .val (.int p1), .val (.int p2), .val (.int p3), .val (.int c4), .val (.int c5), .val (.int c6), .val (.int c7), .val (.int c8), .val (.int c9), .val (.int tw), .val (.ref b1), .val (.ref r7), .val (.ref r8), .unset, .unset, .unset, .unset, .unset, .unset, .unset, .unset]) rfl ?_
    show Steps p.tables e below (T8.setTop (mkF m 106 #[.val (.int p0), .val (.int p1), .val (.int p2), .val (.int p3), .val (.int c4), .val (.int c5), .val (.int c6), .val (.int c7), .val (.int c8), .val (.int c9), .val (.int tw), .val (.ref b1), .val (.ref r7), .val (.ref r8), .unset, .unset, .unset, .unset, .unset, .unset, .unset, .unset] [])) _
    refine XS.iload X8.here hx rfl (hb hby at_106) rfl ?_
    exact k
  obtain ⟨_, T9, h9, L9, X9, e9, hQ9, st9⟩ := callC X8 hx hZ hown (hw _ (List.mem_of_getElem? (i := 30) rfl)) (hw _ (List.mem_of_getElem? (i := 31) rfl)) (hw _ (List.mem_of_getElem? (i := 2) rfl)) (hw _ (List.mem_of_getElem? (i := 32) rfl)) (by decide) (kc := 2) (ks := 5) (Con.sb (W := 0) (rm_valueOfC l hD c8 O0 hc8.2) hZ (hw _ (List.mem_of_getElem? (i := 32) rfl)) (hw _ (List.mem_of_getElem? (i := 2) rfl)) (by decide) (by decide)) e8 (g := (mkF m 108 #[.val (.int p0), .val (.int p1), .val (.int p2), .val (.int p3), .val (.int c4), .val (.int c5), .val (.int c6), .val (.int c7), .val (.int c8), .val (.int c9), .val (.int tw), .val (.ref b1), .val (.ref r7), .val (.ref r8), .unset, .unset, .unset, .unset, .unset, .unset, .unset, .unset] [(.int c8)])) rfl (by rw [hml]; rfl) (argsL := [(.int c8)]) (rest := []) (lenOf pd_22 rfl) rfl (by show 2 * 0 + _ ≤ _; exact Nat.le_of_eq rfl) (hb hby at_108) (by decide) (by decide)
  obtain ⟨r9, t9, k9, rfl, Nq9, Kq9, szr9, szt9, nrt9, Eq9, Fc9, Fv9, V9⟩ := hQ9
  refine OEnds.st (S' := T9.setTop (mkF m 111 #[.val (.int p0), .val (.int p1), .val (.int p2), .val (.int p3), .val (.int c4), .val (.int c5), .val (.int c6), .val (.int c7), .val (.int c8), .val (.int c9), .val (.int tw), .val (.ref b1), .val (.ref r7), .val (.ref r8), .unset, .unset, .unset, .unset, .unset, .unset, .unset, .unset] [(.ref r9)])) st9 ?_
  replace N0 := Fr.app N0 Nq9
  have ne_b1_r9 : b1 ≠ r9 := Nat.ne_of_lt (Nat.lt_of_lt_of_le A1.lt szr9)
  have ne_r7_r9 : r7 ≠ r9 := Nat.ne_of_lt (Nat.lt_of_lt_of_le Eq7.lt szr9)
  have ne_r8_r9 : r8 ≠ r9 := Nat.ne_of_lt (Nat.lt_of_lt_of_le Eq8.lt szr9)
  have ne_t6_r9 : t6 ≠ r9 := Nat.ne_of_lt (Nat.lt_of_lt_of_le V6.lt szr9)
  have ne_t7_r9 : t7 ≠ r9 := Nat.ne_of_lt (Nat.lt_of_lt_of_le V7.lt szr9)
  have ne_t8_r9 : t8 ≠ r9 := Nat.ne_of_lt (Nat.lt_of_lt_of_le V8.lt szr9)
  have ge_r9 : Z.heap.size ≤ r9 := Nat.le_trans O0.1 szr9
  have ne_b1_t9 : b1 ≠ t9 := Nat.ne_of_lt (Nat.lt_of_lt_of_le A1.lt szt9)
  have ne_r7_t9 : r7 ≠ t9 := Nat.ne_of_lt (Nat.lt_of_lt_of_le Eq7.lt szt9)
  have ne_r8_t9 : r8 ≠ t9 := Nat.ne_of_lt (Nat.lt_of_lt_of_le Eq8.lt szt9)
  have ne_t6_t9 : t6 ≠ t9 := Nat.ne_of_lt (Nat.lt_of_lt_of_le V6.lt szt9)
  have ne_t7_t9 : t7 ≠ t9 := Nat.ne_of_lt (Nat.lt_of_lt_of_le V7.lt szt9)
  have ne_t8_t9 : t8 ≠ t9 := Nat.ne_of_lt (Nat.lt_of_lt_of_le V8.lt szt9)
  have ge_t9 : Z.heap.size ≤ t9 := Nat.le_trans O0.1 szt9
  replace A1 := A1.keep Kq9
  replace Fc6 := Fc6.keep Kq9 nin0
  replace Fv6 := Fv6.keep Kq9 nin0
  replace V6 := V6.keep Kq9 nin0
  replace Eq7 := Eq7.keep Kq9
  replace Fc7 := Fc7.keep Kq9 nin0
  replace Fv7 := Fv7.keep Kq9 nin0
  replace V7 := V7.keep Kq9 nin0
  replace Eq8 := Eq8.keep Kq9
  replace Fc8 := Fc8.keep Kq9 nin0
  replace Fv8 := Fv8.keep Kq9 nin0
  replace V8 := V8.keep Kq9 nin0
  replace O0 : Ext Z.heap h9 := ext_keep O0 Kq9 all0
  replace V9 : Arv Z h9 t9 k9 .byte (Int32.ofNat 1) [.int c8.toInt8.toInt32] (.int 0) := V9
  refine OEnds.st (S' := T9.setTop (mkF m 115 #[.val (.int p0), .val (.int p1), .val (.int p2), .val (.int p3), .val (.int c4), .val (.int c5), .val (.int c6), .val (.int c7), .val (.int c8), .val (.int c9), .val (.int tw), .val (.ref b1), .val (.ref r7), .val (.ref r8), .val (.ref r9), .unset, .unset, .unset, .unset, .unset, .unset, .unset] [(.int c9)])) (fun _ k => ?_) ?_
  · show Steps p.tables e below (T9.setTop (mkF m 111 #[.val (.int p0), .val (.int p1), .val (.int p2), .val (.int p3), .val (.int c4), .val (.int c5), .val (.int c6), .val (.int c7), .val (.int c8), .val (.int c9), .val (.int tw), .val (.ref b1), .val (.ref r7), .val (.ref r8), .unset, .unset, .unset, .unset, .unset, .unset, .unset, .unset] [(.ref r9)])) _
    refine XS.astore X9.here hx rfl (hb hby at_111) rfl rfl (l' := #[.val (.int p0), .val (.int p1), .val (.int p2), .val (.int p3), .val (.int c4), .val (.int c5), .val (.int c6), .val (.int c7), .val (.int c8), .val (.int c9), .val (.int tw), .val (.ref b1), .val (.ref r7), .val (.ref r8), .val (.ref r9), .unset, .unset, .unset, .unset, .unset, .unset, .unset]) rfl ?_
    show Steps p.tables e below (T9.setTop (mkF m 113 #[.val (.int p0), .val (.int p1), .val (.int p2), .val (.int p3), .val (.int c4), .val (.int c5), .val (.int c6), .val (.int c7), .val (.int c8), .val (.int c9), .val (.int tw), .val (.ref b1), .val (.ref r7), .val (.ref r8), .val (.ref r9), .unset, .unset, .unset, .unset, .unset, .unset, .unset] [])) _
    refine XS.iload X9.here hx rfl (hb hby at_113) rfl ?_
    exact k
  obtain ⟨_, T10, h10, L10, X10, e10, hQ10, st10⟩ := callC X9 hx hZ hown (hw _ (List.mem_of_getElem? (i := 30) rfl)) (hw _ (List.mem_of_getElem? (i := 31) rfl)) (hw _ (List.mem_of_getElem? (i := 2) rfl)) (hw _ (List.mem_of_getElem? (i := 32) rfl)) (by decide) (kc := 2) (ks := 5) (Con.sb (W := 0) (rm_valueOfC l hD c9 O0 hc9.2) hZ (hw _ (List.mem_of_getElem? (i := 32) rfl)) (hw _ (List.mem_of_getElem? (i := 2) rfl)) (by decide) (by decide)) e9 (g := (mkF m 115 #[.val (.int p0), .val (.int p1), .val (.int p2), .val (.int p3), .val (.int c4), .val (.int c5), .val (.int c6), .val (.int c7), .val (.int c8), .val (.int c9), .val (.int tw), .val (.ref b1), .val (.ref r7), .val (.ref r8), .val (.ref r9), .unset, .unset, .unset, .unset, .unset, .unset, .unset] [(.int c9)])) rfl (by rw [hml]; rfl) (argsL := [(.int c9)]) (rest := []) (lenOf pd_22 rfl) rfl (by show 2 * 0 + _ ≤ _; exact Nat.le_of_eq rfl) (hb hby at_115) (by decide) (by decide)
  obtain ⟨r10, t10, k10, rfl, Nq10, Kq10, szr10, szt10, nrt10, Eq10, Fc10, Fv10, V10⟩ := hQ10
  refine OEnds.st (S' := T10.setTop (mkF m 118 #[.val (.int p0), .val (.int p1), .val (.int p2), .val (.int p3), .val (.int c4), .val (.int c5), .val (.int c6), .val (.int c7), .val (.int c8), .val (.int c9), .val (.int tw), .val (.ref b1), .val (.ref r7), .val (.ref r8), .val (.ref r9), .unset, .unset, .unset, .unset, .unset, .unset, .unset] [(.ref r10)])) st10 ?_
  replace N0 := Fr.app N0 Nq10
  have ne_b1_r10 : b1 ≠ r10 := Nat.ne_of_lt (Nat.lt_of_lt_of_le A1.lt szr10)
  have ne_r7_r10 : r7 ≠ r10 := Nat.ne_of_lt (Nat.lt_of_lt_of_le Eq7.lt szr10)
  have ne_r8_r10 : r8 ≠ r10 := Nat.ne_of_lt (Nat.lt_of_lt_of_le Eq8.lt szr10)
  have ne_r9_r10 : r9 ≠ r10 := Nat.ne_of_lt (Nat.lt_of_lt_of_le Eq9.lt szr10)
  have ne_t6_r10 : t6 ≠ r10 := Nat.ne_of_lt (Nat.lt_of_lt_of_le V6.lt szr10)
  have ne_t7_r10 : t7 ≠ r10 := Nat.ne_of_lt (Nat.lt_of_lt_of_le V7.lt szr10)
  have ne_t8_r10 : t8 ≠ r10 := Nat.ne_of_lt (Nat.lt_of_lt_of_le V8.lt szr10)
  have ne_t9_r10 : t9 ≠ r10 := Nat.ne_of_lt (Nat.lt_of_lt_of_le V9.lt szr10)
  have ge_r10 : Z.heap.size ≤ r10 := Nat.le_trans O0.1 szr10
  have ne_b1_t10 : b1 ≠ t10 := Nat.ne_of_lt (Nat.lt_of_lt_of_le A1.lt szt10)
  have ne_r7_t10 : r7 ≠ t10 := Nat.ne_of_lt (Nat.lt_of_lt_of_le Eq7.lt szt10)
  have ne_r8_t10 : r8 ≠ t10 := Nat.ne_of_lt (Nat.lt_of_lt_of_le Eq8.lt szt10)
  have ne_r9_t10 : r9 ≠ t10 := Nat.ne_of_lt (Nat.lt_of_lt_of_le Eq9.lt szt10)
  have ne_t6_t10 : t6 ≠ t10 := Nat.ne_of_lt (Nat.lt_of_lt_of_le V6.lt szt10)
  have ne_t7_t10 : t7 ≠ t10 := Nat.ne_of_lt (Nat.lt_of_lt_of_le V7.lt szt10)
  have ne_t8_t10 : t8 ≠ t10 := Nat.ne_of_lt (Nat.lt_of_lt_of_le V8.lt szt10)
  have ne_t9_t10 : t9 ≠ t10 := Nat.ne_of_lt (Nat.lt_of_lt_of_le V9.lt szt10)
  have ge_t10 : Z.heap.size ≤ t10 := Nat.le_trans O0.1 szt10
  replace A1 := A1.keep Kq10
  replace Fc6 := Fc6.keep Kq10 nin0
  replace Fv6 := Fv6.keep Kq10 nin0
  replace V6 := V6.keep Kq10 nin0
  replace Eq7 := Eq7.keep Kq10
  replace Fc7 := Fc7.keep Kq10 nin0
  replace Fv7 := Fv7.keep Kq10 nin0
  replace V7 := V7.keep Kq10 nin0
  replace Eq8 := Eq8.keep Kq10
  replace Fc8 := Fc8.keep Kq10 nin0
  replace Fv8 := Fv8.keep Kq10 nin0
  replace V8 := V8.keep Kq10 nin0
  replace Eq9 := Eq9.keep Kq10
  replace Fc9 := Fc9.keep Kq10 nin0
  replace Fv9 := Fv9.keep Kq10 nin0
  replace V9 := V9.keep Kq10 nin0
  replace O0 : Ext Z.heap h10 := ext_keep O0 Kq10 all0
  replace V10 : Arv Z h10 t10 k10 .byte (Int32.ofNat 1) [.int c9.toInt8.toInt32] (.int 0) := V10
  refine OEnds.st (S' := T10.setTop (mkF m 120 #[.val (.int p0), .val (.int p1), .val (.int p2), .val (.int p3), .val (.int c4), .val (.int c5), .val (.int c6), .val (.int c7), .val (.int c8), .val (.int c9), .val (.int tw), .val (.ref b1), .val (.ref r7), .val (.ref r8), .val (.ref r9), .val (.ref r10), .unset, .unset, .unset, .unset, .unset, .unset] [])) (fun _ k => ?_) ?_
  · show Steps p.tables e below (T10.setTop (mkF m 118 #[.val (.int p0), .val (.int p1), .val (.int p2), .val (.int p3), .val (.int c4), .val (.int c5), .val (.int c6), .val (.int c7), .val (.int c8), .val (.int c9), .val (.int tw), .val (.ref b1), .val (.ref r7), .val (.ref r8), .val (.ref r9), .unset, .unset, .unset, .unset, .unset, .unset, .unset] [(.ref r10)])) _
    refine XS.astore X10.here hx rfl (hb hby at_118) rfl rfl (l' := #[.val (.int p0), .val (.int p1), .val (.int p2), .val (.int p3), .val (.int c4), .val (.int c5), .val (.int c6), .val (.int c7), .val (.int c8), .val (.int c9), .val (.int tw), .val (.ref b1), .val (.ref r7), .val (.ref r8), .val (.ref r9), .val (.ref r10), .unset, .unset, .unset, .unset, .unset, .unset]) rfl ?_
    exact k
  obtain ⟨T11, h11, X11, e11, E11, A11, D11, U11, st11⟩ := newO X10 hx hZ hown (hw _ (List.mem_of_getElem? (i := 0) rfl)) (hw _ (List.mem_of_getElem? (i := 1) rfl)) (hw _ (List.mem_of_getElem? (i := 2) rfl)) e10 (g := (mkF m 120 #[.val (.int p0), .val (.int p1), .val (.int p2), .val (.int p3), .val (.int c4), .val (.int c5), .val (.int c6), .val (.int c7), .val (.int c8), .val (.int c9), .val (.int tw), .val (.ref b1), .val (.ref r7), .val (.ref r8), .val (.ref r9), .val (.ref r10), .unset, .unset, .unset, .unset, .unset, .unset] [])) rfl (hb hby at_120) (by decide) (by decide)
  obtain ⟨b11, g11⟩ : ∃ z, z = h10.size := ⟨_, rfl⟩
  rw [← g11] at A11 D11 U11 st11
  refine OEnds.st (S' := T11.setTop (mkF m 123 #[.val (.int p0), .val (.int p1), .val (.int p2), .val (.int p3), .val (.int c4), .val (.int c5), .val (.int c6), .val (.int c7), .val (.int c8), .val (.int c9), .val (.int tw), .val (.ref b1), .val (.ref r7), .val (.ref r8), .val (.ref r9), .val (.ref r10), .unset, .unset, .unset, .unset, .unset, .unset] [(.ref b11)])) st11 ?_
  have ne_b1_b11 : b1 ≠ b11 := Nat.ne_of_lt (Nat.lt_of_lt_of_le A1.lt (Nat.le_of_eq g11.symm))
  have ne_r10_b11 : r10 ≠ b11 := Nat.ne_of_lt (Nat.lt_of_lt_of_le Eq10.lt (Nat.le_of_eq g11.symm))
  have ne_r7_b11 : r7 ≠ b11 := Nat.ne_of_lt (Nat.lt_of_lt_of_le Eq7.lt (Nat.le_of_eq g11.symm))
  have ne_r8_b11 : r8 ≠ b11 := Nat.ne_of_lt (Nat.lt_of_lt_of_le Eq8.lt (Nat.le_of_eq g11.symm))
  have ne_r9_b11 : r9 ≠ b11 := Nat.ne_of_lt (Nat.lt_of_lt_of_le Eq9.lt (Nat.le_of_eq g11.symm))
  have ne_t10_b11 : t10 ≠ b11 := Nat.ne_of_lt (Nat.lt_of_lt_of_le V10.lt (Nat.le_of_eq g11.symm))
  have ne_t6_b11 : t6 ≠ b11 := Nat.ne_of_lt (Nat.lt_of_lt_of_le V6.lt (Nat.le_of_eq g11.symm))
  have ne_t7_b11 : t7 ≠ b11 := Nat.ne_of_lt (Nat.lt_of_lt_of_le V7.lt (Nat.le_of_eq g11.symm))
  have ne_t8_b11 : t8 ≠ b11 := Nat.ne_of_lt (Nat.lt_of_lt_of_le V8.lt (Nat.le_of_eq g11.symm))
  have ne_t9_b11 : t9 ≠ b11 := Nat.ne_of_lt (Nat.lt_of_lt_of_le V9.lt (Nat.le_of_eq g11.symm))
  have ge_b11 : Z.heap.size ≤ b11 := Nat.le_trans O0.1 (Nat.le_of_eq g11.symm)
  replace A1 := A1.ext E11
  replace Fc6 := Fc6.ext E11
  replace Fv6 := Fv6.ext E11
  replace V6 := V6.ext E11
  replace Eq7 := Eq7.ext E11
  replace Fc7 := Fc7.ext E11
  replace Fv7 := Fv7.ext E11
  replace V7 := V7.ext E11
  replace Eq8 := Eq8.ext E11
  replace Fc8 := Fc8.ext E11
  replace Fv8 := Fv8.ext E11
  replace V8 := V8.ext E11
  replace Eq9 := Eq9.ext E11
  replace Fc9 := Fc9.ext E11
  replace Fv9 := Fv9.ext E11
  replace V9 := V9.ext E11
  replace Eq10 := Eq10.ext E11
  replace Fc10 := Fc10.ext E11
  replace Fv10 := Fv10.ext E11
  replace V10 := V10.ext E11
  replace O0 : Ext Z.heap h11 := ext_trans O0 E11
  have F_coder_b11 : Fld Z h11 b11 "java/lang/String" "coder" "B" (.int (0 : Int32)) := D11 (Or.inr (hw _ (List.mem_of_getElem? (i := 27) rfl))) (ty := .byte) (by decide)
  have F_value_b11 : Fld Z h11 b11 "java/lang/String" "value" "[B" .null := D11 (Or.inr (hw _ (List.mem_of_getElem? (i := 29) rfl))) (ty := (.array .byte)) (by decide)
  refine OEnds.st (S' := T11.setTop (mkF m 126 #[.val (.int p0), .val (.int p1), .val (.int p2), .val (.int p3), .val (.int c4), .val (.int c5), .val (.int c6), .val (.int c7), .val (.int c8), .val (.int c9), .val (.int tw), .val (.ref b1), .val (.ref r7), .val (.ref r8), .val (.ref r9), .val (.ref r10), .unset, .unset, .unset, .unset, .unset, .unset] [(.int (6 : Int32)), (.ref b11), (.ref b11)])) (fun _ k => ?_) ?_
  · show Steps p.tables e below (T11.setTop (mkF m 123 #[.val (.int p0), .val (.int p1), .val (.int p2), .val (.int p3), .val (.int c4), .val (.int c5), .val (.int c6), .val (.int c7), .val (.int c8), .val (.int c9), .val (.int tw), .val (.ref b1), .val (.ref r7), .val (.ref r8), .val (.ref r9), .val (.ref r10), .unset, .unset, .unset, .unset, .unset, .unset] [(.ref b11)])) _
    refine XS.dup X11.here hx rfl (hb hby at_123) rfl rfl ?_
    show Steps p.tables e below (T11.setTop (mkF m 124 #[.val (.int p0), .val (.int p1), .val (.int p2), .val (.int p3), .val (.int c4), .val (.int c5), .val (.int c6), .val (.int c7), .val (.int c8), .val (.int c9), .val (.int tw), .val (.ref b1), .val (.ref r7), .val (.ref r8), .val (.ref r9), .val (.ref r10), .unset, .unset, .unset, .unset, .unset, .unset] [(.ref b11), (.ref b11)])) _
    refine XS.bipush X11.here hx rfl (hb hby at_124) ?_
    exact k
  obtain ⟨T12, h12, k12, X12, e12, E12, A12, st12⟩ := newP X11 hx hZ (hw _ (List.mem_of_getElem? (i := 3) rfl)) e11 (g := (mkF m 126 #[.val (.int p0), .val (.int p1), .val (.int p2), .val (.int p3), .val (.int c4), .val (.int c5), .val (.int c6), .val (.int c7), .val (.int c8), .val (.int c9), .val (.int tw), .val (.ref b1), .val (.ref r7), .val (.ref r8), .val (.ref r9), .val (.ref r10), .unset, .unset, .unset, .unset, .unset, .unset] [(.int (6 : Int32)), (.ref b11), (.ref b11)])) rfl (hb hby at_126) rfl (by decide) (cap := 6) (by decide) (by decide) (by decide) (by decide)
  obtain ⟨b12, g12⟩ : ∃ z, z = h11.size := ⟨_, rfl⟩
  rw [← g12] at A12 st12
  refine OEnds.st (S' := T12.setTop (mkF m 128 #[.val (.int p0), .val (.int p1), .val (.int p2), .val (.int p3), .val (.int c4), .val (.int c5), .val (.int c6), .val (.int c7), .val (.int c8), .val (.int c9), .val (.int tw), .val (.ref b1), .val (.ref r7), .val (.ref r8), .val (.ref r9), .val (.ref r10), .unset, .unset, .unset, .unset, .unset, .unset] [(.ref b12), (.ref b11), (.ref b11)])) st12 ?_
  have ne_b1_b12 : b1 ≠ b12 := Nat.ne_of_lt (Nat.lt_of_lt_of_le A1.lt (Nat.le_of_eq g12.symm))
  have ne_b11_b12 : b11 ≠ b12 := Nat.ne_of_lt (Nat.lt_of_lt_of_le A11.lt (Nat.le_of_eq g12.symm))
  have ne_r10_b12 : r10 ≠ b12 := Nat.ne_of_lt (Nat.lt_of_lt_of_le Eq10.lt (Nat.le_of_eq g12.symm))
  have ne_r7_b12 : r7 ≠ b12 := Nat.ne_of_lt (Nat.lt_of_lt_of_le Eq7.lt (Nat.le_of_eq g12.symm))
  have ne_r8_b12 : r8 ≠ b12 := Nat.ne_of_lt (Nat.lt_of_lt_of_le Eq8.lt (Nat.le_of_eq g12.symm))
  have ne_r9_b12 : r9 ≠ b12 := Nat.ne_of_lt (Nat.lt_of_lt_of_le Eq9.lt (Nat.le_of_eq g12.symm))
  have ne_t10_b12 : t10 ≠ b12 := Nat.ne_of_lt (Nat.lt_of_lt_of_le V10.lt (Nat.le_of_eq g12.symm))
  have ne_t6_b12 : t6 ≠ b12 := Nat.ne_of_lt (Nat.lt_of_lt_of_le V6.lt (Nat.le_of_eq g12.symm))
  have ne_t7_b12 : t7 ≠ b12 := Nat.ne_of_lt (Nat.lt_of_lt_of_le V7.lt (Nat.le_of_eq g12.symm))
  have ne_t8_b12 : t8 ≠ b12 := Nat.ne_of_lt (Nat.lt_of_lt_of_le V8.lt (Nat.le_of_eq g12.symm))
  have ne_t9_b12 : t9 ≠ b12 := Nat.ne_of_lt (Nat.lt_of_lt_of_le V9.lt (Nat.le_of_eq g12.symm))
  have ge_b12 : Z.heap.size ≤ b12 := Nat.le_trans O0.1 (Nat.le_of_eq g12.symm)
  replace A1 := A1.ext E12
  replace Fc6 := Fc6.ext E12
  replace Fv6 := Fv6.ext E12
  replace V6 := V6.ext E12
  replace Eq7 := Eq7.ext E12
  replace Fc7 := Fc7.ext E12
  replace Fv7 := Fv7.ext E12
  replace V7 := V7.ext E12
  replace Eq8 := Eq8.ext E12
  replace Fc8 := Fc8.ext E12
  replace Fv8 := Fv8.ext E12
  replace V8 := V8.ext E12
  replace Eq9 := Eq9.ext E12
  replace Fc9 := Fc9.ext E12
  replace Fv9 := Fv9.ext E12
  replace V9 := V9.ext E12
  replace Eq10 := Eq10.ext E12
  replace Fc10 := Fc10.ext E12
  replace Fv10 := Fv10.ext E12
  replace V10 := V10.ext E12
  replace A11 := A11.ext E12
  replace F_coder_b11 := F_coder_b11.ext E12
  replace F_value_b11 := F_value_b11.ext E12
  replace O0 : Ext Z.heap h12 := ext_trans O0 E12
  have V_b12 : Arv Z h12 b12 k12 .char (6 : Int32) [(.int (0 : Int32)), (.int (0 : Int32)), (.int (0 : Int32)), (.int (0 : Int32)), (.int (0 : Int32)), (.int (0 : Int32))] (.int (0 : Int32)) := (Arv.new A12 (by decide)).pad (pad_rep [] (.int (0 : Int32)) 6)
  refine OEnds.st (S' := T12.setTop (mkF m 132 #[.val (.int p0), .val (.int p1), .val (.int p2), .val (.int p3), .val (.int c4), .val (.int c5), .val (.int c6), .val (.int c7), .val (.int c8), .val (.int c9), .val (.int tw), .val (.ref b1), .val (.ref r7), .val (.ref r8), .val (.ref r9), .val (.ref r10), .unset, .unset, .unset, .unset, .unset, .unset] [(.int c4), (.int (0 : Int32)), (.ref b12), (.ref b12), (.ref b11), (.ref b11)])) (fun _ k => ?_) ?_
  · show Steps p.tables e below (T12.setTop (mkF m 128 #[.val (.int p0), .val (.int p1), .val (.int p2), .val (.int p3), .val (.int c4), .val (.int c5), .val (.int c6), .val (.int c7), .val (.int c8), .val (.int c9), .val (.int tw), .val (.ref b1), .val (.ref r7), .val (.ref r8), .val (.ref r9), .val (.ref r10), .unset, .unset, .unset, .unset, .unset, .unset] [(.ref b12), (.ref b11), (.ref b11)])) _
    refine XS.dup X12.here hx rfl (hb hby at_128) rfl rfl ?_
    show Steps p.tables e below (T12.setTop (mkF m 129 #[.val (.int p0), .val (.int p1), .val (.int p2), .val (.int p3), .val (.int c4), .val (.int c5), .val (.int c6), .val (.int c7), .val (.int c8), .val (.int c9), .val (.int tw), .val (.ref b1), .val (.ref r7), .val (.ref r8), .val (.ref r9), .val (.ref r10), .unset, .unset, .unset, .unset, .unset, .unset] [(.ref b12), (.ref b12), (.ref b11), (.ref b11)])) _
    refine XS.iconst X12.here hx rfl (hb hby at_129) ?_
    show Steps p.tables e below (T12.setTop (mkF m 130 #[.val (.int p0), .val (.int p1), .val (.int p2), .val (.int p3), .val (.int c4), .val (.int c5), .val (.int c6), .val (.int c7), .val (.int c8), .val (.int c9), .val (.int tw), .val (.ref b1), .val (.ref r7), .val (.ref r8), .val (.ref r9), .val (.ref r10), .unset, .unset, .unset, .unset, .unset, .unset] [(.int (0 : Int32)), (.ref b12), (.ref b12), (.ref b11), (.ref b11)])) _
    refine XS.iload X12.here hx rfl (hb hby at_130) rfl ?_
    exact k
  obtain ⟨cl_b12_13, Ar_b12_13, q_b12_13, S_b12_13, N_b12_13, H_b12_13, G_b12_13⟩ := V_b12
  obtain ⟨T13, h13, X13, e13, W13, st13⟩ := stC X12 hx hZ e12 Ar_b12_13 (j := (0 : Int32)) (inb_of S_b12_13 ⟨by decide, by decide⟩) (g := (mkF m 132 #[.val (.int p0), .val (.int p1), .val (.int p2), .val (.int p3), .val (.int c4), .val (.int c5), .val (.int c6), .val (.int c7), .val (.int c8), .val (.int c9), .val (.int tw), .val (.ref b1), .val (.ref r7), .val (.ref r8), .val (.ref r9), .val (.ref r10), .unset, .unset, .unset, .unset, .unset, .unset] [(.int c4), (.int (0 : Int32)), (.ref b12), (.ref b12), (.ref b11), (.ref b11)])) rfl rfl (hb hby at_132)
  have V_b12_13 : Arv Z h13 b12 k12 .char (6 : Int32) [(.int (nar .char c4)), (.int (0 : Int32)), (.int (0 : Int32)), (.int (0 : Int32)), (.int (0 : Int32)), (.int (0 : Int32))] (.int (0 : Int32)) := Arv.set Ar_b12_13 q_b12_13 S_b12_13 N_b12_13 H_b12_13 G_b12_13 (fits_nar_char _) W13 0 rfl (Nat.le_of_ble_eq_true rfl)
  refine OEnds.st (S' := T13.setTop (mkF m 133 #[.val (.int p0), .val (.int p1), .val (.int p2), .val (.int p3), .val (.int c4), .val (.int c5), .val (.int c6), .val (.int c7), .val (.int c8), .val (.int c9), .val (.int tw), .val (.ref b1), .val (.ref r7), .val (.ref r8), .val (.ref r9), .val (.ref r10), .unset, .unset, .unset, .unset, .unset, .unset] [(.ref b12), (.ref b11), (.ref b11)])) st13 ?_
  replace A1 := A1.wr W13
  replace Fc6 := Fc6.other W13 (Or.inl ne_b1_b12)
  replace Fv6 := Fv6.other W13 (Or.inl ne_b1_b12)
  replace V6 := V6.other W13 ne_t6_b12
  replace Eq7 := Eq7.wr W13
  replace Fc7 := Fc7.other W13 (Or.inl ne_r7_b12)
  replace Fv7 := Fv7.other W13 (Or.inl ne_r7_b12)
  replace V7 := V7.other W13 ne_t7_b12
  replace Eq8 := Eq8.wr W13
  replace Fc8 := Fc8.other W13 (Or.inl ne_r8_b12)
  replace Fv8 := Fv8.other W13 (Or.inl ne_r8_b12)
  replace V8 := V8.other W13 ne_t8_b12
  replace Eq9 := Eq9.wr W13
  replace Fc9 := Fc9.other W13 (Or.inl ne_r9_b12)
  replace Fv9 := Fv9.other W13 (Or.inl ne_r9_b12)
  replace V9 := V9.other W13 ne_t9_b12
  replace Eq10 := Eq10.wr W13
  replace Fc10 := Fc10.other W13 (Or.inl ne_r10_b12)
  replace Fv10 := Fv10.other W13 (Or.inl ne_r10_b12)
  replace V10 := V10.other W13 ne_t10_b12
  replace A11 := A11.wr W13
  replace F_coder_b11 := F_coder_b11.other W13 (Or.inl ne_b11_b12)
  replace F_value_b11 := F_value_b11.other W13 (Or.inl ne_b11_b12)
  replace O0 : Ext Z.heap h13 := ext_wr O0 W13 ge_b12
  replace N0 := Fr.snoc X13 N0 ge_b12
  refine OEnds.st (S' := T13.setTop (mkF m 137 #[.val (.int p0), .val (.int p1), .val (.int p2), .val (.int p3), .val (.int c4), .val (.int c5), .val (.int c6), .val (.int c7), .val (.int c8), .val (.int c9), .val (.int tw), .val (.ref b1), .val (.ref r7), .val (.ref r8), .val (.ref r9), .val (.ref r10), .unset, .unset, .unset, .unset, .unset, .unset] [(.int c5), (.int (1 : Int32)), (.ref b12), (.ref b12), (.ref b11), (.ref b11)])) (fun _ k => ?_) ?_
  · show Steps p.tables e below (T13.setTop (mkF m 133 #[.val (.int p0), .val (.int p1), .val (.int p2), .val (.int p3), .val (.int c4), .val (.int c5), .val (.int c6), .val (.int c7), .val (.int c8), .val (.int c9), .val (.int tw), .val (.ref b1), .val (.ref r7), .val (.ref r8), .val (.ref r9), .val (.ref r10), .unset, .unset, .unset, .unset, .unset, .unset] [(.ref b12), (.ref b11), (.ref b11)])) _
    refine XS.dup X13.here hx rfl (hb hby at_133) rfl rfl ?_
    show Steps p.tables e below (T13.setTop (mkF m 134 #[.val (.int p0), .val (.int p1), .val (.int p2), .val (.int p3), .val (.int c4), .val (.int c5), .val (.int c6), .val (.int c7), .val (.int c8), .val (.int c9), .val (.int tw), .val (.ref b1), .val (.ref r7), .val (.ref r8), .val (.ref r9), .val (.ref r10), .unset, .unset, .unset, .unset, .unset, .unset] [(.ref b12), (.ref b12), (.ref b11), (.ref b11)])) _
    refine XS.iconst X13.here hx rfl (hb hby at_134) ?_
    show Steps p.tables e below (T13.setTop (mkF m 135 #[.val (.int p0), .val (.int p1), .val (.int p2), .val (.int p3), .val (.int c4), .val (.int c5), .val (.int c6), .val (.int c7), .val (.int c8), .val (.int c9), .val (.int tw), .val (.ref b1), .val (.ref r7), .val (.ref r8), .val (.ref r9), .val (.ref r10), .unset, .unset, .unset, .unset, .unset, .unset] [(.int (1 : Int32)), (.ref b12), (.ref b12), (.ref b11), (.ref b11)])) _
    refine XS.iload X13.here hx rfl (hb hby at_135) rfl ?_
    exact k
  obtain ⟨cl_b12_14, Ar_b12_14, q_b12_14, S_b12_14, N_b12_14, H_b12_14, G_b12_14⟩ := V_b12_13
  obtain ⟨T14, h14, X14, e14, W14, st14⟩ := stC X13 hx hZ e13 Ar_b12_14 (j := (1 : Int32)) (inb_of S_b12_14 ⟨by decide, by decide⟩) (g := (mkF m 137 #[.val (.int p0), .val (.int p1), .val (.int p2), .val (.int p3), .val (.int c4), .val (.int c5), .val (.int c6), .val (.int c7), .val (.int c8), .val (.int c9), .val (.int tw), .val (.ref b1), .val (.ref r7), .val (.ref r8), .val (.ref r9), .val (.ref r10), .unset, .unset, .unset, .unset, .unset, .unset] [(.int c5), (.int (1 : Int32)), (.ref b12), (.ref b12), (.ref b11), (.ref b11)])) rfl rfl (hb hby at_137)
  have V_b12_14 : Arv Z h14 b12 k12 .char (6 : Int32) [(.int (nar .char c4)), (.int (nar .char c5)), (.int (0 : Int32)), (.int (0 : Int32)), (.int (0 : Int32)), (.int (0 : Int32))] (.int (0 : Int32)) := Arv.set Ar_b12_14 q_b12_14 S_b12_14 N_b12_14 H_b12_14 G_b12_14 (fits_nar_char _) W14 1 rfl (Nat.le_of_ble_eq_true rfl)
  refine OEnds.st (S' := T14.setTop (mkF m 138 #[.val (.int p0), .val (.int p1), .val (.int p2), .val (.int p3), .val (.int c4), .val (.int c5), .val (.int c6), .val (.int c7), .val (.int c8), .val (.int c9), .val (.int tw), .val (.ref b1), .val (.ref r7), .val (.ref r8), .val (.ref r9), .val (.ref r10), .unset, .unset, .unset, .unset, .unset, .unset] [(.ref b12), (.ref b11), (.ref b11)])) st14 ?_
  replace A1 := A1.wr W14
  replace Fc6 := Fc6.other W14 (Or.inl ne_b1_b12)
  replace Fv6 := Fv6.other W14 (Or.inl ne_b1_b12)
  replace V6 := V6.other W14 ne_t6_b12
  replace Eq7 := Eq7.wr W14
  replace Fc7 := Fc7.other W14 (Or.inl ne_r7_b12)
  replace Fv7 := Fv7.other W14 (Or.inl ne_r7_b12)
  replace V7 := V7.other W14 ne_t7_b12
  replace Eq8 := Eq8.wr W14
  replace Fc8 := Fc8.other W14 (Or.inl ne_r8_b12)
  replace Fv8 := Fv8.other W14 (Or.inl ne_r8_b12)
  replace V8 := V8.other W14 ne_t8_b12
  replace Eq9 := Eq9.wr W14
  replace Fc9 := Fc9.other W14 (Or.inl ne_r9_b12)
  replace Fv9 := Fv9.other W14 (Or.inl ne_r9_b12)
  replace V9 := V9.other W14 ne_t9_b12
  replace Eq10 := Eq10.wr W14
  replace Fc10 := Fc10.other W14 (Or.inl ne_r10_b12)
  replace Fv10 := Fv10.other W14 (Or.inl ne_r10_b12)
  replace V10 := V10.other W14 ne_t10_b12
  replace A11 := A11.wr W14
  replace F_coder_b11 := F_coder_b11.other W14 (Or.inl ne_b11_b12)
  replace F_value_b11 := F_value_b11.other W14 (Or.inl ne_b11_b12)
  replace O0 : Ext Z.heap h14 := ext_wr O0 W14 ge_b12
  replace N0 := Fr.snoc X14 N0 ge_b12
  refine OEnds.st (S' := T14.setTop (mkF m 142 #[.val (.int p0), .val (.int p1), .val (.int p2), .val (.int p3), .val (.int c4), .val (.int c5), .val (.int c6), .val (.int c7), .val (.int c8), .val (.int c9), .val (.int tw), .val (.ref b1), .val (.ref r7), .val (.ref r8), .val (.ref r9), .val (.ref r10), .unset, .unset, .unset, .unset, .unset, .unset] [(.int (32 : Int32)), (.int (2 : Int32)), (.ref b12), (.ref b12), (.ref b11), (.ref b11)])) (fun _ k => ?_) ?_
  · show Steps p.tables e below (T14.setTop (mkF m 138 #[.val (.int p0), .val (.int p1), .val (.int p2), .val (.int p3), .val (.int c4), .val (.int c5), .val (.int c6), .val (.int c7), .val (.int c8), .val (.int c9), .val (.int tw), .val (.ref b1), .val (.ref r7), .val (.ref r8), .val (.ref r9), .val (.ref r10), .unset, .unset, .unset, .unset, .unset, .unset] [(.ref b12), (.ref b11), (.ref b11)])) _
    refine XS.dup X14.here hx rfl (hb hby at_138) rfl rfl ?_
    show Steps p.tables e below (T14.setTop (mkF m 139 #[.val (.int p0), .val (.int p1), .val (.int p2), .val (.int p3), .val (.int c4), .val (.int c5), .val (.int c6), .val (.int c7), .val (.int c8), .val (.int c9), .val (.int tw), .val (.ref b1), .val (.ref r7), .val (.ref r8), .val (.ref r9), .val (.ref r10), .unset, .unset, .unset, .unset, .unset, .unset] [(.ref b12), (.ref b12), (.ref b11), (.ref b11)])) _
    refine XS.iconst X14.here hx rfl (hb hby at_139) ?_
    show Steps p.tables e below (T14.setTop (mkF m 140 #[.val (.int p0), .val (.int p1), .val (.int p2), .val (.int p3), .val (.int c4), .val (.int c5), .val (.int c6), .val (.int c7), .val (.int c8), .val (.int c9), .val (.int tw), .val (.ref b1), .val (.ref r7), .val (.ref r8), .val (.ref r9), .val (.ref r10), .unset, .unset, .unset, .unset, .unset, .unset] [(.int (2 : Int32)), (.ref b12), (.ref b12), (.ref b11), (.ref b11)])) _
    refine XS.bipush X14.here hx rfl (hb hby at_140) ?_
    exact k
  obtain ⟨cl_b12_15, Ar_b12_15, q_b12_15, S_b12_15, N_b12_15, H_b12_15, G_b12_15⟩ := V_b12_14
  obtain ⟨T15, h15, X15, e15, W15, st15⟩ := stC X14 hx hZ e14 Ar_b12_15 (j := (2 : Int32)) (inb_of S_b12_15 ⟨by decide, by decide⟩) (g := (mkF m 142 #[.val (.int p0), .val (.int p1), .val (.int p2), .val (.int p3), .val (.int c4), .val (.int c5), .val (.int c6), .val (.int c7), .val (.int c8), .val (.int c9), .val (.int tw), .val (.ref b1), .val (.ref r7), .val (.ref r8), .val (.ref r9), .val (.ref r10), .unset, .unset, .unset, .unset, .unset, .unset] [(.int (32 : Int32)), (.int (2 : Int32)), (.ref b12), (.ref b12), (.ref b11), (.ref b11)])) rfl rfl (hb hby at_142)
  have V_b12_15 : Arv Z h15 b12 k12 .char (6 : Int32) [(.int (nar .char c4)), (.int (nar .char c5)), (.int (nar .char (32 : Int32))), (.int (0 : Int32)), (.int (0 : Int32)), (.int (0 : Int32))] (.int (0 : Int32)) := Arv.set Ar_b12_15 q_b12_15 S_b12_15 N_b12_15 H_b12_15 G_b12_15 (fits_nar_char _) W15 2 rfl (Nat.le_of_ble_eq_true rfl)
  refine OEnds.st (S' := T15.setTop (mkF m 143 #[.val (.int p0), .val (.int p1), .val (.int p2), .val (.int p3), .val (.int c4), .val (.int c5), .val (.int c6), .val (.int c7), .val (.int c8), .val (.int c9), .val (.int tw), .val (.ref b1), .val (.ref r7), .val (.ref r8), .val (.ref r9), .val (.ref r10), .unset, .unset, .unset, .unset, .unset, .unset] [(.ref b12), (.ref b11), (.ref b11)])) st15 ?_
  replace A1 := A1.wr W15
  replace Fc6 := Fc6.other W15 (Or.inl ne_b1_b12)
  replace Fv6 := Fv6.other W15 (Or.inl ne_b1_b12)
  replace V6 := V6.other W15 ne_t6_b12
  replace Eq7 := Eq7.wr W15
  replace Fc7 := Fc7.other W15 (Or.inl ne_r7_b12)
  replace Fv7 := Fv7.other W15 (Or.inl ne_r7_b12)
  replace V7 := V7.other W15 ne_t7_b12
  replace Eq8 := Eq8.wr W15
  replace Fc8 := Fc8.other W15 (Or.inl ne_r8_b12)
  replace Fv8 := Fv8.other W15 (Or.inl ne_r8_b12)
  replace V8 := V8.other W15 ne_t8_b12
  replace Eq9 := Eq9.wr W15
  replace Fc9 := Fc9.other W15 (Or.inl ne_r9_b12)
  replace Fv9 := Fv9.other W15 (Or.inl ne_r9_b12)
  replace V9 := V9.other W15 ne_t9_b12
  replace Eq10 := Eq10.wr W15
  replace Fc10 := Fc10.other W15 (Or.inl ne_r10_b12)
  replace Fv10 := Fv10.other W15 (Or.inl ne_r10_b12)
  replace V10 := V10.other W15 ne_t10_b12
  replace A11 := A11.wr W15
  replace F_coder_b11 := F_coder_b11.other W15 (Or.inl ne_b11_b12)
  replace F_value_b11 := F_value_b11.other W15 (Or.inl ne_b11_b12)
  replace O0 : Ext Z.heap h15 := ext_wr O0 W15 ge_b12
  replace N0 := Fr.snoc X15 N0 ge_b12
  refine OEnds.st (S' := T15.setTop (mkF m 147 #[.val (.int p0), .val (.int p1), .val (.int p2), .val (.int p3), .val (.int c4), .val (.int c5), .val (.int c6), .val (.int c7), .val (.int c8), .val (.int c9), .val (.int tw), .val (.ref b1), .val (.ref r7), .val (.ref r8), .val (.ref r9), .val (.ref r10), .unset, .unset, .unset, .unset, .unset, .unset] [(.int c6), (.int (3 : Int32)), (.ref b12), (.ref b12), (.ref b11), (.ref b11)])) (fun _ k => ?_) ?_
  · show Steps p.tables e below (T15.setTop (mkF m 143 #[.val (.int p0), .val (.int p1), .val (.int p2), .val (.int p3), .val (.int c4), .val (.int c5), .val (.int c6), .val (.int c7), .val (.int c8), .val (.int c9), .val (.int tw), .val (.ref b1), .val (.ref r7), .val (.ref r8), .val (.ref r9), .val (.ref r10), .unset, .unset, .unset, .unset, .unset, .unset] [(.ref b12), (.ref b11), (.ref b11)])) _
    refine XS.dup X15.here hx rfl (hb hby at_143) rfl rfl ?_
    show Steps p.tables e below (T15.setTop (mkF m 144 #[.val (.int p0), .val (.int p1), .val (.int p2), .val (.int p3), .val (.int c4), .val (.int c5), .val (.int c6), .val (.int c7), .val (.int c8), .val (.int c9), .val (.int tw), .val (.ref b1), .val (.ref r7), .val (.ref r8), .val (.ref r9), .val (.ref r10), .unset, .unset, .unset, .unset, .unset, .unset] [(.ref b12), (.ref b12), (.ref b11), (.ref b11)])) _
    refine XS.iconst X15.here hx rfl (hb hby at_144) ?_
    show Steps p.tables e below (T15.setTop (mkF m 145 #[.val (.int p0), .val (.int p1), .val (.int p2), .val (.int p3), .val (.int c4), .val (.int c5), .val (.int c6), .val (.int c7), .val (.int c8), .val (.int c9), .val (.int tw), .val (.ref b1), .val (.ref r7), .val (.ref r8), .val (.ref r9), .val (.ref r10), .unset, .unset, .unset, .unset, .unset, .unset] [(.int (3 : Int32)), (.ref b12), (.ref b12), (.ref b11), (.ref b11)])) _
    refine XS.iload X15.here hx rfl (hb hby at_145) rfl ?_
    exact k
  obtain ⟨cl_b12_16, Ar_b12_16, q_b12_16, S_b12_16, N_b12_16, H_b12_16, G_b12_16⟩ := V_b12_15
  obtain ⟨T16, h16, X16, e16, W16, st16⟩ := stC X15 hx hZ e15 Ar_b12_16 (j := (3 : Int32)) (inb_of S_b12_16 ⟨by decide, by decide⟩) (g := (mkF m 147 #[.val (.int p0), .val (.int p1), .val (.int p2), .val (.int p3), .val (.int c4), .val (.int c5), .val (.int c6), .val (.int c7), .val (.int c8), .val (.int c9), .val (.int tw), .val (.ref b1), .val (.ref r7), .val (.ref r8), .val (.ref r9), .val (.ref r10), .unset, .unset, .unset, .unset, .unset, .unset] [(.int c6), (.int (3 : Int32)), (.ref b12), (.ref b12), (.ref b11), (.ref b11)])) rfl rfl (hb hby at_147)
  have V_b12_16 : Arv Z h16 b12 k12 .char (6 : Int32) [(.int (nar .char c4)), (.int (nar .char c5)), (.int (nar .char (32 : Int32))), (.int (nar .char c6)), (.int (0 : Int32)), (.int (0 : Int32))] (.int (0 : Int32)) := Arv.set Ar_b12_16 q_b12_16 S_b12_16 N_b12_16 H_b12_16 G_b12_16 (fits_nar_char _) W16 3 rfl (Nat.le_of_ble_eq_true rfl)
  refine OEnds.st (S' := T16.setTop (mkF m 148 #[.val (.int p0), .val (.int p1), .val (.int p2), .val (.int p3), .val (.int c4), .val (.int c5), .val (.int c6), .val (.int c7), .val (.int c8), .val (.int c9), .val (.int tw), .val (.ref b1), .val (.ref r7), .val (.ref r8), .val (.ref r9), .val (.ref r10), .unset, .unset, .unset, .unset, .unset, .unset] [(.ref b12), (.ref b11), (.ref b11)])) st16 ?_
  replace A1 := A1.wr W16
  replace Fc6 := Fc6.other W16 (Or.inl ne_b1_b12)
  replace Fv6 := Fv6.other W16 (Or.inl ne_b1_b12)
  replace V6 := V6.other W16 ne_t6_b12
  replace Eq7 := Eq7.wr W16
  replace Fc7 := Fc7.other W16 (Or.inl ne_r7_b12)
  replace Fv7 := Fv7.other W16 (Or.inl ne_r7_b12)
  replace V7 := V7.other W16 ne_t7_b12
  replace Eq8 := Eq8.wr W16
  replace Fc8 := Fc8.other W16 (Or.inl ne_r8_b12)
  replace Fv8 := Fv8.other W16 (Or.inl ne_r8_b12)
  replace V8 := V8.other W16 ne_t8_b12
  replace Eq9 := Eq9.wr W16
  replace Fc9 := Fc9.other W16 (Or.inl ne_r9_b12)
  replace Fv9 := Fv9.other W16 (Or.inl ne_r9_b12)
  replace V9 := V9.other W16 ne_t9_b12
  replace Eq10 := Eq10.wr W16
  replace Fc10 := Fc10.other W16 (Or.inl ne_r10_b12)
  replace Fv10 := Fv10.other W16 (Or.inl ne_r10_b12)
  replace V10 := V10.other W16 ne_t10_b12
  replace A11 := A11.wr W16
  replace F_coder_b11 := F_coder_b11.other W16 (Or.inl ne_b11_b12)
  replace F_value_b11 := F_value_b11.other W16 (Or.inl ne_b11_b12)
  replace O0 : Ext Z.heap h16 := ext_wr O0 W16 ge_b12
  replace N0 := Fr.snoc X16 N0 ge_b12
  refine OEnds.st (S' := T16.setTop (mkF m 152 #[.val (.int p0), .val (.int p1), .val (.int p2), .val (.int p3), .val (.int c4), .val (.int c5), .val (.int c6), .val (.int c7), .val (.int c8), .val (.int c9), .val (.int tw), .val (.ref b1), .val (.ref r7), .val (.ref r8), .val (.ref r9), .val (.ref r10), .unset, .unset, .unset, .unset, .unset, .unset] [(.int (61 : Int32)), (.int (4 : Int32)), (.ref b12), (.ref b12), (.ref b11), (.ref b11)])) (fun _ k => ?_) ?_
  · show Steps p.tables e below (T16.setTop (mkF m 148 #[.val (.int p0), .val (.int p1), .val (.int p2), .val (.int p3), .val (.int c4), .val (.int c5), .val (.int c6), .val (.int c7), .val (.int c8), .val (.int c9), .val (.int tw), .val (.ref b1), .val (.ref r7), .val (.ref r8), .val (.ref r9), .val (.ref r10), .unset, .unset, .unset, .unset, .unset, .unset] [(.ref b12), (.ref b11), (.ref b11)])) _
    refine XS.dup X16.here hx rfl (hb hby at_148) rfl rfl ?_
    show Steps p.tables e below (T16.setTop (mkF m 149 #[.val (.int p0), .val (.int p1), .val (.int p2), .val (.int p3), .val (.int c4), .val (.int c5), .val (.int c6), .val (.int c7), .val (.int c8), .val (.int c9), .val (.int tw), .val (.ref b1), .val (.ref r7), .val (.ref r8), .val (.ref r9), .val (.ref r10), .unset, .unset, .unset, .unset, .unset, .unset] [(.ref b12), (.ref b12), (.ref b11), (.ref b11)])) _
    refine XS.iconst X16.here hx rfl (hb hby at_149) ?_
    show Steps p.tables e below (T16.setTop (mkF m 150 #[.val (.int p0), .val (.int p1), .val (.int p2), .val (.int p3), .val (.int c4), .val (.int c5), .val (.int c6), .val (.int c7), .val (.int c8), .val (.int c9), .val (.int tw), .val (.ref b1), .val (.ref r7), .val (.ref r8), .val (.ref r9), .val (.ref r10), .unset, .unset, .unset, .unset, .unset, .unset] [(.int (4 : Int32)), (.ref b12), (.ref b12), (.ref b11), (.ref b11)])) _
    refine XS.bipush X16.here hx rfl (hb hby at_150) ?_
    exact k
  obtain ⟨cl_b12_17, Ar_b12_17, q_b12_17, S_b12_17, N_b12_17, H_b12_17, G_b12_17⟩ := V_b12_16
  obtain ⟨T17, h17, X17, e17, W17, st17⟩ := stC X16 hx hZ e16 Ar_b12_17 (j := (4 : Int32)) (inb_of S_b12_17 ⟨by decide, by decide⟩) (g := (mkF m 152 #[.val (.int p0), .val (.int p1), .val (.int p2), .val (.int p3), .val (.int c4), .val (.int c5), .val (.int c6), .val (.int c7), .val (.int c8), .val (.int c9), .val (.int tw), .val (.ref b1), .val (.ref r7), .val (.ref r8), .val (.ref r9), .val (.ref r10), .unset, .unset, .unset, .unset, .unset, .unset] [(.int (61 : Int32)), (.int (4 : Int32)), (.ref b12), (.ref b12), (.ref b11), (.ref b11)])) rfl rfl (hb hby at_152)
  have V_b12_17 : Arv Z h17 b12 k12 .char (6 : Int32) [(.int (nar .char c4)), (.int (nar .char c5)), (.int (nar .char (32 : Int32))), (.int (nar .char c6)), (.int (nar .char (61 : Int32))), (.int (0 : Int32))] (.int (0 : Int32)) := Arv.set Ar_b12_17 q_b12_17 S_b12_17 N_b12_17 H_b12_17 G_b12_17 (fits_nar_char _) W17 4 rfl (Nat.le_of_ble_eq_true rfl)
  refine OEnds.st (S' := T17.setTop (mkF m 153 #[.val (.int p0), .val (.int p1), .val (.int p2), .val (.int p3), .val (.int c4), .val (.int c5), .val (.int c6), .val (.int c7), .val (.int c8), .val (.int c9), .val (.int tw), .val (.ref b1), .val (.ref r7), .val (.ref r8), .val (.ref r9), .val (.ref r10), .unset, .unset, .unset, .unset, .unset, .unset] [(.ref b12), (.ref b11), (.ref b11)])) st17 ?_
  replace A1 := A1.wr W17
  replace Fc6 := Fc6.other W17 (Or.inl ne_b1_b12)
  replace Fv6 := Fv6.other W17 (Or.inl ne_b1_b12)
  replace V6 := V6.other W17 ne_t6_b12
  replace Eq7 := Eq7.wr W17
  replace Fc7 := Fc7.other W17 (Or.inl ne_r7_b12)
  replace Fv7 := Fv7.other W17 (Or.inl ne_r7_b12)
  replace V7 := V7.other W17 ne_t7_b12
  replace Eq8 := Eq8.wr W17
  replace Fc8 := Fc8.other W17 (Or.inl ne_r8_b12)
  replace Fv8 := Fv8.other W17 (Or.inl ne_r8_b12)
  replace V8 := V8.other W17 ne_t8_b12
  replace Eq9 := Eq9.wr W17
  replace Fc9 := Fc9.other W17 (Or.inl ne_r9_b12)
  replace Fv9 := Fv9.other W17 (Or.inl ne_r9_b12)
  replace V9 := V9.other W17 ne_t9_b12
  replace Eq10 := Eq10.wr W17
  replace Fc10 := Fc10.other W17 (Or.inl ne_r10_b12)
  replace Fv10 := Fv10.other W17 (Or.inl ne_r10_b12)
  replace V10 := V10.other W17 ne_t10_b12
  replace A11 := A11.wr W17
  replace F_coder_b11 := F_coder_b11.other W17 (Or.inl ne_b11_b12)
  replace F_value_b11 := F_value_b11.other W17 (Or.inl ne_b11_b12)
  replace O0 : Ext Z.heap h17 := ext_wr O0 W17 ge_b12
  replace N0 := Fr.snoc X17 N0 ge_b12
  refine OEnds.st (S' := T17.setTop (mkF m 157 #[.val (.int p0), .val (.int p1), .val (.int p2), .val (.int p3), .val (.int c4), .val (.int c5), .val (.int c6), .val (.int c7), .val (.int c8), .val (.int c9), .val (.int tw), .val (.ref b1), .val (.ref r7), .val (.ref r8), .val (.ref r9), .val (.ref r10), .unset, .unset, .unset, .unset, .unset, .unset] [(.int c7), (.int (5 : Int32)), (.ref b12), (.ref b12), (.ref b11), (.ref b11)])) (fun _ k => ?_) ?_
  · show Steps p.tables e below (T17.setTop (mkF m 153 #[.val (.int p0), .val (.int p1), .val (.int p2), .val (.int p3), .val (.int c4), .val (.int c5), .val (.int c6), .val (.int c7), .val (.int c8), .val (.int c9), .val (.int tw), .val (.ref b1), .val (.ref r7), .val (.ref r8), .val (.ref r9), .val (.ref r10), .unset, .unset, .unset, .unset, .unset, .unset] [(.ref b12), (.ref b11), (.ref b11)])) _
    refine XS.dup X17.here hx rfl (hb hby at_153) rfl rfl ?_
    show Steps p.tables e below (T17.setTop (mkF m 154 #[.val (.int p0), .val (.int p1), .val (.int p2), .val (.int p3), .val (.int c4), .val (.int c5), .val (.int c6), .val (.int c7), .val (.int c8), .val (.int c9), .val (.int tw), .val (.ref b1), .val (.ref r7), .val (.ref r8), .val (.ref r9), .val (.ref r10), .unset, .unset, .unset, .unset, .unset, .unset] [(.ref b12), (.ref b12), (.ref b11), (.ref b11)])) _
    refine XS.iconst X17.here hx rfl (hb hby at_154) ?_
    show Steps p.tables e below (T17.setTop (mkF m 155 #[.val (.int p0), .val (.int p1), .val (.int p2), .val (.int p3), .val (.int c4), .val (.int c5), .val (.int c6), .val (.int c7), .val (.int c8), .val (.int c9), .val (.int tw), .val (.ref b1), .val (.ref r7), .val (.ref r8), .val (.ref r9), .val (.ref r10), .unset, .unset, .unset, .unset, .unset, .unset] [(.int (5 : Int32)), (.ref b12), (.ref b12), (.ref b11), (.ref b11)])) _
    refine XS.iload X17.here hx rfl (hb hby at_155) rfl ?_
    exact k
  obtain ⟨cl_b12_18, Ar_b12_18, q_b12_18, S_b12_18, N_b12_18, H_b12_18, G_b12_18⟩ := V_b12_17
  obtain ⟨T18, h18, X18, e18, W18, st18⟩ := stC X17 hx hZ e17 Ar_b12_18 (j := (5 : Int32)) (inb_of S_b12_18 ⟨by decide, by decide⟩) (g := (mkF m 157 #[.val (.int p0), .val (.int p1), .val (.int p2), .val (.int p3), .val (.int c4), .val (.int c5), .val (.int c6), .val (.int c7), .val (.int c8), .val (.int c9), .val (.int tw), .val (.ref b1), .val (.ref r7), .val (.ref r8), .val (.ref r9), .val (.ref r10), .unset, .unset, .unset, .unset, .unset, .unset] [(.int c7), (.int (5 : Int32)), (.ref b12), (.ref b12), (.ref b11), (.ref b11)])) rfl rfl (hb hby at_157)
  have V_b12_18 : Arv Z h18 b12 k12 .char (6 : Int32) [(.int (nar .char c4)), (.int (nar .char c5)), (.int (nar .char (32 : Int32))), (.int (nar .char c6)), (.int (nar .char (61 : Int32))), (.int (nar .char c7))] (.int (0 : Int32)) := Arv.set Ar_b12_18 q_b12_18 S_b12_18 N_b12_18 H_b12_18 G_b12_18 (fits_nar_char _) W18 5 rfl (Nat.le_of_ble_eq_true rfl)
  refine OEnds.st (S' := T18.setTop (mkF m 158 #[.val (.int p0), .val (.int p1), .val (.int p2), .val (.int p3), .val (.int c4), .val (.int c5), .val (.int c6), .val (.int c7), .val (.int c8), .val (.int c9), .val (.int tw), .val (.ref b1), .val (.ref r7), .val (.ref r8), .val (.ref r9), .val (.ref r10), .unset, .unset, .unset, .unset, .unset, .unset] [(.ref b12), (.ref b11), (.ref b11)])) st18 ?_
  replace A1 := A1.wr W18
  replace Fc6 := Fc6.other W18 (Or.inl ne_b1_b12)
  replace Fv6 := Fv6.other W18 (Or.inl ne_b1_b12)
  replace V6 := V6.other W18 ne_t6_b12
  replace Eq7 := Eq7.wr W18
  replace Fc7 := Fc7.other W18 (Or.inl ne_r7_b12)
  replace Fv7 := Fv7.other W18 (Or.inl ne_r7_b12)
  replace V7 := V7.other W18 ne_t7_b12
  replace Eq8 := Eq8.wr W18
  replace Fc8 := Fc8.other W18 (Or.inl ne_r8_b12)
  replace Fv8 := Fv8.other W18 (Or.inl ne_r8_b12)
  replace V8 := V8.other W18 ne_t8_b12
  replace Eq9 := Eq9.wr W18
  replace Fc9 := Fc9.other W18 (Or.inl ne_r9_b12)
  replace Fv9 := Fv9.other W18 (Or.inl ne_r9_b12)
  replace V9 := V9.other W18 ne_t9_b12
  replace Eq10 := Eq10.wr W18
  replace Fc10 := Fc10.other W18 (Or.inl ne_r10_b12)
  replace Fv10 := Fv10.other W18 (Or.inl ne_r10_b12)
  replace V10 := V10.other W18 ne_t10_b12
  replace A11 := A11.wr W18
  replace F_coder_b11 := F_coder_b11.other W18 (Or.inl ne_b11_b12)
  replace F_value_b11 := F_value_b11.other W18 (Or.inl ne_b11_b12)
  replace O0 : Ext Z.heap h18 := ext_wr O0 W18 ge_b12
  replace N0 := Fr.snoc X18 N0 ge_b12
  simp only [nar_char (x := (32 : Int32)) (by decide), nar_char (x := (61 : Int32)) (by decide), nar_char (x := c4) hc4, nar_char (x := c5) hc5, nar_char (x := c6) hc6, nar_char (x := c7) hc7] at V_b12_18
  have hp19 : ∀ c ∈ ([c4, c5, (32 : Int32), c6, (61 : Int32), c7] : List Int32), ¬ c < 0 ∧ ¬ (255 : Int32) < c := by
    intro c hc; simp only [List.mem_cons, List.not_mem_nil, or_false] at hc
    rcases hc with rfl | rfl | rfl | rfl | rfl | rfl
    · exact hc4
    · exact hc5
    · exact (by decide)
    · exact hc6
    · exact (by decide)
    · exact hc7
  obtain ⟨_, T20, h20, L20, X20, e20, hQ20, st20⟩ := specC X18 hx hZ rfl hown (hw _ (List.mem_of_getElem? (i := 4) rfl)) (hw _ (List.mem_of_getElem? (i := 5) rfl)) (hw _ (List.mem_of_getElem? (i := 6) rfl)) (by decide) (kc := 1) (ks := 6) (SB.of (Q := StrChars.Road.QV Z b11 (6 : Int32) (([c4, c5, (32 : Int32), c6, (61 : Int32), c7] : List Int32).map (fun c => c.toInt8.toInt32)) h18 Z.heap.size) (StrChars.Road.backV (W := 1) hZ hws (kI := 4) (hw _ (List.mem_of_getElem? (i := 1) rfl)) (cs := ([c4, c5, (32 : Int32), c6, (61 : Int32), c7] : List Int32)) (bs := (([c4, c5, (32 : Int32), c6, (61 : Int32), c7] : List Int32).map (fun c => c.toInt8.toInt32))) (n := 6) ge_b11 O0.1 A11 F_value_b11 F_coder_b11 V_b12_18 (S_CS.ext O0) hcz rfl rfl (by decide) (by decide) hp19 rfl (by decide) (by decide))) e18 (a := b11) (g := (mkF m 158 #[.val (.int p0), .val (.int p1), .val (.int p2), .val (.int p3), .val (.int c4), .val (.int c5), .val (.int c6), .val (.int c7), .val (.int c8), .val (.int c9), .val (.int tw), .val (.ref b1), .val (.ref r7), .val (.ref r8), .val (.ref r9), .val (.ref r10), .unset, .unset, .unset, .unset, .unset, .unset] [(.ref b12), (.ref b11), (.ref b11)])) rfl (by rw [hml]; rfl) (argsL := [(.ref b12)]) (rest := [(.ref b11)]) (lenOf pd_21 rfl) rfl (by show 2 * 0 + _ ≤ _; exact Nat.le_of_eq rfl) (hb hby at_158) (by decide) (by decide)
  obtain ⟨rfl, Nq20, Kq20, Eq20, Fc20, t20, kb20, gq20, szq20, nq20, Fv20, V20⟩ := hQ20
  refine OEnds.st (S' := T20.setTop (mkF m 161 #[.val (.int p0), .val (.int p1), .val (.int p2), .val (.int p3), .val (.int c4), .val (.int c5), .val (.int c6), .val (.int c7), .val (.int c8), .val (.int c9), .val (.int tw), .val (.ref b1), .val (.ref r7), .val (.ref r8), .val (.ref r9), .val (.ref r10), .unset, .unset, .unset, .unset, .unset, .unset] [(.ref b11)])) st20 ?_
  replace N0 := Fr.app N0 Nq20
  have ne_b1_t20 : b1 ≠ t20 := Nat.ne_of_lt (Nat.lt_of_lt_of_le A1.lt szq20)
  have ne_b11_t20 : b11 ≠ t20 := Nat.ne_of_lt (Nat.lt_of_lt_of_le A11.lt szq20)
  have ne_b12_t20 : b12 ≠ t20 := Nat.ne_of_lt (Nat.lt_of_lt_of_le V_b12_18.lt szq20)
  have ne_r10_t20 : r10 ≠ t20 := Nat.ne_of_lt (Nat.lt_of_lt_of_le Eq10.lt szq20)
  have ne_r7_t20 : r7 ≠ t20 := Nat.ne_of_lt (Nat.lt_of_lt_of_le Eq7.lt szq20)
  have ne_r8_t20 : r8 ≠ t20 := Nat.ne_of_lt (Nat.lt_of_lt_of_le Eq8.lt szq20)
  have ne_r9_t20 : r9 ≠ t20 := Nat.ne_of_lt (Nat.lt_of_lt_of_le Eq9.lt szq20)
  have ne_t10_t20 : t10 ≠ t20 := Nat.ne_of_lt (Nat.lt_of_lt_of_le V10.lt szq20)
  have ne_t6_t20 : t6 ≠ t20 := Nat.ne_of_lt (Nat.lt_of_lt_of_le V6.lt szq20)
  have ne_t7_t20 : t7 ≠ t20 := Nat.ne_of_lt (Nat.lt_of_lt_of_le V7.lt szq20)
  have ne_t8_t20 : t8 ≠ t20 := Nat.ne_of_lt (Nat.lt_of_lt_of_le V8.lt szq20)
  have ne_t9_t20 : t9 ≠ t20 := Nat.ne_of_lt (Nat.lt_of_lt_of_le V9.lt szq20)
  have ge_t20 : Z.heap.size ≤ t20 := Nat.le_trans O0.1 szq20
  replace A1 := A1.keep Kq20
  replace Fc6 := Fc6.keep Kq20 (ninS ne_b1_b11 nin0)
  replace Fv6 := Fv6.keep Kq20 (ninS ne_b1_b11 nin0)
  replace V6 := V6.keep Kq20 (ninS ne_t6_b11 nin0)
  replace Eq7 := Eq7.keep Kq20
  replace Fc7 := Fc7.keep Kq20 (ninS ne_r7_b11 nin0)
  replace Fv7 := Fv7.keep Kq20 (ninS ne_r7_b11 nin0)
  replace V7 := V7.keep Kq20 (ninS ne_t7_b11 nin0)
  replace Eq8 := Eq8.keep Kq20
  replace Fc8 := Fc8.keep Kq20 (ninS ne_r8_b11 nin0)
  replace Fv8 := Fv8.keep Kq20 (ninS ne_r8_b11 nin0)
  replace V8 := V8.keep Kq20 (ninS ne_t8_b11 nin0)
  replace Eq9 := Eq9.keep Kq20
  replace Fc9 := Fc9.keep Kq20 (ninS ne_r9_b11 nin0)
  replace Fv9 := Fv9.keep Kq20 (ninS ne_r9_b11 nin0)
  replace V9 := V9.keep Kq20 (ninS ne_t9_b11 nin0)
  replace Eq10 := Eq10.keep Kq20
  replace Fc10 := Fc10.keep Kq20 (ninS ne_r10_b11 nin0)
  replace Fv10 := Fv10.keep Kq20 (ninS ne_r10_b11 nin0)
  replace V10 := V10.keep Kq20 (ninS ne_t10_b11 nin0)
  replace A11 := A11.keep Kq20
  replace V_b12_18 := V_b12_18.keep Kq20 (ninS (Ne.symm ne_b11_b12) nin0)
  replace O0 : Ext Z.heap h20 := ext_keep O0 Kq20 (allS ge_b11 all0)
  replace V20 : Arv Z h20 t20 kb20 .byte (Int32.ofNat 6) [(.int (c4).toInt8.toInt32), (.int (c5).toInt8.toInt32), (.int ((32 : Int32)).toInt8.toInt32), (.int (c6).toInt8.toInt32), (.int ((61 : Int32)).toInt8.toInt32), (.int (c7).toInt8.toInt32)] (.int 0) := V20
  clear V_b12_18
  refine OEnds.st (S' := T20.setTop (mkF m 163 #[.val (.int p0), .val (.int p1), .val (.int p2), .val (.int p3), .val (.int c4), .val (.int c5), .val (.int c6), .val (.int c7), .val (.int c8), .val (.int c9), .val (.int tw), .val (.ref b1), .val (.ref r7), .val (.ref r8), .val (.ref r9), .val (.ref r10), .val (.ref b11), .unset, .unset, .unset, .unset, .unset] [])) (fun _ k => ?_) ?_
  · show Steps p.tables e below (T20.setTop (mkF m 161 #[.val (.int p0), .val (.int p1), .val (.int p2), .val (.int p3), .val (.int c4), .val (.int c5), .val (.int c6), .val (.int c7), .val (.int c8), .val (.int c9), .val (.int tw), .val (.ref b1), .val (.ref r7), .val (.ref r8), .val (.ref r9), .val (.ref r10), .unset, .unset, .unset, .unset, .unset, .unset] [(.ref b11)])) _
    refine XS.astore X20.here hx rfl (hb hby at_161) rfl rfl (l' := #[.val (.int p0), .val (.int p1), .val (.int p2), .val (.int p3), .val (.int c4), .val (.int c5), .val (.int c6), .val (.int c7), .val (.int c8), .val (.int c9), .val (.int tw), .val (.ref b1), .val (.ref r7), .val (.ref r8), .val (.ref r9), .val (.ref r10), .val (.ref b11), .unset, .unset, .unset, .unset, .unset]) rfl ?_
    exact k
  obtain ⟨T21, h21, X21, e21, E21, A21, D21, U21, st21⟩ := newO X20 hx hZ hown (hw _ (List.mem_of_getElem? (i := 0) rfl)) (hw _ (List.mem_of_getElem? (i := 1) rfl)) (hw _ (List.mem_of_getElem? (i := 2) rfl)) e20 (g := (mkF m 163 #[.val (.int p0), .val (.int p1), .val (.int p2), .val (.int p3), .val (.int c4), .val (.int c5), .val (.int c6), .val (.int c7), .val (.int c8), .val (.int c9), .val (.int tw), .val (.ref b1), .val (.ref r7), .val (.ref r8), .val (.ref r9), .val (.ref r10), .val (.ref b11), .unset, .unset, .unset, .unset, .unset] [])) rfl (hb hby at_163) (by decide) (by decide)
  obtain ⟨b21, g21⟩ : ∃ z, z = h20.size := ⟨_, rfl⟩
  rw [← g21] at A21 D21 U21 st21
  refine OEnds.st (S' := T21.setTop (mkF m 166 #[.val (.int p0), .val (.int p1), .val (.int p2), .val (.int p3), .val (.int c4), .val (.int c5), .val (.int c6), .val (.int c7), .val (.int c8), .val (.int c9), .val (.int tw), .val (.ref b1), .val (.ref r7), .val (.ref r8), .val (.ref r9), .val (.ref r10), .val (.ref b11), .unset, .unset, .unset, .unset, .unset] [(.ref b21)])) st21 ?_
  have ne_b1_b21 : b1 ≠ b21 := Nat.ne_of_lt (Nat.lt_of_lt_of_le A1.lt (Nat.le_of_eq g21.symm))
  have ne_b11_b21 : b11 ≠ b21 := Nat.ne_of_lt (Nat.lt_of_lt_of_le A11.lt (Nat.le_of_eq g21.symm))
  have ne_r10_b21 : r10 ≠ b21 := Nat.ne_of_lt (Nat.lt_of_lt_of_le Eq10.lt (Nat.le_of_eq g21.symm))
  have ne_r7_b21 : r7 ≠ b21 := Nat.ne_of_lt (Nat.lt_of_lt_of_le Eq7.lt (Nat.le_of_eq g21.symm))
  have ne_r8_b21 : r8 ≠ b21 := Nat.ne_of_lt (Nat.lt_of_lt_of_le Eq8.lt (Nat.le_of_eq g21.symm))
  have ne_r9_b21 : r9 ≠ b21 := Nat.ne_of_lt (Nat.lt_of_lt_of_le Eq9.lt (Nat.le_of_eq g21.symm))
  have ne_t10_b21 : t10 ≠ b21 := Nat.ne_of_lt (Nat.lt_of_lt_of_le V10.lt (Nat.le_of_eq g21.symm))
  have ne_t20_b21 : t20 ≠ b21 := Nat.ne_of_lt (Nat.lt_of_lt_of_le V20.lt (Nat.le_of_eq g21.symm))
  have ne_t6_b21 : t6 ≠ b21 := Nat.ne_of_lt (Nat.lt_of_lt_of_le V6.lt (Nat.le_of_eq g21.symm))
  have ne_t7_b21 : t7 ≠ b21 := Nat.ne_of_lt (Nat.lt_of_lt_of_le V7.lt (Nat.le_of_eq g21.symm))
  have ne_t8_b21 : t8 ≠ b21 := Nat.ne_of_lt (Nat.lt_of_lt_of_le V8.lt (Nat.le_of_eq g21.symm))
  have ne_t9_b21 : t9 ≠ b21 := Nat.ne_of_lt (Nat.lt_of_lt_of_le V9.lt (Nat.le_of_eq g21.symm))
  have ge_b21 : Z.heap.size ≤ b21 := Nat.le_trans O0.1 (Nat.le_of_eq g21.symm)
  replace A1 := A1.ext E21
  replace Fc6 := Fc6.ext E21
  replace Fv6 := Fv6.ext E21
  replace V6 := V6.ext E21
  replace Eq7 := Eq7.ext E21
  replace Fc7 := Fc7.ext E21
  replace Fv7 := Fv7.ext E21
  replace V7 := V7.ext E21
  replace Eq8 := Eq8.ext E21
  replace Fc8 := Fc8.ext E21
  replace Fv8 := Fv8.ext E21
  replace V8 := V8.ext E21
  replace Eq9 := Eq9.ext E21
  replace Fc9 := Fc9.ext E21
  replace Fv9 := Fv9.ext E21
  replace V9 := V9.ext E21
  replace Eq10 := Eq10.ext E21
  replace Fc10 := Fc10.ext E21
  replace Fv10 := Fv10.ext E21
  replace V10 := V10.ext E21
  replace A11 := A11.ext E21
  replace Fc20 := Fc20.ext E21
  replace Fv20 := Fv20.ext E21
  replace V20 := V20.ext E21
  replace O0 : Ext Z.heap h21 := ext_trans O0 E21
  have F_coder_b21 : Fld Z h21 b21 "java/lang/String" "coder" "B" (.int (0 : Int32)) := D21 (Or.inr (hw _ (List.mem_of_getElem? (i := 27) rfl))) (ty := .byte) (by decide)
  have F_value_b21 : Fld Z h21 b21 "java/lang/String" "value" "[B" .null := D21 (Or.inr (hw _ (List.mem_of_getElem? (i := 29) rfl))) (ty := (.array .byte)) (by decide)
  refine OEnds.st (S' := T21.setTop (mkF m 169 #[.val (.int p0), .val (.int p1), .val (.int p2), .val (.int p3), .val (.int c4), .val (.int c5), .val (.int c6), .val (.int c7), .val (.int c8), .val (.int c9), .val (.int tw), .val (.ref b1), .val (.ref r7), .val (.ref r8), .val (.ref r9), .val (.ref r10), .val (.ref b11), .unset, .unset, .unset, .unset, .unset] [(.int (10 : Int32)), (.ref b21), (.ref b21)])) (fun _ k => ?_) ?_
  · show Steps p.tables e below (T21.setTop (mkF m 166 #[.val (.int p0), .val (.int p1), .val (.int p2), .val (.int p3), .val (.int c4), .val (.int c5), .val (.int c6), .val (.int c7), .val (.int c8), .val (.int c9), .val (.int tw), .val (.ref b1), .val (.ref r7), .val (.ref r8), .val (.ref r9), .val (.ref r10), .val (.ref b11), .unset, .unset, .unset, .unset, .unset] [(.ref b21)])) _
    refine XS.dup X21.here hx rfl (hb hby at_166) rfl rfl ?_
    show Steps p.tables e below (T21.setTop (mkF m 167 #[.val (.int p0), .val (.int p1), .val (.int p2), .val (.int p3), .val (.int c4), .val (.int c5), .val (.int c6), .val (.int c7), .val (.int c8), .val (.int c9), .val (.int tw), .val (.ref b1), .val (.ref r7), .val (.ref r8), .val (.ref r9), .val (.ref r10), .val (.ref b11), .unset, .unset, .unset, .unset, .unset] [(.ref b21), (.ref b21)])) _
    refine XS.bipush X21.here hx rfl (hb hby at_167) ?_
    exact k
  obtain ⟨T22, h22, k22, X22, e22, E22, A22, st22⟩ := newP X21 hx hZ (hw _ (List.mem_of_getElem? (i := 3) rfl)) e21 (g := (mkF m 169 #[.val (.int p0), .val (.int p1), .val (.int p2), .val (.int p3), .val (.int c4), .val (.int c5), .val (.int c6), .val (.int c7), .val (.int c8), .val (.int c9), .val (.int tw), .val (.ref b1), .val (.ref r7), .val (.ref r8), .val (.ref r9), .val (.ref r10), .val (.ref b11), .unset, .unset, .unset, .unset, .unset] [(.int (10 : Int32)), (.ref b21), (.ref b21)])) rfl (hb hby at_169) rfl (by decide) (cap := 10) (by decide) (by decide) (by decide) (by decide)
  obtain ⟨b22, g22⟩ : ∃ z, z = h21.size := ⟨_, rfl⟩
  rw [← g22] at A22 st22
  refine OEnds.st (S' := T22.setTop (mkF m 171 #[.val (.int p0), .val (.int p1), .val (.int p2), .val (.int p3), .val (.int c4), .val (.int c5), .val (.int c6), .val (.int c7), .val (.int c8), .val (.int c9), .val (.int tw), .val (.ref b1), .val (.ref r7), .val (.ref r8), .val (.ref r9), .val (.ref r10), .val (.ref b11), .unset, .unset, .unset, .unset, .unset] [(.ref b22), (.ref b21), (.ref b21)])) st22 ?_
  have ne_b1_b22 : b1 ≠ b22 := Nat.ne_of_lt (Nat.lt_of_lt_of_le A1.lt (Nat.le_of_eq g22.symm))
  have ne_b11_b22 : b11 ≠ b22 := Nat.ne_of_lt (Nat.lt_of_lt_of_le A11.lt (Nat.le_of_eq g22.symm))
  have ne_b21_b22 : b21 ≠ b22 := Nat.ne_of_lt (Nat.lt_of_lt_of_le A21.lt (Nat.le_of_eq g22.symm))
  have ne_r10_b22 : r10 ≠ b22 := Nat.ne_of_lt (Nat.lt_of_lt_of_le Eq10.lt (Nat.le_of_eq g22.symm))
  have ne_r7_b22 : r7 ≠ b22 := Nat.ne_of_lt (Nat.lt_of_lt_of_le Eq7.lt (Nat.le_of_eq g22.symm))
  have ne_r8_b22 : r8 ≠ b22 := Nat.ne_of_lt (Nat.lt_of_lt_of_le Eq8.lt (Nat.le_of_eq g22.symm))
  have ne_r9_b22 : r9 ≠ b22 := Nat.ne_of_lt (Nat.lt_of_lt_of_le Eq9.lt (Nat.le_of_eq g22.symm))
  have ne_t10_b22 : t10 ≠ b22 := Nat.ne_of_lt (Nat.lt_of_lt_of_le V10.lt (Nat.le_of_eq g22.symm))
  have ne_t20_b22 : t20 ≠ b22 := Nat.ne_of_lt (Nat.lt_of_lt_of_le V20.lt (Nat.le_of_eq g22.symm))
  have ne_t6_b22 : t6 ≠ b22 := Nat.ne_of_lt (Nat.lt_of_lt_of_le V6.lt (Nat.le_of_eq g22.symm))
  have ne_t7_b22 : t7 ≠ b22 := Nat.ne_of_lt (Nat.lt_of_lt_of_le V7.lt (Nat.le_of_eq g22.symm))
  have ne_t8_b22 : t8 ≠ b22 := Nat.ne_of_lt (Nat.lt_of_lt_of_le V8.lt (Nat.le_of_eq g22.symm))
  have ne_t9_b22 : t9 ≠ b22 := Nat.ne_of_lt (Nat.lt_of_lt_of_le V9.lt (Nat.le_of_eq g22.symm))
  have ge_b22 : Z.heap.size ≤ b22 := Nat.le_trans O0.1 (Nat.le_of_eq g22.symm)
  replace A1 := A1.ext E22
  replace Fc6 := Fc6.ext E22
  replace Fv6 := Fv6.ext E22
  replace V6 := V6.ext E22
  replace Eq7 := Eq7.ext E22
  replace Fc7 := Fc7.ext E22
  replace Fv7 := Fv7.ext E22
  replace V7 := V7.ext E22
  replace Eq8 := Eq8.ext E22
  replace Fc8 := Fc8.ext E22
  replace Fv8 := Fv8.ext E22
  replace V8 := V8.ext E22
  replace Eq9 := Eq9.ext E22
  replace Fc9 := Fc9.ext E22
  replace Fv9 := Fv9.ext E22
  replace V9 := V9.ext E22
  replace Eq10 := Eq10.ext E22
  replace Fc10 := Fc10.ext E22
  replace Fv10 := Fv10.ext E22
  replace V10 := V10.ext E22
  replace A11 := A11.ext E22
  replace Fc20 := Fc20.ext E22
  replace Fv20 := Fv20.ext E22
  replace V20 := V20.ext E22
  replace A21 := A21.ext E22
  replace F_coder_b21 := F_coder_b21.ext E22
  replace F_value_b21 := F_value_b21.ext E22
  replace O0 : Ext Z.heap h22 := ext_trans O0 E22
  have V_b22 : Arv Z h22 b22 k22 .char (10 : Int32) [(.int (0 : Int32)), (.int (0 : Int32)), (.int (0 : Int32)), (.int (0 : Int32)), (.int (0 : Int32)), (.int (0 : Int32)), (.int (0 : Int32)), (.int (0 : Int32)), (.int (0 : Int32)), (.int (0 : Int32))] (.int (0 : Int32)) := (Arv.new A22 (by decide)).pad (pad_rep [] (.int (0 : Int32)) 10)
  refine OEnds.st (S' := T22.setTop (mkF m 175 #[.val (.int p0), .val (.int p1), .val (.int p2), .val (.int p3), .val (.int c4), .val (.int c5), .val (.int c6), .val (.int c7), .val (.int c8), .val (.int c9), .val (.int tw), .val (.ref b1), .val (.ref r7), .val (.ref r8), .val (.ref r9), .val (.ref r10), .val (.ref b11), .unset, .unset, .unset, .unset, .unset] [(.int c4), (.int (0 : Int32)), (.ref b22), (.ref b22), (.ref b21), (.ref b21)])) (fun _ k => ?_) ?_
  · show Steps p.tables e below (T22.setTop (mkF m 171 #[.val (.int p0), .val (.int p1), .val (.int p2), .val (.int p3), .val (.int c4), .val (.int c5), .val (.int c6), .val (.int c7), .val (.int c8), .val (.int c9), .val (.int tw), .val (.ref b1), .val (.ref r7), .val (.ref r8), .val (.ref r9), .val (.ref r10), .val (.ref b11), .unset, .unset, .unset, .unset, .unset] [(.ref b22), (.ref b21), (.ref b21)])) _
    refine XS.dup X22.here hx rfl (hb hby at_171) rfl rfl ?_
    show Steps p.tables e below (T22.setTop (mkF m 172 #[.val (.int p0), .val (.int p1), .val (.int p2), .val (.int p3), .val (.int c4), .val (.int c5), .val (.int c6), .val (.int c7), .val (.int c8), .val (.int c9), .val (.int tw), .val (.ref b1), .val (.ref r7), .val (.ref r8), .val (.ref r9), .val (.ref r10), .val (.ref b11), .unset, .unset, .unset, .unset, .unset] [(.ref b22), (.ref b22), (.ref b21), (.ref b21)])) _
    refine XS.iconst X22.here hx rfl (hb hby at_172) ?_
    show Steps p.tables e below (T22.setTop (mkF m 173 #[.val (.int p0), .val (.int p1), .val (.int p2), .val (.int p3), .val (.int c4), .val (.int c5), .val (.int c6), .val (.int c7), .val (.int c8), .val (.int c9), .val (.int tw), .val (.ref b1), .val (.ref r7), .val (.ref r8), .val (.ref r9), .val (.ref r10), .val (.ref b11), .unset, .unset, .unset, .unset, .unset] [(.int (0 : Int32)), (.ref b22), (.ref b22), (.ref b21), (.ref b21)])) _
    refine XS.iload X22.here hx rfl (hb hby at_173) rfl ?_
    exact k
  obtain ⟨cl_b22_23, Ar_b22_23, q_b22_23, S_b22_23, N_b22_23, H_b22_23, G_b22_23⟩ := V_b22
  obtain ⟨T23, h23, X23, e23, W23, st23⟩ := stC X22 hx hZ e22 Ar_b22_23 (j := (0 : Int32)) (inb_of S_b22_23 ⟨by decide, by decide⟩) (g := (mkF m 175 #[.val (.int p0), .val (.int p1), .val (.int p2), .val (.int p3), .val (.int c4), .val (.int c5), .val (.int c6), .val (.int c7), .val (.int c8), .val (.int c9), .val (.int tw), .val (.ref b1), .val (.ref r7), .val (.ref r8), .val (.ref r9), .val (.ref r10), .val (.ref b11), .unset, .unset, .unset, .unset, .unset] [(.int c4), (.int (0 : Int32)), (.ref b22), (.ref b22), (.ref b21), (.ref b21)])) rfl rfl (hb hby at_175)
  have V_b22_23 : Arv Z h23 b22 k22 .char (10 : Int32) [(.int (nar .char c4)), (.int (0 : Int32)), (.int (0 : Int32)), (.int (0 : Int32)), (.int (0 : Int32)), (.int (0 : Int32)), (.int (0 : Int32)), (.int (0 : Int32)), (.int (0 : Int32)), (.int (0 : Int32))] (.int (0 : Int32)) := Arv.set Ar_b22_23 q_b22_23 S_b22_23 N_b22_23 H_b22_23 G_b22_23 (fits_nar_char _) W23 0 rfl (Nat.le_of_ble_eq_true rfl)
  refine OEnds.st (S' := T23.setTop (mkF m 176 #[.val (.int p0), .val (.int p1), .val (.int p2), .val (.int p3), .val (.int c4), .val (.int c5), .val (.int c6), .val (.int c7), .val (.int c8), .val (.int c9), .val (.int tw), .val (.ref b1), .val (.ref r7), .val (.ref r8), .val (.ref r9), .val (.ref r10), .val (.ref b11), .unset, .unset, .unset, .unset, .unset] [(.ref b22), (.ref b21), (.ref b21)])) st23 ?_
  replace A1 := A1.wr W23
  replace Fc6 := Fc6.other W23 (Or.inl ne_b1_b22)
  replace Fv6 := Fv6.other W23 (Or.inl ne_b1_b22)
  replace V6 := V6.other W23 ne_t6_b22
  replace Eq7 := Eq7.wr W23
  replace Fc7 := Fc7.other W23 (Or.inl ne_r7_b22)
  replace Fv7 := Fv7.other W23 (Or.inl ne_r7_b22)
  replace V7 := V7.other W23 ne_t7_b22
  replace Eq8 := Eq8.wr W23
  replace Fc8 := Fc8.other W23 (Or.inl ne_r8_b22)
  replace Fv8 := Fv8.other W23 (Or.inl ne_r8_b22)
  replace V8 := V8.other W23 ne_t8_b22
  replace Eq9 := Eq9.wr W23
  replace Fc9 := Fc9.other W23 (Or.inl ne_r9_b22)
  replace Fv9 := Fv9.other W23 (Or.inl ne_r9_b22)
  replace V9 := V9.other W23 ne_t9_b22
  replace Eq10 := Eq10.wr W23
  replace Fc10 := Fc10.other W23 (Or.inl ne_r10_b22)
  replace Fv10 := Fv10.other W23 (Or.inl ne_r10_b22)
  replace V10 := V10.other W23 ne_t10_b22
  replace A11 := A11.wr W23
  replace Fc20 := Fc20.other W23 (Or.inl ne_b11_b22)
  replace Fv20 := Fv20.other W23 (Or.inl ne_b11_b22)
  replace V20 := V20.other W23 ne_t20_b22
  replace A21 := A21.wr W23
  replace F_coder_b21 := F_coder_b21.other W23 (Or.inl ne_b21_b22)
  replace F_value_b21 := F_value_b21.other W23 (Or.inl ne_b21_b22)
  replace O0 : Ext Z.heap h23 := ext_wr O0 W23 ge_b22
  replace N0 := Fr.snoc X23 N0 ge_b22
  refine OEnds.st (S' := T23.setTop (mkF m 180 #[.val (.int p0), .val (.int p1), .val (.int p2), .val (.int p3), .val (.int c4), .val (.int c5), .val (.int c6), .val (.int c7), .val (.int c8), .val (.int c9), .val (.int tw), .val (.ref b1), .val (.ref r7), .val (.ref r8), .val (.ref r9), .val (.ref r10), .val (.ref b11), .unset, .unset, .unset, .unset, .unset] [(.int c5), (.int (1 : Int32)), (.ref b22), (.ref b22), (.ref b21), (.ref b21)])) (fun _ k => ?_) ?_
  · show Steps p.tables e below (T23.setTop (mkF m 176 #[.val (.int p0), .val (.int p1), .val (.int p2), .val (.int p3), .val (.int c4), .val (.int c5), .val (.int c6), .val (.int c7), .val (.int c8), .val (.int c9), .val (.int tw), .val (.ref b1), .val (.ref r7), .val (.ref r8), .val (.ref r9), .val (.ref r10), .val (.ref b11), .unset, .unset, .unset, .unset, .unset] [(.ref b22), (.ref b21), (.ref b21)])) _
    refine XS.dup X23.here hx rfl (hb hby at_176) rfl rfl ?_
    show Steps p.tables e below (T23.setTop (mkF m 177 #[.val (.int p0), .val (.int p1), .val (.int p2), .val (.int p3), .val (.int c4), .val (.int c5), .val (.int c6), .val (.int c7), .val (.int c8), .val (.int c9), .val (.int tw), .val (.ref b1), .val (.ref r7), .val (.ref r8), .val (.ref r9), .val (.ref r10), .val (.ref b11), .unset, .unset, .unset, .unset, .unset] [(.ref b22), (.ref b22), (.ref b21), (.ref b21)])) _
    refine XS.iconst X23.here hx rfl (hb hby at_177) ?_
    show Steps p.tables e below (T23.setTop (mkF m 178 #[.val (.int p0), .val (.int p1), .val (.int p2), .val (.int p3), .val (.int c4), .val (.int c5), .val (.int c6), .val (.int c7), .val (.int c8), .val (.int c9), .val (.int tw), .val (.ref b1), .val (.ref r7), .val (.ref r8), .val (.ref r9), .val (.ref r10), .val (.ref b11), .unset, .unset, .unset, .unset, .unset] [(.int (1 : Int32)), (.ref b22), (.ref b22), (.ref b21), (.ref b21)])) _
    refine XS.iload X23.here hx rfl (hb hby at_178) rfl ?_
    exact k
  obtain ⟨cl_b22_24, Ar_b22_24, q_b22_24, S_b22_24, N_b22_24, H_b22_24, G_b22_24⟩ := V_b22_23
  obtain ⟨T24, h24, X24, e24, W24, st24⟩ := stC X23 hx hZ e23 Ar_b22_24 (j := (1 : Int32)) (inb_of S_b22_24 ⟨by decide, by decide⟩) (g := (mkF m 180 #[.val (.int p0), .val (.int p1), .val (.int p2), .val (.int p3), .val (.int c4), .val (.int c5), .val (.int c6), .val (.int c7), .val (.int c8), .val (.int c9), .val (.int tw), .val (.ref b1), .val (.ref r7), .val (.ref r8), .val (.ref r9), .val (.ref r10), .val (.ref b11), .unset, .unset, .unset, .unset, .unset] [(.int c5), (.int (1 : Int32)), (.ref b22), (.ref b22), (.ref b21), (.ref b21)])) rfl rfl (hb hby at_180)
  have V_b22_24 : Arv Z h24 b22 k22 .char (10 : Int32) [(.int (nar .char c4)), (.int (nar .char c5)), (.int (0 : Int32)), (.int (0 : Int32)), (.int (0 : Int32)), (.int (0 : Int32)), (.int (0 : Int32)), (.int (0 : Int32)), (.int (0 : Int32)), (.int (0 : Int32))] (.int (0 : Int32)) := Arv.set Ar_b22_24 q_b22_24 S_b22_24 N_b22_24 H_b22_24 G_b22_24 (fits_nar_char _) W24 1 rfl (Nat.le_of_ble_eq_true rfl)
  refine OEnds.st (S' := T24.setTop (mkF m 181 #[.val (.int p0), .val (.int p1), .val (.int p2), .val (.int p3), .val (.int c4), .val (.int c5), .val (.int c6), .val (.int c7), .val (.int c8), .val (.int c9), .val (.int tw), .val (.ref b1), .val (.ref r7), .val (.ref r8), .val (.ref r9), .val (.ref r10), .val (.ref b11), .unset, .unset, .unset, .unset, .unset] [(.ref b22), (.ref b21), (.ref b21)])) st24 ?_
  replace A1 := A1.wr W24
  replace Fc6 := Fc6.other W24 (Or.inl ne_b1_b22)
  replace Fv6 := Fv6.other W24 (Or.inl ne_b1_b22)
  replace V6 := V6.other W24 ne_t6_b22
  replace Eq7 := Eq7.wr W24
  replace Fc7 := Fc7.other W24 (Or.inl ne_r7_b22)
  replace Fv7 := Fv7.other W24 (Or.inl ne_r7_b22)
  replace V7 := V7.other W24 ne_t7_b22
  replace Eq8 := Eq8.wr W24
  replace Fc8 := Fc8.other W24 (Or.inl ne_r8_b22)
  replace Fv8 := Fv8.other W24 (Or.inl ne_r8_b22)
  replace V8 := V8.other W24 ne_t8_b22
  replace Eq9 := Eq9.wr W24
  replace Fc9 := Fc9.other W24 (Or.inl ne_r9_b22)
  replace Fv9 := Fv9.other W24 (Or.inl ne_r9_b22)
  replace V9 := V9.other W24 ne_t9_b22
  replace Eq10 := Eq10.wr W24
  replace Fc10 := Fc10.other W24 (Or.inl ne_r10_b22)
  replace Fv10 := Fv10.other W24 (Or.inl ne_r10_b22)
  replace V10 := V10.other W24 ne_t10_b22
  replace A11 := A11.wr W24
  replace Fc20 := Fc20.other W24 (Or.inl ne_b11_b22)
  replace Fv20 := Fv20.other W24 (Or.inl ne_b11_b22)
  replace V20 := V20.other W24 ne_t20_b22
  replace A21 := A21.wr W24
  replace F_coder_b21 := F_coder_b21.other W24 (Or.inl ne_b21_b22)
  replace F_value_b21 := F_value_b21.other W24 (Or.inl ne_b21_b22)
  replace O0 : Ext Z.heap h24 := ext_wr O0 W24 ge_b22
  replace N0 := Fr.snoc X24 N0 ge_b22
  refine OEnds.st (S' := T24.setTop (mkF m 185 #[.val (.int p0), .val (.int p1), .val (.int p2), .val (.int p3), .val (.int c4), .val (.int c5), .val (.int c6), .val (.int c7), .val (.int c8), .val (.int c9), .val (.int tw), .val (.ref b1), .val (.ref r7), .val (.ref r8), .val (.ref r9), .val (.ref r10), .val (.ref b11), .unset, .unset, .unset, .unset, .unset] [(.int (32 : Int32)), (.int (2 : Int32)), (.ref b22), (.ref b22), (.ref b21), (.ref b21)])) (fun _ k => ?_) ?_
  · show Steps p.tables e below (T24.setTop (mkF m 181 #[.val (.int p0), .val (.int p1), .val (.int p2), .val (.int p3), .val (.int c4), .val (.int c5), .val (.int c6), .val (.int c7), .val (.int c8), .val (.int c9), .val (.int tw), .val (.ref b1), .val (.ref r7), .val (.ref r8), .val (.ref r9), .val (.ref r10), .val (.ref b11), .unset, .unset, .unset, .unset, .unset] [(.ref b22), (.ref b21), (.ref b21)])) _
    refine XS.dup X24.here hx rfl (hb hby at_181) rfl rfl ?_
    show Steps p.tables e below (T24.setTop (mkF m 182 #[.val (.int p0), .val (.int p1), .val (.int p2), .val (.int p3), .val (.int c4), .val (.int c5), .val (.int c6), .val (.int c7), .val (.int c8), .val (.int c9), .val (.int tw), .val (.ref b1), .val (.ref r7), .val (.ref r8), .val (.ref r9), .val (.ref r10), .val (.ref b11), .unset, .unset, .unset, .unset, .unset] [(.ref b22), (.ref b22), (.ref b21), (.ref b21)])) _
    refine XS.iconst X24.here hx rfl (hb hby at_182) ?_
    show Steps p.tables e below (T24.setTop (mkF m 183 #[.val (.int p0), .val (.int p1), .val (.int p2), .val (.int p3), .val (.int c4), .val (.int c5), .val (.int c6), .val (.int c7), .val (.int c8), .val (.int c9), .val (.int tw), .val (.ref b1), .val (.ref r7), .val (.ref r8), .val (.ref r9), .val (.ref r10), .val (.ref b11), .unset, .unset, .unset, .unset, .unset] [(.int (2 : Int32)), (.ref b22), (.ref b22), (.ref b21), (.ref b21)])) _
    refine XS.bipush X24.here hx rfl (hb hby at_183) ?_
    exact k
  obtain ⟨cl_b22_25, Ar_b22_25, q_b22_25, S_b22_25, N_b22_25, H_b22_25, G_b22_25⟩ := V_b22_24
  obtain ⟨T25, h25, X25, e25, W25, st25⟩ := stC X24 hx hZ e24 Ar_b22_25 (j := (2 : Int32)) (inb_of S_b22_25 ⟨by decide, by decide⟩) (g := (mkF m 185 #[.val (.int p0), .val (.int p1), .val (.int p2), .val (.int p3), .val (.int c4), .val (.int c5), .val (.int c6), .val (.int c7), .val (.int c8), .val (.int c9), .val (.int tw), .val (.ref b1), .val (.ref r7), .val (.ref r8), .val (.ref r9), .val (.ref r10), .val (.ref b11), .unset, .unset, .unset, .unset, .unset] [(.int (32 : Int32)), (.int (2 : Int32)), (.ref b22), (.ref b22), (.ref b21), (.ref b21)])) rfl rfl (hb hby at_185)
  have V_b22_25 : Arv Z h25 b22 k22 .char (10 : Int32) [(.int (nar .char c4)), (.int (nar .char c5)), (.int (nar .char (32 : Int32))), (.int (0 : Int32)), (.int (0 : Int32)), (.int (0 : Int32)), (.int (0 : Int32)), (.int (0 : Int32)), (.int (0 : Int32)), (.int (0 : Int32))] (.int (0 : Int32)) := Arv.set Ar_b22_25 q_b22_25 S_b22_25 N_b22_25 H_b22_25 G_b22_25 (fits_nar_char _) W25 2 rfl (Nat.le_of_ble_eq_true rfl)
  refine OEnds.st (S' := T25.setTop (mkF m 186 #[.val (.int p0), .val (.int p1), .val (.int p2), .val (.int p3), .val (.int c4), .val (.int c5), .val (.int c6), .val (.int c7), .val (.int c8), .val (.int c9), .val (.int tw), .val (.ref b1), .val (.ref r7), .val (.ref r8), .val (.ref r9), .val (.ref r10), .val (.ref b11), .unset, .unset, .unset, .unset, .unset] [(.ref b22), (.ref b21), (.ref b21)])) st25 ?_
  replace A1 := A1.wr W25
  replace Fc6 := Fc6.other W25 (Or.inl ne_b1_b22)
  replace Fv6 := Fv6.other W25 (Or.inl ne_b1_b22)
  replace V6 := V6.other W25 ne_t6_b22
  replace Eq7 := Eq7.wr W25
  replace Fc7 := Fc7.other W25 (Or.inl ne_r7_b22)
  replace Fv7 := Fv7.other W25 (Or.inl ne_r7_b22)
  replace V7 := V7.other W25 ne_t7_b22
  replace Eq8 := Eq8.wr W25
  replace Fc8 := Fc8.other W25 (Or.inl ne_r8_b22)
  replace Fv8 := Fv8.other W25 (Or.inl ne_r8_b22)
  replace V8 := V8.other W25 ne_t8_b22
  replace Eq9 := Eq9.wr W25
  replace Fc9 := Fc9.other W25 (Or.inl ne_r9_b22)
  replace Fv9 := Fv9.other W25 (Or.inl ne_r9_b22)
  replace V9 := V9.other W25 ne_t9_b22
  replace Eq10 := Eq10.wr W25
  replace Fc10 := Fc10.other W25 (Or.inl ne_r10_b22)
  replace Fv10 := Fv10.other W25 (Or.inl ne_r10_b22)
  replace V10 := V10.other W25 ne_t10_b22
  replace A11 := A11.wr W25
  replace Fc20 := Fc20.other W25 (Or.inl ne_b11_b22)
  replace Fv20 := Fv20.other W25 (Or.inl ne_b11_b22)
  replace V20 := V20.other W25 ne_t20_b22
  replace A21 := A21.wr W25
  replace F_coder_b21 := F_coder_b21.other W25 (Or.inl ne_b21_b22)
  replace F_value_b21 := F_value_b21.other W25 (Or.inl ne_b21_b22)
  replace O0 : Ext Z.heap h25 := ext_wr O0 W25 ge_b22
  replace N0 := Fr.snoc X25 N0 ge_b22
  refine OEnds.st (S' := T25.setTop (mkF m 190 #[.val (.int p0), .val (.int p1), .val (.int p2), .val (.int p3), .val (.int c4), .val (.int c5), .val (.int c6), .val (.int c7), .val (.int c8), .val (.int c9), .val (.int tw), .val (.ref b1), .val (.ref r7), .val (.ref r8), .val (.ref r9), .val (.ref r10), .val (.ref b11), .unset, .unset, .unset, .unset, .unset] [(.int c6), (.int (3 : Int32)), (.ref b22), (.ref b22), (.ref b21), (.ref b21)])) (fun _ k => ?_) ?_
  · show Steps p.tables e below (T25.setTop (mkF m 186 #[.val (.int p0), .val (.int p1), .val (.int p2), .val (.int p3), .val (.int c4), .val (.int c5), .val (.int c6), .val (.int c7), .val (.int c8), .val (.int c9), .val (.int tw), .val (.ref b1), .val (.ref r7), .val (.ref r8), .val (.ref r9), .val (.ref r10), .val (.ref b11), .unset, .unset, .unset, .unset, .unset] [(.ref b22), (.ref b21), (.ref b21)])) _
    refine XS.dup X25.here hx rfl (hb hby at_186) rfl rfl ?_
    show Steps p.tables e below (T25.setTop (mkF m 187 #[.val (.int p0), .val (.int p1), .val (.int p2), .val (.int p3), .val (.int c4), .val (.int c5), .val (.int c6), .val (.int c7), .val (.int c8), .val (.int c9), .val (.int tw), .val (.ref b1), .val (.ref r7), .val (.ref r8), .val (.ref r9), .val (.ref r10), .val (.ref b11), .unset, .unset, .unset, .unset, .unset] [(.ref b22), (.ref b22), (.ref b21), (.ref b21)])) _
    refine XS.iconst X25.here hx rfl (hb hby at_187) ?_
    show Steps p.tables e below (T25.setTop (mkF m 188 #[.val (.int p0), .val (.int p1), .val (.int p2), .val (.int p3), .val (.int c4), .val (.int c5), .val (.int c6), .val (.int c7), .val (.int c8), .val (.int c9), .val (.int tw), .val (.ref b1), .val (.ref r7), .val (.ref r8), .val (.ref r9), .val (.ref r10), .val (.ref b11), .unset, .unset, .unset, .unset, .unset] [(.int (3 : Int32)), (.ref b22), (.ref b22), (.ref b21), (.ref b21)])) _
    refine XS.iload X25.here hx rfl (hb hby at_188) rfl ?_
    exact k
  obtain ⟨cl_b22_26, Ar_b22_26, q_b22_26, S_b22_26, N_b22_26, H_b22_26, G_b22_26⟩ := V_b22_25
  obtain ⟨T26, h26, X26, e26, W26, st26⟩ := stC X25 hx hZ e25 Ar_b22_26 (j := (3 : Int32)) (inb_of S_b22_26 ⟨by decide, by decide⟩) (g := (mkF m 190 #[.val (.int p0), .val (.int p1), .val (.int p2), .val (.int p3), .val (.int c4), .val (.int c5), .val (.int c6), .val (.int c7), .val (.int c8), .val (.int c9), .val (.int tw), .val (.ref b1), .val (.ref r7), .val (.ref r8), .val (.ref r9), .val (.ref r10), .val (.ref b11), .unset, .unset, .unset, .unset, .unset] [(.int c6), (.int (3 : Int32)), (.ref b22), (.ref b22), (.ref b21), (.ref b21)])) rfl rfl (hb hby at_190)
  have V_b22_26 : Arv Z h26 b22 k22 .char (10 : Int32) [(.int (nar .char c4)), (.int (nar .char c5)), (.int (nar .char (32 : Int32))), (.int (nar .char c6)), (.int (0 : Int32)), (.int (0 : Int32)), (.int (0 : Int32)), (.int (0 : Int32)), (.int (0 : Int32)), (.int (0 : Int32))] (.int (0 : Int32)) := Arv.set Ar_b22_26 q_b22_26 S_b22_26 N_b22_26 H_b22_26 G_b22_26 (fits_nar_char _) W26 3 rfl (Nat.le_of_ble_eq_true rfl)
  refine OEnds.st (S' := T26.setTop (mkF m 191 #[.val (.int p0), .val (.int p1), .val (.int p2), .val (.int p3), .val (.int c4), .val (.int c5), .val (.int c6), .val (.int c7), .val (.int c8), .val (.int c9), .val (.int tw), .val (.ref b1), .val (.ref r7), .val (.ref r8), .val (.ref r9), .val (.ref r10), .val (.ref b11), .unset, .unset, .unset, .unset, .unset] [(.ref b22), (.ref b21), (.ref b21)])) st26 ?_
  replace A1 := A1.wr W26
  replace Fc6 := Fc6.other W26 (Or.inl ne_b1_b22)
  replace Fv6 := Fv6.other W26 (Or.inl ne_b1_b22)
  replace V6 := V6.other W26 ne_t6_b22
  replace Eq7 := Eq7.wr W26
  replace Fc7 := Fc7.other W26 (Or.inl ne_r7_b22)
  replace Fv7 := Fv7.other W26 (Or.inl ne_r7_b22)
  replace V7 := V7.other W26 ne_t7_b22
  replace Eq8 := Eq8.wr W26
  replace Fc8 := Fc8.other W26 (Or.inl ne_r8_b22)
  replace Fv8 := Fv8.other W26 (Or.inl ne_r8_b22)
  replace V8 := V8.other W26 ne_t8_b22
  replace Eq9 := Eq9.wr W26
  replace Fc9 := Fc9.other W26 (Or.inl ne_r9_b22)
  replace Fv9 := Fv9.other W26 (Or.inl ne_r9_b22)
  replace V9 := V9.other W26 ne_t9_b22
  replace Eq10 := Eq10.wr W26
  replace Fc10 := Fc10.other W26 (Or.inl ne_r10_b22)
  replace Fv10 := Fv10.other W26 (Or.inl ne_r10_b22)
  replace V10 := V10.other W26 ne_t10_b22
  replace A11 := A11.wr W26
  replace Fc20 := Fc20.other W26 (Or.inl ne_b11_b22)
  replace Fv20 := Fv20.other W26 (Or.inl ne_b11_b22)
  replace V20 := V20.other W26 ne_t20_b22
  replace A21 := A21.wr W26
  replace F_coder_b21 := F_coder_b21.other W26 (Or.inl ne_b21_b22)
  replace F_value_b21 := F_value_b21.other W26 (Or.inl ne_b21_b22)
  replace O0 : Ext Z.heap h26 := ext_wr O0 W26 ge_b22
  replace N0 := Fr.snoc X26 N0 ge_b22
  refine OEnds.st (S' := T26.setTop (mkF m 195 #[.val (.int p0), .val (.int p1), .val (.int p2), .val (.int p3), .val (.int c4), .val (.int c5), .val (.int c6), .val (.int c7), .val (.int c8), .val (.int c9), .val (.int tw), .val (.ref b1), .val (.ref r7), .val (.ref r8), .val (.ref r9), .val (.ref r10), .val (.ref b11), .unset, .unset, .unset, .unset, .unset] [(.int (61 : Int32)), (.int (4 : Int32)), (.ref b22), (.ref b22), (.ref b21), (.ref b21)])) (fun _ k => ?_) ?_
  · show Steps p.tables e below (T26.setTop (mkF m 191 #[.val (.int p0), .val (.int p1), .val (.int p2), .val (.int p3), .val (.int c4), .val (.int c5), .val (.int c6), .val (.int c7), .val (.int c8), .val (.int c9), .val (.int tw), .val (.ref b1), .val (.ref r7), .val (.ref r8), .val (.ref r9), .val (.ref r10), .val (.ref b11), .unset, .unset, .unset, .unset, .unset] [(.ref b22), (.ref b21), (.ref b21)])) _
    refine XS.dup X26.here hx rfl (hb hby at_191) rfl rfl ?_
    show Steps p.tables e below (T26.setTop (mkF m 192 #[.val (.int p0), .val (.int p1), .val (.int p2), .val (.int p3), .val (.int c4), .val (.int c5), .val (.int c6), .val (.int c7), .val (.int c8), .val (.int c9), .val (.int tw), .val (.ref b1), .val (.ref r7), .val (.ref r8), .val (.ref r9), .val (.ref r10), .val (.ref b11), .unset, .unset, .unset, .unset, .unset] [(.ref b22), (.ref b22), (.ref b21), (.ref b21)])) _
    refine XS.iconst X26.here hx rfl (hb hby at_192) ?_
    show Steps p.tables e below (T26.setTop (mkF m 193 #[.val (.int p0), .val (.int p1), .val (.int p2), .val (.int p3), .val (.int c4), .val (.int c5), .val (.int c6), .val (.int c7), .val (.int c8), .val (.int c9), .val (.int tw), .val (.ref b1), .val (.ref r7), .val (.ref r8), .val (.ref r9), .val (.ref r10), .val (.ref b11), .unset, .unset, .unset, .unset, .unset] [(.int (4 : Int32)), (.ref b22), (.ref b22), (.ref b21), (.ref b21)])) _
    refine XS.bipush X26.here hx rfl (hb hby at_193) ?_
    exact k
  obtain ⟨cl_b22_27, Ar_b22_27, q_b22_27, S_b22_27, N_b22_27, H_b22_27, G_b22_27⟩ := V_b22_26
  obtain ⟨T27, h27, X27, e27, W27, st27⟩ := stC X26 hx hZ e26 Ar_b22_27 (j := (4 : Int32)) (inb_of S_b22_27 ⟨by decide, by decide⟩) (g := (mkF m 195 #[.val (.int p0), .val (.int p1), .val (.int p2), .val (.int p3), .val (.int c4), .val (.int c5), .val (.int c6), .val (.int c7), .val (.int c8), .val (.int c9), .val (.int tw), .val (.ref b1), .val (.ref r7), .val (.ref r8), .val (.ref r9), .val (.ref r10), .val (.ref b11), .unset, .unset, .unset, .unset, .unset] [(.int (61 : Int32)), (.int (4 : Int32)), (.ref b22), (.ref b22), (.ref b21), (.ref b21)])) rfl rfl (hb hby at_195)
  have V_b22_27 : Arv Z h27 b22 k22 .char (10 : Int32) [(.int (nar .char c4)), (.int (nar .char c5)), (.int (nar .char (32 : Int32))), (.int (nar .char c6)), (.int (nar .char (61 : Int32))), (.int (0 : Int32)), (.int (0 : Int32)), (.int (0 : Int32)), (.int (0 : Int32)), (.int (0 : Int32))] (.int (0 : Int32)) := Arv.set Ar_b22_27 q_b22_27 S_b22_27 N_b22_27 H_b22_27 G_b22_27 (fits_nar_char _) W27 4 rfl (Nat.le_of_ble_eq_true rfl)
  refine OEnds.st (S' := T27.setTop (mkF m 196 #[.val (.int p0), .val (.int p1), .val (.int p2), .val (.int p3), .val (.int c4), .val (.int c5), .val (.int c6), .val (.int c7), .val (.int c8), .val (.int c9), .val (.int tw), .val (.ref b1), .val (.ref r7), .val (.ref r8), .val (.ref r9), .val (.ref r10), .val (.ref b11), .unset, .unset, .unset, .unset, .unset] [(.ref b22), (.ref b21), (.ref b21)])) st27 ?_
  replace A1 := A1.wr W27
  replace Fc6 := Fc6.other W27 (Or.inl ne_b1_b22)
  replace Fv6 := Fv6.other W27 (Or.inl ne_b1_b22)
  replace V6 := V6.other W27 ne_t6_b22
  replace Eq7 := Eq7.wr W27
  replace Fc7 := Fc7.other W27 (Or.inl ne_r7_b22)
  replace Fv7 := Fv7.other W27 (Or.inl ne_r7_b22)
  replace V7 := V7.other W27 ne_t7_b22
  replace Eq8 := Eq8.wr W27
  replace Fc8 := Fc8.other W27 (Or.inl ne_r8_b22)
  replace Fv8 := Fv8.other W27 (Or.inl ne_r8_b22)
  replace V8 := V8.other W27 ne_t8_b22
  replace Eq9 := Eq9.wr W27
  replace Fc9 := Fc9.other W27 (Or.inl ne_r9_b22)
  replace Fv9 := Fv9.other W27 (Or.inl ne_r9_b22)
  replace V9 := V9.other W27 ne_t9_b22
  replace Eq10 := Eq10.wr W27
  replace Fc10 := Fc10.other W27 (Or.inl ne_r10_b22)
  replace Fv10 := Fv10.other W27 (Or.inl ne_r10_b22)
  replace V10 := V10.other W27 ne_t10_b22
  replace A11 := A11.wr W27
  replace Fc20 := Fc20.other W27 (Or.inl ne_b11_b22)
  replace Fv20 := Fv20.other W27 (Or.inl ne_b11_b22)
  replace V20 := V20.other W27 ne_t20_b22
  replace A21 := A21.wr W27
  replace F_coder_b21 := F_coder_b21.other W27 (Or.inl ne_b21_b22)
  replace F_value_b21 := F_value_b21.other W27 (Or.inl ne_b21_b22)
  replace O0 : Ext Z.heap h27 := ext_wr O0 W27 ge_b22
  replace N0 := Fr.snoc X27 N0 ge_b22
  refine OEnds.st (S' := T27.setTop (mkF m 200 #[.val (.int p0), .val (.int p1), .val (.int p2), .val (.int p3), .val (.int c4), .val (.int c5), .val (.int c6), .val (.int c7), .val (.int c8), .val (.int c9), .val (.int tw), .val (.ref b1), .val (.ref r7), .val (.ref r8), .val (.ref r9), .val (.ref r10), .val (.ref b11), .unset, .unset, .unset, .unset, .unset] [(.int c7), (.int (5 : Int32)), (.ref b22), (.ref b22), (.ref b21), (.ref b21)])) (fun _ k => ?_) ?_
  · show Steps p.tables e below (T27.setTop (mkF m 196 #[.val (.int p0), .val (.int p1), .val (.int p2), .val (.int p3), .val (.int c4), .val (.int c5), .val (.int c6), .val (.int c7), .val (.int c8), .val (.int c9), .val (.int tw), .val (.ref b1), .val (.ref r7), .val (.ref r8), .val (.ref r9), .val (.ref r10), .val (.ref b11), .unset, .unset, .unset, .unset, .unset] [(.ref b22), (.ref b21), (.ref b21)])) _
    refine XS.dup X27.here hx rfl (hb hby at_196) rfl rfl ?_
    show Steps p.tables e below (T27.setTop (mkF m 197 #[.val (.int p0), .val (.int p1), .val (.int p2), .val (.int p3), .val (.int c4), .val (.int c5), .val (.int c6), .val (.int c7), .val (.int c8), .val (.int c9), .val (.int tw), .val (.ref b1), .val (.ref r7), .val (.ref r8), .val (.ref r9), .val (.ref r10), .val (.ref b11), .unset, .unset, .unset, .unset, .unset] [(.ref b22), (.ref b22), (.ref b21), (.ref b21)])) _
    refine XS.iconst X27.here hx rfl (hb hby at_197) ?_
    show Steps p.tables e below (T27.setTop (mkF m 198 #[.val (.int p0), .val (.int p1), .val (.int p2), .val (.int p3), .val (.int c4), .val (.int c5), .val (.int c6), .val (.int c7), .val (.int c8), .val (.int c9), .val (.int tw), .val (.ref b1), .val (.ref r7), .val (.ref r8), .val (.ref r9), .val (.ref r10), .val (.ref b11), .unset, .unset, .unset, .unset, .unset] [(.int (5 : Int32)), (.ref b22), (.ref b22), (.ref b21), (.ref b21)])) _
    refine XS.iload X27.here hx rfl (hb hby at_198) rfl ?_
    exact k
  obtain ⟨cl_b22_28, Ar_b22_28, q_b22_28, S_b22_28, N_b22_28, H_b22_28, G_b22_28⟩ := V_b22_27
  obtain ⟨T28, h28, X28, e28, W28, st28⟩ := stC X27 hx hZ e27 Ar_b22_28 (j := (5 : Int32)) (inb_of S_b22_28 ⟨by decide, by decide⟩) (g := (mkF m 200 #[.val (.int p0), .val (.int p1), .val (.int p2), .val (.int p3), .val (.int c4), .val (.int c5), .val (.int c6), .val (.int c7), .val (.int c8), .val (.int c9), .val (.int tw), .val (.ref b1), .val (.ref r7), .val (.ref r8), .val (.ref r9), .val (.ref r10), .val (.ref b11), .unset, .unset, .unset, .unset, .unset] [(.int c7), (.int (5 : Int32)), (.ref b22), (.ref b22), (.ref b21), (.ref b21)])) rfl rfl (hb hby at_200)
  have V_b22_28 : Arv Z h28 b22 k22 .char (10 : Int32) [(.int (nar .char c4)), (.int (nar .char c5)), (.int (nar .char (32 : Int32))), (.int (nar .char c6)), (.int (nar .char (61 : Int32))), (.int (nar .char c7)), (.int (0 : Int32)), (.int (0 : Int32)), (.int (0 : Int32)), (.int (0 : Int32))] (.int (0 : Int32)) := Arv.set Ar_b22_28 q_b22_28 S_b22_28 N_b22_28 H_b22_28 G_b22_28 (fits_nar_char _) W28 5 rfl (Nat.le_of_ble_eq_true rfl)
  refine OEnds.st (S' := T28.setTop (mkF m 201 #[.val (.int p0), .val (.int p1), .val (.int p2), .val (.int p3), .val (.int c4), .val (.int c5), .val (.int c6), .val (.int c7), .val (.int c8), .val (.int c9), .val (.int tw), .val (.ref b1), .val (.ref r7), .val (.ref r8), .val (.ref r9), .val (.ref r10), .val (.ref b11), .unset, .unset, .unset, .unset, .unset] [(.ref b22), (.ref b21), (.ref b21)])) st28 ?_
  replace A1 := A1.wr W28
  replace Fc6 := Fc6.other W28 (Or.inl ne_b1_b22)
  replace Fv6 := Fv6.other W28 (Or.inl ne_b1_b22)
  replace V6 := V6.other W28 ne_t6_b22
  replace Eq7 := Eq7.wr W28
  replace Fc7 := Fc7.other W28 (Or.inl ne_r7_b22)
  replace Fv7 := Fv7.other W28 (Or.inl ne_r7_b22)
  replace V7 := V7.other W28 ne_t7_b22
  replace Eq8 := Eq8.wr W28
  replace Fc8 := Fc8.other W28 (Or.inl ne_r8_b22)
  replace Fv8 := Fv8.other W28 (Or.inl ne_r8_b22)
  replace V8 := V8.other W28 ne_t8_b22
  replace Eq9 := Eq9.wr W28
  replace Fc9 := Fc9.other W28 (Or.inl ne_r9_b22)
  replace Fv9 := Fv9.other W28 (Or.inl ne_r9_b22)
  replace V9 := V9.other W28 ne_t9_b22
  replace Eq10 := Eq10.wr W28
  replace Fc10 := Fc10.other W28 (Or.inl ne_r10_b22)
  replace Fv10 := Fv10.other W28 (Or.inl ne_r10_b22)
  replace V10 := V10.other W28 ne_t10_b22
  replace A11 := A11.wr W28
  replace Fc20 := Fc20.other W28 (Or.inl ne_b11_b22)
  replace Fv20 := Fv20.other W28 (Or.inl ne_b11_b22)
  replace V20 := V20.other W28 ne_t20_b22
  replace A21 := A21.wr W28
  replace F_coder_b21 := F_coder_b21.other W28 (Or.inl ne_b21_b22)
  replace F_value_b21 := F_value_b21.other W28 (Or.inl ne_b21_b22)
  replace O0 : Ext Z.heap h28 := ext_wr O0 W28 ge_b22
  replace N0 := Fr.snoc X28 N0 ge_b22
  refine OEnds.st (S' := T28.setTop (mkF m 206 #[.val (.int p0), .val (.int p1), .val (.int p2), .val (.int p3), .val (.int c4), .val (.int c5), .val (.int c6), .val (.int c7), .val (.int c8), .val (.int c9), .val (.int tw), .val (.ref b1), .val (.ref r7), .val (.ref r8), .val (.ref r9), .val (.ref r10), .val (.ref b11), .unset, .unset, .unset, .unset, .unset] [(.int (32 : Int32)), (.int (6 : Int32)), (.ref b22), (.ref b22), (.ref b21), (.ref b21)])) (fun _ k => ?_) ?_
  · show Steps p.tables e below (T28.setTop (mkF m 201 #[.val (.int p0), .val (.int p1), .val (.int p2), .val (.int p3), .val (.int c4), .val (.int c5), .val (.int c6), .val (.int c7), .val (.int c8), .val (.int c9), .val (.int tw), .val (.ref b1), .val (.ref r7), .val (.ref r8), .val (.ref r9), .val (.ref r10), .val (.ref b11), .unset, .unset, .unset, .unset, .unset] [(.ref b22), (.ref b21), (.ref b21)])) _
    refine XS.dup X28.here hx rfl (hb hby at_201) rfl rfl ?_
    show Steps p.tables e below (T28.setTop (mkF m 202 #[.val (.int p0), .val (.int p1), .val (.int p2), .val (.int p3), .val (.int c4), .val (.int c5), .val (.int c6), .val (.int c7), .val (.int c8), .val (.int c9), .val (.int tw), .val (.ref b1), .val (.ref r7), .val (.ref r8), .val (.ref r9), .val (.ref r10), .val (.ref b11), .unset, .unset, .unset, .unset, .unset] [(.ref b22), (.ref b22), (.ref b21), (.ref b21)])) _
    refine XS.bipush X28.here hx rfl (hb hby at_202) ?_
    show Steps p.tables e below (T28.setTop (mkF m 204 #[.val (.int p0), .val (.int p1), .val (.int p2), .val (.int p3), .val (.int c4), .val (.int c5), .val (.int c6), .val (.int c7), .val (.int c8), .val (.int c9), .val (.int tw), .val (.ref b1), .val (.ref r7), .val (.ref r8), .val (.ref r9), .val (.ref r10), .val (.ref b11), .unset, .unset, .unset, .unset, .unset] [(.int (6 : Int32)), (.ref b22), (.ref b22), (.ref b21), (.ref b21)])) _
    refine XS.bipush X28.here hx rfl (hb hby at_204) ?_
    exact k
  obtain ⟨cl_b22_29, Ar_b22_29, q_b22_29, S_b22_29, N_b22_29, H_b22_29, G_b22_29⟩ := V_b22_28
  obtain ⟨T29, h29, X29, e29, W29, st29⟩ := stC X28 hx hZ e28 Ar_b22_29 (j := (6 : Int32)) (inb_of S_b22_29 ⟨by decide, by decide⟩) (g := (mkF m 206 #[.val (.int p0), .val (.int p1), .val (.int p2), .val (.int p3), .val (.int c4), .val (.int c5), .val (.int c6), .val (.int c7), .val (.int c8), .val (.int c9), .val (.int tw), .val (.ref b1), .val (.ref r7), .val (.ref r8), .val (.ref r9), .val (.ref r10), .val (.ref b11), .unset, .unset, .unset, .unset, .unset] [(.int (32 : Int32)), (.int (6 : Int32)), (.ref b22), (.ref b22), (.ref b21), (.ref b21)])) rfl rfl (hb hby at_206)
  have V_b22_29 : Arv Z h29 b22 k22 .char (10 : Int32) [(.int (nar .char c4)), (.int (nar .char c5)), (.int (nar .char (32 : Int32))), (.int (nar .char c6)), (.int (nar .char (61 : Int32))), (.int (nar .char c7)), (.int (nar .char (32 : Int32))), (.int (0 : Int32)), (.int (0 : Int32)), (.int (0 : Int32))] (.int (0 : Int32)) := Arv.set Ar_b22_29 q_b22_29 S_b22_29 N_b22_29 H_b22_29 G_b22_29 (fits_nar_char _) W29 6 rfl (Nat.le_of_ble_eq_true rfl)
  refine OEnds.st (S' := T29.setTop (mkF m 207 #[.val (.int p0), .val (.int p1), .val (.int p2), .val (.int p3), .val (.int c4), .val (.int c5), .val (.int c6), .val (.int c7), .val (.int c8), .val (.int c9), .val (.int tw), .val (.ref b1), .val (.ref r7), .val (.ref r8), .val (.ref r9), .val (.ref r10), .val (.ref b11), .unset, .unset, .unset, .unset, .unset] [(.ref b22), (.ref b21), (.ref b21)])) st29 ?_
  replace A1 := A1.wr W29
  replace Fc6 := Fc6.other W29 (Or.inl ne_b1_b22)
  replace Fv6 := Fv6.other W29 (Or.inl ne_b1_b22)
  replace V6 := V6.other W29 ne_t6_b22
  replace Eq7 := Eq7.wr W29
  replace Fc7 := Fc7.other W29 (Or.inl ne_r7_b22)
  replace Fv7 := Fv7.other W29 (Or.inl ne_r7_b22)
  replace V7 := V7.other W29 ne_t7_b22
  replace Eq8 := Eq8.wr W29
  replace Fc8 := Fc8.other W29 (Or.inl ne_r8_b22)
  replace Fv8 := Fv8.other W29 (Or.inl ne_r8_b22)
  replace V8 := V8.other W29 ne_t8_b22
  replace Eq9 := Eq9.wr W29
  replace Fc9 := Fc9.other W29 (Or.inl ne_r9_b22)
  replace Fv9 := Fv9.other W29 (Or.inl ne_r9_b22)
  replace V9 := V9.other W29 ne_t9_b22
  replace Eq10 := Eq10.wr W29
  replace Fc10 := Fc10.other W29 (Or.inl ne_r10_b22)
  replace Fv10 := Fv10.other W29 (Or.inl ne_r10_b22)
  replace V10 := V10.other W29 ne_t10_b22
  replace A11 := A11.wr W29
  replace Fc20 := Fc20.other W29 (Or.inl ne_b11_b22)
  replace Fv20 := Fv20.other W29 (Or.inl ne_b11_b22)
  replace V20 := V20.other W29 ne_t20_b22
  replace A21 := A21.wr W29
  replace F_coder_b21 := F_coder_b21.other W29 (Or.inl ne_b21_b22)
  replace F_value_b21 := F_value_b21.other W29 (Or.inl ne_b21_b22)
  replace O0 : Ext Z.heap h29 := ext_wr O0 W29 ge_b22
  replace N0 := Fr.snoc X29 N0 ge_b22
  refine OEnds.st (S' := T29.setTop (mkF m 212 #[.val (.int p0), .val (.int p1), .val (.int p2), .val (.int p3), .val (.int c4), .val (.int c5), .val (.int c6), .val (.int c7), .val (.int c8), .val (.int c9), .val (.int tw), .val (.ref b1), .val (.ref r7), .val (.ref r8), .val (.ref r9), .val (.ref r10), .val (.ref b11), .unset, .unset, .unset, .unset, .unset] [(.int c8), (.int (7 : Int32)), (.ref b22), (.ref b22), (.ref b21), (.ref b21)])) (fun _ k => ?_) ?_
  · show Steps p.tables e below (T29.setTop (mkF m 207 #[.val (.int p0), .val (.int p1), .val (.int p2), .val (.int p3), .val (.int c4), .val (.int c5), .val (.int c6), .val (.int c7), .val (.int c8), .val (.int c9), .val (.int tw), .val (.ref b1), .val (.ref r7), .val (.ref r8), .val (.ref r9), .val (.ref r10), .val (.ref b11), .unset, .unset, .unset, .unset, .unset] [(.ref b22), (.ref b21), (.ref b21)])) _
    refine XS.dup X29.here hx rfl (hb hby at_207) rfl rfl ?_
    show Steps p.tables e below (T29.setTop (mkF m 208 #[.val (.int p0), .val (.int p1), .val (.int p2), .val (.int p3), .val (.int c4), .val (.int c5), .val (.int c6), .val (.int c7), .val (.int c8), .val (.int c9), .val (.int tw), .val (.ref b1), .val (.ref r7), .val (.ref r8), .val (.ref r9), .val (.ref r10), .val (.ref b11), .unset, .unset, .unset, .unset, .unset] [(.ref b22), (.ref b22), (.ref b21), (.ref b21)])) _
    refine XS.bipush X29.here hx rfl (hb hby at_208) ?_
    show Steps p.tables e below (T29.setTop (mkF m 210 #[.val (.int p0), .val (.int p1), .val (.int p2), .val (.int p3), .val (.int c4), .val (.int c5), .val (.int c6), .val (.int c7), .val (.int c8), .val (.int c9), .val (.int tw), .val (.ref b1), .val (.ref r7), .val (.ref r8), .val (.ref r9), .val (.ref r10), .val (.ref b11), .unset, .unset, .unset, .unset, .unset] [(.int (7 : Int32)), (.ref b22), (.ref b22), (.ref b21), (.ref b21)])) _
    refine XS.iload X29.here hx rfl (hb hby at_210) rfl ?_
    exact k
  obtain ⟨cl_b22_30, Ar_b22_30, q_b22_30, S_b22_30, N_b22_30, H_b22_30, G_b22_30⟩ := V_b22_29
  obtain ⟨T30, h30, X30, e30, W30, st30⟩ := stC X29 hx hZ e29 Ar_b22_30 (j := (7 : Int32)) (inb_of S_b22_30 ⟨by decide, by decide⟩) (g := (mkF m 212 #[.val (.int p0), .val (.int p1), .val (.int p2), .val (.int p3), .val (.int c4), .val (.int c5), .val (.int c6), .val (.int c7), .val (.int c8), .val (.int c9), .val (.int tw), .val (.ref b1), .val (.ref r7), .val (.ref r8), .val (.ref r9), .val (.ref r10), .val (.ref b11), .unset, .unset, .unset, .unset, .unset] [(.int c8), (.int (7 : Int32)), (.ref b22), (.ref b22), (.ref b21), (.ref b21)])) rfl rfl (hb hby at_212)
  have V_b22_30 : Arv Z h30 b22 k22 .char (10 : Int32) [(.int (nar .char c4)), (.int (nar .char c5)), (.int (nar .char (32 : Int32))), (.int (nar .char c6)), (.int (nar .char (61 : Int32))), (.int (nar .char c7)), (.int (nar .char (32 : Int32))), (.int (nar .char c8)), (.int (0 : Int32)), (.int (0 : Int32))] (.int (0 : Int32)) := Arv.set Ar_b22_30 q_b22_30 S_b22_30 N_b22_30 H_b22_30 G_b22_30 (fits_nar_char _) W30 7 rfl (Nat.le_of_ble_eq_true rfl)
  refine OEnds.st (S' := T30.setTop (mkF m 213 #[.val (.int p0), .val (.int p1), .val (.int p2), .val (.int p3), .val (.int c4), .val (.int c5), .val (.int c6), .val (.int c7), .val (.int c8), .val (.int c9), .val (.int tw), .val (.ref b1), .val (.ref r7), .val (.ref r8), .val (.ref r9), .val (.ref r10), .val (.ref b11), .unset, .unset, .unset, .unset, .unset] [(.ref b22), (.ref b21), (.ref b21)])) st30 ?_
  replace A1 := A1.wr W30
  replace Fc6 := Fc6.other W30 (Or.inl ne_b1_b22)
  replace Fv6 := Fv6.other W30 (Or.inl ne_b1_b22)
  replace V6 := V6.other W30 ne_t6_b22
  replace Eq7 := Eq7.wr W30
  replace Fc7 := Fc7.other W30 (Or.inl ne_r7_b22)
  replace Fv7 := Fv7.other W30 (Or.inl ne_r7_b22)
  replace V7 := V7.other W30 ne_t7_b22
  replace Eq8 := Eq8.wr W30
  replace Fc8 := Fc8.other W30 (Or.inl ne_r8_b22)
  replace Fv8 := Fv8.other W30 (Or.inl ne_r8_b22)
  replace V8 := V8.other W30 ne_t8_b22
  replace Eq9 := Eq9.wr W30
  replace Fc9 := Fc9.other W30 (Or.inl ne_r9_b22)
  replace Fv9 := Fv9.other W30 (Or.inl ne_r9_b22)
  replace V9 := V9.other W30 ne_t9_b22
  replace Eq10 := Eq10.wr W30
  replace Fc10 := Fc10.other W30 (Or.inl ne_r10_b22)
  replace Fv10 := Fv10.other W30 (Or.inl ne_r10_b22)
  replace V10 := V10.other W30 ne_t10_b22
  replace A11 := A11.wr W30
  replace Fc20 := Fc20.other W30 (Or.inl ne_b11_b22)
  replace Fv20 := Fv20.other W30 (Or.inl ne_b11_b22)
  replace V20 := V20.other W30 ne_t20_b22
  replace A21 := A21.wr W30
  replace F_coder_b21 := F_coder_b21.other W30 (Or.inl ne_b21_b22)
  replace F_value_b21 := F_value_b21.other W30 (Or.inl ne_b21_b22)
  replace O0 : Ext Z.heap h30 := ext_wr O0 W30 ge_b22
  replace N0 := Fr.snoc X30 N0 ge_b22
  refine OEnds.st (S' := T30.setTop (mkF m 218 #[.val (.int p0), .val (.int p1), .val (.int p2), .val (.int p3), .val (.int c4), .val (.int c5), .val (.int c6), .val (.int c7), .val (.int c8), .val (.int c9), .val (.int tw), .val (.ref b1), .val (.ref r7), .val (.ref r8), .val (.ref r9), .val (.ref r10), .val (.ref b11), .unset, .unset, .unset, .unset, .unset] [(.int (61 : Int32)), (.int (8 : Int32)), (.ref b22), (.ref b22), (.ref b21), (.ref b21)])) (fun _ k => ?_) ?_
  · show Steps p.tables e below (T30.setTop (mkF m 213 #[.val (.int p0), .val (.int p1), .val (.int p2), .val (.int p3), .val (.int c4), .val (.int c5), .val (.int c6), .val (.int c7), .val (.int c8), .val (.int c9), .val (.int tw), .val (.ref b1), .val (.ref r7), .val (.ref r8), .val (.ref r9), .val (.ref r10), .val (.ref b11), .unset, .unset, .unset, .unset, .unset] [(.ref b22), (.ref b21), (.ref b21)])) _
    refine XS.dup X30.here hx rfl (hb hby at_213) rfl rfl ?_
    show Steps p.tables e below (T30.setTop (mkF m 214 #[.val (.int p0), .val (.int p1), .val (.int p2), .val (.int p3), .val (.int c4), .val (.int c5), .val (.int c6), .val (.int c7), .val (.int c8), .val (.int c9), .val (.int tw), .val (.ref b1), .val (.ref r7), .val (.ref r8), .val (.ref r9), .val (.ref r10), .val (.ref b11), .unset, .unset, .unset, .unset, .unset] [(.ref b22), (.ref b22), (.ref b21), (.ref b21)])) _
    refine XS.bipush X30.here hx rfl (hb hby at_214) ?_
    show Steps p.tables e below (T30.setTop (mkF m 216 #[.val (.int p0), .val (.int p1), .val (.int p2), .val (.int p3), .val (.int c4), .val (.int c5), .val (.int c6), .val (.int c7), .val (.int c8), .val (.int c9), .val (.int tw), .val (.ref b1), .val (.ref r7), .val (.ref r8), .val (.ref r9), .val (.ref r10), .val (.ref b11), .unset, .unset, .unset, .unset, .unset] [(.int (8 : Int32)), (.ref b22), (.ref b22), (.ref b21), (.ref b21)])) _
    refine XS.bipush X30.here hx rfl (hb hby at_216) ?_
    exact k
  obtain ⟨cl_b22_31, Ar_b22_31, q_b22_31, S_b22_31, N_b22_31, H_b22_31, G_b22_31⟩ := V_b22_30
  obtain ⟨T31, h31, X31, e31, W31, st31⟩ := stC X30 hx hZ e30 Ar_b22_31 (j := (8 : Int32)) (inb_of S_b22_31 ⟨by decide, by decide⟩) (g := (mkF m 218 #[.val (.int p0), .val (.int p1), .val (.int p2), .val (.int p3), .val (.int c4), .val (.int c5), .val (.int c6), .val (.int c7), .val (.int c8), .val (.int c9), .val (.int tw), .val (.ref b1), .val (.ref r7), .val (.ref r8), .val (.ref r9), .val (.ref r10), .val (.ref b11), .unset, .unset, .unset, .unset, .unset] [(.int (61 : Int32)), (.int (8 : Int32)), (.ref b22), (.ref b22), (.ref b21), (.ref b21)])) rfl rfl (hb hby at_218)
  have V_b22_31 : Arv Z h31 b22 k22 .char (10 : Int32) [(.int (nar .char c4)), (.int (nar .char c5)), (.int (nar .char (32 : Int32))), (.int (nar .char c6)), (.int (nar .char (61 : Int32))), (.int (nar .char c7)), (.int (nar .char (32 : Int32))), (.int (nar .char c8)), (.int (nar .char (61 : Int32))), (.int (0 : Int32))] (.int (0 : Int32)) := Arv.set Ar_b22_31 q_b22_31 S_b22_31 N_b22_31 H_b22_31 G_b22_31 (fits_nar_char _) W31 8 rfl (Nat.le_of_ble_eq_true rfl)
  refine OEnds.st (S' := T31.setTop (mkF m 219 #[.val (.int p0), .val (.int p1), .val (.int p2), .val (.int p3), .val (.int c4), .val (.int c5), .val (.int c6), .val (.int c7), .val (.int c8), .val (.int c9), .val (.int tw), .val (.ref b1), .val (.ref r7), .val (.ref r8), .val (.ref r9), .val (.ref r10), .val (.ref b11), .unset, .unset, .unset, .unset, .unset] [(.ref b22), (.ref b21), (.ref b21)])) st31 ?_
  replace A1 := A1.wr W31
  replace Fc6 := Fc6.other W31 (Or.inl ne_b1_b22)
  replace Fv6 := Fv6.other W31 (Or.inl ne_b1_b22)
  replace V6 := V6.other W31 ne_t6_b22
  replace Eq7 := Eq7.wr W31
  replace Fc7 := Fc7.other W31 (Or.inl ne_r7_b22)
  replace Fv7 := Fv7.other W31 (Or.inl ne_r7_b22)
  replace V7 := V7.other W31 ne_t7_b22
  replace Eq8 := Eq8.wr W31
  replace Fc8 := Fc8.other W31 (Or.inl ne_r8_b22)
  replace Fv8 := Fv8.other W31 (Or.inl ne_r8_b22)
  replace V8 := V8.other W31 ne_t8_b22
  replace Eq9 := Eq9.wr W31
  replace Fc9 := Fc9.other W31 (Or.inl ne_r9_b22)
  replace Fv9 := Fv9.other W31 (Or.inl ne_r9_b22)
  replace V9 := V9.other W31 ne_t9_b22
  replace Eq10 := Eq10.wr W31
  replace Fc10 := Fc10.other W31 (Or.inl ne_r10_b22)
  replace Fv10 := Fv10.other W31 (Or.inl ne_r10_b22)
  replace V10 := V10.other W31 ne_t10_b22
  replace A11 := A11.wr W31
  replace Fc20 := Fc20.other W31 (Or.inl ne_b11_b22)
  replace Fv20 := Fv20.other W31 (Or.inl ne_b11_b22)
  replace V20 := V20.other W31 ne_t20_b22
  replace A21 := A21.wr W31
  replace F_coder_b21 := F_coder_b21.other W31 (Or.inl ne_b21_b22)
  replace F_value_b21 := F_value_b21.other W31 (Or.inl ne_b21_b22)
  replace O0 : Ext Z.heap h31 := ext_wr O0 W31 ge_b22
  replace N0 := Fr.snoc X31 N0 ge_b22
  refine OEnds.st (S' := T31.setTop (mkF m 224 #[.val (.int p0), .val (.int p1), .val (.int p2), .val (.int p3), .val (.int c4), .val (.int c5), .val (.int c6), .val (.int c7), .val (.int c8), .val (.int c9), .val (.int tw), .val (.ref b1), .val (.ref r7), .val (.ref r8), .val (.ref r9), .val (.ref r10), .val (.ref b11), .unset, .unset, .unset, .unset, .unset] [(.int c9), (.int (9 : Int32)), (.ref b22), (.ref b22), (.ref b21), (.ref b21)])) (fun _ k => ?_) ?_
  · show Steps p.tables e below (T31.setTop (mkF m 219 #[.val (.int p0), .val (.int p1), .val (.int p2), .val (.int p3), .val (.int c4), .val (.int c5), .val (.int c6), .val (.int c7), .val (.int c8), .val (.int c9), .val (.int tw), .val (.ref b1), .val (.ref r7), .val (.ref r8), .val (.ref r9), .val (.ref r10), .val (.ref b11), .unset, .unset, .unset, .unset, .unset] [(.ref b22), (.ref b21), (.ref b21)])) _
    refine XS.dup X31.here hx rfl (hb hby at_219) rfl rfl ?_
    show Steps p.tables e below (T31.setTop (mkF m 220 #[.val (.int p0), .val (.int p1), .val (.int p2), .val (.int p3), .val (.int c4), .val (.int c5), .val (.int c6), .val (.int c7), .val (.int c8), .val (.int c9), .val (.int tw), .val (.ref b1), .val (.ref r7), .val (.ref r8), .val (.ref r9), .val (.ref r10), .val (.ref b11), .unset, .unset, .unset, .unset, .unset] [(.ref b22), (.ref b22), (.ref b21), (.ref b21)])) _
    refine XS.bipush X31.here hx rfl (hb hby at_220) ?_
    show Steps p.tables e below (T31.setTop (mkF m 222 #[.val (.int p0), .val (.int p1), .val (.int p2), .val (.int p3), .val (.int c4), .val (.int c5), .val (.int c6), .val (.int c7), .val (.int c8), .val (.int c9), .val (.int tw), .val (.ref b1), .val (.ref r7), .val (.ref r8), .val (.ref r9), .val (.ref r10), .val (.ref b11), .unset, .unset, .unset, .unset, .unset] [(.int (9 : Int32)), (.ref b22), (.ref b22), (.ref b21), (.ref b21)])) _
    refine XS.iload X31.here hx rfl (hb hby at_222) rfl ?_
    exact k
  obtain ⟨cl_b22_32, Ar_b22_32, q_b22_32, S_b22_32, N_b22_32, H_b22_32, G_b22_32⟩ := V_b22_31
  obtain ⟨T32, h32, X32, e32, W32, st32⟩ := stC X31 hx hZ e31 Ar_b22_32 (j := (9 : Int32)) (inb_of S_b22_32 ⟨by decide, by decide⟩) (g := (mkF m 224 #[.val (.int p0), .val (.int p1), .val (.int p2), .val (.int p3), .val (.int c4), .val (.int c5), .val (.int c6), .val (.int c7), .val (.int c8), .val (.int c9), .val (.int tw), .val (.ref b1), .val (.ref r7), .val (.ref r8), .val (.ref r9), .val (.ref r10), .val (.ref b11), .unset, .unset, .unset, .unset, .unset] [(.int c9), (.int (9 : Int32)), (.ref b22), (.ref b22), (.ref b21), (.ref b21)])) rfl rfl (hb hby at_224)
  have V_b22_32 : Arv Z h32 b22 k22 .char (10 : Int32) [(.int (nar .char c4)), (.int (nar .char c5)), (.int (nar .char (32 : Int32))), (.int (nar .char c6)), (.int (nar .char (61 : Int32))), (.int (nar .char c7)), (.int (nar .char (32 : Int32))), (.int (nar .char c8)), (.int (nar .char (61 : Int32))), (.int (nar .char c9))] (.int (0 : Int32)) := Arv.set Ar_b22_32 q_b22_32 S_b22_32 N_b22_32 H_b22_32 G_b22_32 (fits_nar_char _) W32 9 rfl (Nat.le_of_ble_eq_true rfl)
  refine OEnds.st (S' := T32.setTop (mkF m 225 #[.val (.int p0), .val (.int p1), .val (.int p2), .val (.int p3), .val (.int c4), .val (.int c5), .val (.int c6), .val (.int c7), .val (.int c8), .val (.int c9), .val (.int tw), .val (.ref b1), .val (.ref r7), .val (.ref r8), .val (.ref r9), .val (.ref r10), .val (.ref b11), .unset, .unset, .unset, .unset, .unset] [(.ref b22), (.ref b21), (.ref b21)])) st32 ?_
  replace A1 := A1.wr W32
  replace Fc6 := Fc6.other W32 (Or.inl ne_b1_b22)
  replace Fv6 := Fv6.other W32 (Or.inl ne_b1_b22)
  replace V6 := V6.other W32 ne_t6_b22
  replace Eq7 := Eq7.wr W32
  replace Fc7 := Fc7.other W32 (Or.inl ne_r7_b22)
  replace Fv7 := Fv7.other W32 (Or.inl ne_r7_b22)
  replace V7 := V7.other W32 ne_t7_b22
  replace Eq8 := Eq8.wr W32
  replace Fc8 := Fc8.other W32 (Or.inl ne_r8_b22)
  replace Fv8 := Fv8.other W32 (Or.inl ne_r8_b22)
  replace V8 := V8.other W32 ne_t8_b22
  replace Eq9 := Eq9.wr W32
  replace Fc9 := Fc9.other W32 (Or.inl ne_r9_b22)
  replace Fv9 := Fv9.other W32 (Or.inl ne_r9_b22)
  replace V9 := V9.other W32 ne_t9_b22
  replace Eq10 := Eq10.wr W32
  replace Fc10 := Fc10.other W32 (Or.inl ne_r10_b22)
  replace Fv10 := Fv10.other W32 (Or.inl ne_r10_b22)
  replace V10 := V10.other W32 ne_t10_b22
  replace A11 := A11.wr W32
  replace Fc20 := Fc20.other W32 (Or.inl ne_b11_b22)
  replace Fv20 := Fv20.other W32 (Or.inl ne_b11_b22)
  replace V20 := V20.other W32 ne_t20_b22
  replace A21 := A21.wr W32
  replace F_coder_b21 := F_coder_b21.other W32 (Or.inl ne_b21_b22)
  replace F_value_b21 := F_value_b21.other W32 (Or.inl ne_b21_b22)
  replace O0 : Ext Z.heap h32 := ext_wr O0 W32 ge_b22
  replace N0 := Fr.snoc X32 N0 ge_b22
  simp only [nar_char (x := (32 : Int32)) (by decide), nar_char (x := (61 : Int32)) (by decide), nar_char (x := c4) hc4, nar_char (x := c5) hc5, nar_char (x := c6) hc6, nar_char (x := c7) hc7, nar_char (x := c8) hc8, nar_char (x := c9) hc9] at V_b22_32
  have hp33 : ∀ c ∈ ([c4, c5, (32 : Int32), c6, (61 : Int32), c7, (32 : Int32), c8, (61 : Int32), c9] : List Int32), ¬ c < 0 ∧ ¬ (255 : Int32) < c := by
    intro c hc; simp only [List.mem_cons, List.not_mem_nil, or_false] at hc
    rcases hc with rfl | rfl | rfl | rfl | rfl | rfl | rfl | rfl | rfl | rfl
    · exact hc4
    · exact hc5
    · exact (by decide)
    · exact hc6
    · exact (by decide)
    · exact hc7
    · exact (by decide)
    · exact hc8
    · exact (by decide)
    · exact hc9
  obtain ⟨_, T34, h34, L34, X34, e34, hQ34, st34⟩ := specC X32 hx hZ rfl hown (hw _ (List.mem_of_getElem? (i := 4) rfl)) (hw _ (List.mem_of_getElem? (i := 5) rfl)) (hw _ (List.mem_of_getElem? (i := 6) rfl)) (by decide) (kc := 1) (ks := 10) (SB.of (Q := StrChars.Road.QV Z b21 (10 : Int32) (([c4, c5, (32 : Int32), c6, (61 : Int32), c7, (32 : Int32), c8, (61 : Int32), c9] : List Int32).map (fun c => c.toInt8.toInt32)) h32 Z.heap.size) (StrChars.Road.backV (W := 1) hZ hws (kI := 4) (hw _ (List.mem_of_getElem? (i := 1) rfl)) (cs := ([c4, c5, (32 : Int32), c6, (61 : Int32), c7, (32 : Int32), c8, (61 : Int32), c9] : List Int32)) (bs := (([c4, c5, (32 : Int32), c6, (61 : Int32), c7, (32 : Int32), c8, (61 : Int32), c9] : List Int32).map (fun c => c.toInt8.toInt32))) (n := 10) ge_b21 O0.1 A21 F_value_b21 F_coder_b21 V_b22_32 (S_CS.ext O0) hcz rfl rfl (by decide) (by decide) hp33 rfl (by decide) (by decide))) e32 (a := b21) (g := (mkF m 225 #[.val (.int p0), .val (.int p1), .val (.int p2), .val (.int p3), .val (.int c4), .val (.int c5), .val (.int c6), .val (.int c7), .val (.int c8), .val (.int c9), .val (.int tw), .val (.ref b1), .val (.ref r7), .val (.ref r8), .val (.ref r9), .val (.ref r10), .val (.ref b11), .unset, .unset, .unset, .unset, .unset] [(.ref b22), (.ref b21), (.ref b21)])) rfl (by rw [hml]; rfl) (argsL := [(.ref b22)]) (rest := [(.ref b21)]) (lenOf pd_21 rfl) rfl (by show 2 * 0 + _ ≤ _; exact Nat.le_of_eq rfl) (hb hby at_225) (by decide) (by decide)
  obtain ⟨rfl, Nq34, Kq34, Eq34, Fc34, t34, kb34, gq34, szq34, nq34, Fv34, V34⟩ := hQ34
  refine OEnds.st (S' := T34.setTop (mkF m 228 #[.val (.int p0), .val (.int p1), .val (.int p2), .val (.int p3), .val (.int c4), .val (.int c5), .val (.int c6), .val (.int c7), .val (.int c8), .val (.int c9), .val (.int tw), .val (.ref b1), .val (.ref r7), .val (.ref r8), .val (.ref r9), .val (.ref r10), .val (.ref b11), .unset, .unset, .unset, .unset, .unset] [(.ref b21)])) st34 ?_
  replace N0 := Fr.app N0 Nq34
  have ne_b1_t34 : b1 ≠ t34 := Nat.ne_of_lt (Nat.lt_of_lt_of_le A1.lt szq34)
  have ne_b11_t34 : b11 ≠ t34 := Nat.ne_of_lt (Nat.lt_of_lt_of_le A11.lt szq34)
  have ne_b21_t34 : b21 ≠ t34 := Nat.ne_of_lt (Nat.lt_of_lt_of_le A21.lt szq34)
  have ne_b22_t34 : b22 ≠ t34 := Nat.ne_of_lt (Nat.lt_of_lt_of_le V_b22_32.lt szq34)
  have ne_r10_t34 : r10 ≠ t34 := Nat.ne_of_lt (Nat.lt_of_lt_of_le Eq10.lt szq34)
  have ne_r7_t34 : r7 ≠ t34 := Nat.ne_of_lt (Nat.lt_of_lt_of_le Eq7.lt szq34)
  have ne_r8_t34 : r8 ≠ t34 := Nat.ne_of_lt (Nat.lt_of_lt_of_le Eq8.lt szq34)
  have ne_r9_t34 : r9 ≠ t34 := Nat.ne_of_lt (Nat.lt_of_lt_of_le Eq9.lt szq34)
  have ne_t10_t34 : t10 ≠ t34 := Nat.ne_of_lt (Nat.lt_of_lt_of_le V10.lt szq34)
  have ne_t20_t34 : t20 ≠ t34 := Nat.ne_of_lt (Nat.lt_of_lt_of_le V20.lt szq34)
  have ne_t6_t34 : t6 ≠ t34 := Nat.ne_of_lt (Nat.lt_of_lt_of_le V6.lt szq34)
  have ne_t7_t34 : t7 ≠ t34 := Nat.ne_of_lt (Nat.lt_of_lt_of_le V7.lt szq34)
  have ne_t8_t34 : t8 ≠ t34 := Nat.ne_of_lt (Nat.lt_of_lt_of_le V8.lt szq34)
  have ne_t9_t34 : t9 ≠ t34 := Nat.ne_of_lt (Nat.lt_of_lt_of_le V9.lt szq34)
  have ge_t34 : Z.heap.size ≤ t34 := Nat.le_trans O0.1 szq34
  replace A1 := A1.keep Kq34
  replace Fc6 := Fc6.keep Kq34 (ninS ne_b1_b21 nin0)
  replace Fv6 := Fv6.keep Kq34 (ninS ne_b1_b21 nin0)
  replace V6 := V6.keep Kq34 (ninS ne_t6_b21 nin0)
  replace Eq7 := Eq7.keep Kq34
  replace Fc7 := Fc7.keep Kq34 (ninS ne_r7_b21 nin0)
  replace Fv7 := Fv7.keep Kq34 (ninS ne_r7_b21 nin0)
  replace V7 := V7.keep Kq34 (ninS ne_t7_b21 nin0)
  replace Eq8 := Eq8.keep Kq34
  replace Fc8 := Fc8.keep Kq34 (ninS ne_r8_b21 nin0)
  replace Fv8 := Fv8.keep Kq34 (ninS ne_r8_b21 nin0)
  replace V8 := V8.keep Kq34 (ninS ne_t8_b21 nin0)
  replace Eq9 := Eq9.keep Kq34
  replace Fc9 := Fc9.keep Kq34 (ninS ne_r9_b21 nin0)
  replace Fv9 := Fv9.keep Kq34 (ninS ne_r9_b21 nin0)
  replace V9 := V9.keep Kq34 (ninS ne_t9_b21 nin0)
  replace Eq10 := Eq10.keep Kq34
  replace Fc10 := Fc10.keep Kq34 (ninS ne_r10_b21 nin0)
  replace Fv10 := Fv10.keep Kq34 (ninS ne_r10_b21 nin0)
  replace V10 := V10.keep Kq34 (ninS ne_t10_b21 nin0)
  replace A11 := A11.keep Kq34
  replace Fc20 := Fc20.keep Kq34 (ninS ne_b11_b21 nin0)
  replace Fv20 := Fv20.keep Kq34 (ninS ne_b11_b21 nin0)
  replace V20 := V20.keep Kq34 (ninS ne_t20_b21 nin0)
  replace A21 := A21.keep Kq34
  replace V_b22_32 := V_b22_32.keep Kq34 (ninS (Ne.symm ne_b21_b22) nin0)
  replace O0 : Ext Z.heap h34 := ext_keep O0 Kq34 (allS ge_b21 all0)
  replace V34 : Arv Z h34 t34 kb34 .byte (Int32.ofNat 10) [(.int (c4).toInt8.toInt32), (.int (c5).toInt8.toInt32), (.int ((32 : Int32)).toInt8.toInt32), (.int (c6).toInt8.toInt32), (.int ((61 : Int32)).toInt8.toInt32), (.int (c7).toInt8.toInt32), (.int ((32 : Int32)).toInt8.toInt32), (.int (c8).toInt8.toInt32), (.int ((61 : Int32)).toInt8.toInt32), (.int (c9).toInt8.toInt32)] (.int 0) := V34
  clear V_b22_32
  refine OEnds.st (S' := T34.setTop (mkF m 230 #[.val (.int p0), .val (.int p1), .val (.int p2), .val (.int p3), .val (.int c4), .val (.int c5), .val (.int c6), .val (.int c7), .val (.int c8), .val (.int c9), .val (.int tw), .val (.ref b1), .val (.ref r7), .val (.ref r8), .val (.ref r9), .val (.ref r10), .val (.ref b11), .val (.ref b21), .unset, .unset, .unset, .unset] [])) (fun _ k => ?_) ?_
  · show Steps p.tables e below (T34.setTop (mkF m 228 #[.val (.int p0), .val (.int p1), .val (.int p2), .val (.int p3), .val (.int c4), .val (.int c5), .val (.int c6), .val (.int c7), .val (.int c8), .val (.int c9), .val (.int tw), .val (.ref b1), .val (.ref r7), .val (.ref r8), .val (.ref r9), .val (.ref r10), .val (.ref b11), .unset, .unset, .unset, .unset, .unset] [(.ref b21)])) _
    refine XS.astore X34.here hx rfl (hb hby at_228) rfl rfl (l' := #[.val (.int p0), .val (.int p1), .val (.int p2), .val (.int p3), .val (.int c4), .val (.int c5), .val (.int c6), .val (.int c7), .val (.int c8), .val (.int c9), .val (.int tw), .val (.ref b1), .val (.ref r7), .val (.ref r8), .val (.ref r9), .val (.ref r10), .val (.ref b11), .val (.ref b21), .unset, .unset, .unset, .unset]) rfl ?_
    exact k
  obtain ⟨T35, h35, X35, e35, E35, A35, D35, U35, st35⟩ := newO X34 hx hZ hown (hw _ (List.mem_of_getElem? (i := 44) rfl)) (hw _ (List.mem_of_getElem? (i := 45) rfl)) (hw _ (List.mem_of_getElem? (i := 46) rfl)) e34 (g := (mkF m 230 #[.val (.int p0), .val (.int p1), .val (.int p2), .val (.int p3), .val (.int c4), .val (.int c5), .val (.int c6), .val (.int c7), .val (.int c8), .val (.int c9), .val (.int tw), .val (.ref b1), .val (.ref r7), .val (.ref r8), .val (.ref r9), .val (.ref r10), .val (.ref b11), .val (.ref b21), .unset, .unset, .unset, .unset] [])) rfl (hb hby at_230) (by decide) (by decide)
  obtain ⟨b35, g35⟩ : ∃ z, z = h34.size := ⟨_, rfl⟩
  rw [← g35] at A35 D35 U35 st35
  refine OEnds.st (S' := T35.setTop (mkF m 233 #[.val (.int p0), .val (.int p1), .val (.int p2), .val (.int p3), .val (.int c4), .val (.int c5), .val (.int c6), .val (.int c7), .val (.int c8), .val (.int c9), .val (.int tw), .val (.ref b1), .val (.ref r7), .val (.ref r8), .val (.ref r9), .val (.ref r10), .val (.ref b11), .val (.ref b21), .unset, .unset, .unset, .unset] [(.ref b35)])) st35 ?_
  have ne_b1_b35 : b1 ≠ b35 := Nat.ne_of_lt (Nat.lt_of_lt_of_le A1.lt (Nat.le_of_eq g35.symm))
  have ne_b11_b35 : b11 ≠ b35 := Nat.ne_of_lt (Nat.lt_of_lt_of_le A11.lt (Nat.le_of_eq g35.symm))
  have ne_b21_b35 : b21 ≠ b35 := Nat.ne_of_lt (Nat.lt_of_lt_of_le A21.lt (Nat.le_of_eq g35.symm))
  have ne_r10_b35 : r10 ≠ b35 := Nat.ne_of_lt (Nat.lt_of_lt_of_le Eq10.lt (Nat.le_of_eq g35.symm))
  have ne_r7_b35 : r7 ≠ b35 := Nat.ne_of_lt (Nat.lt_of_lt_of_le Eq7.lt (Nat.le_of_eq g35.symm))
  have ne_r8_b35 : r8 ≠ b35 := Nat.ne_of_lt (Nat.lt_of_lt_of_le Eq8.lt (Nat.le_of_eq g35.symm))
  have ne_r9_b35 : r9 ≠ b35 := Nat.ne_of_lt (Nat.lt_of_lt_of_le Eq9.lt (Nat.le_of_eq g35.symm))
  have ne_t10_b35 : t10 ≠ b35 := Nat.ne_of_lt (Nat.lt_of_lt_of_le V10.lt (Nat.le_of_eq g35.symm))
  have ne_t20_b35 : t20 ≠ b35 := Nat.ne_of_lt (Nat.lt_of_lt_of_le V20.lt (Nat.le_of_eq g35.symm))
  have ne_t34_b35 : t34 ≠ b35 := Nat.ne_of_lt (Nat.lt_of_lt_of_le V34.lt (Nat.le_of_eq g35.symm))
  have ne_t6_b35 : t6 ≠ b35 := Nat.ne_of_lt (Nat.lt_of_lt_of_le V6.lt (Nat.le_of_eq g35.symm))
  have ne_t7_b35 : t7 ≠ b35 := Nat.ne_of_lt (Nat.lt_of_lt_of_le V7.lt (Nat.le_of_eq g35.symm))
  have ne_t8_b35 : t8 ≠ b35 := Nat.ne_of_lt (Nat.lt_of_lt_of_le V8.lt (Nat.le_of_eq g35.symm))
  have ne_t9_b35 : t9 ≠ b35 := Nat.ne_of_lt (Nat.lt_of_lt_of_le V9.lt (Nat.le_of_eq g35.symm))
  have ge_b35 : Z.heap.size ≤ b35 := Nat.le_trans O0.1 (Nat.le_of_eq g35.symm)
  replace A1 := A1.ext E35
  replace Fc6 := Fc6.ext E35
  replace Fv6 := Fv6.ext E35
  replace V6 := V6.ext E35
  replace Eq7 := Eq7.ext E35
  replace Fc7 := Fc7.ext E35
  replace Fv7 := Fv7.ext E35
  replace V7 := V7.ext E35
  replace Eq8 := Eq8.ext E35
  replace Fc8 := Fc8.ext E35
  replace Fv8 := Fv8.ext E35
  replace V8 := V8.ext E35
  replace Eq9 := Eq9.ext E35
  replace Fc9 := Fc9.ext E35
  replace Fv9 := Fv9.ext E35
  replace V9 := V9.ext E35
  replace Eq10 := Eq10.ext E35
  replace Fc10 := Fc10.ext E35
  replace Fv10 := Fv10.ext E35
  replace V10 := V10.ext E35
  replace A11 := A11.ext E35
  replace Fc20 := Fc20.ext E35
  replace Fv20 := Fv20.ext E35
  replace V20 := V20.ext E35
  replace A21 := A21.ext E35
  replace Fc34 := Fc34.ext E35
  replace Fv34 := Fv34.ext E35
  replace V34 := V34.ext E35
  replace O0 : Ext Z.heap h35 := ext_trans O0 E35
  have F_line_b35 : Fld Z h35 b35 "cordon/cli/ResultLine" "line" "Ljava/lang/StringBuilder;" .null := D35 (Or.inr (hw _ (List.mem_of_getElem? (i := 122) rfl))) (ty := (.object "java/lang/StringBuilder")) (by decide)
  refine OEnds.st (S' := T35.setTop (mkF m 236 #[.val (.int p0), .val (.int p1), .val (.int p2), .val (.int p3), .val (.int c4), .val (.int c5), .val (.int c6), .val (.int c7), .val (.int c8), .val (.int c9), .val (.int tw), .val (.ref b1), .val (.ref r7), .val (.ref r8), .val (.ref r9), .val (.ref r10), .val (.ref b11), .val (.ref b21), .unset, .unset, .unset, .unset] [(.ref b1), (.ref b35), (.ref b35)])) (fun _ k => ?_) ?_
  · show Steps p.tables e below (T35.setTop (mkF m 233 #[.val (.int p0), .val (.int p1), .val (.int p2), .val (.int p3), .val (.int c4), .val (.int c5), .val (.int c6), .val (.int c7), .val (.int c8), .val (.int c9), .val (.int tw), .val (.ref b1), .val (.ref r7), .val (.ref r8), .val (.ref r9), .val (.ref r10), .val (.ref b11), .val (.ref b21), .unset, .unset, .unset, .unset] [(.ref b35)])) _
    refine XS.dup X35.here hx rfl (hb hby at_233) rfl rfl ?_
    show Steps p.tables e below (T35.setTop (mkF m 234 #[.val (.int p0), .val (.int p1), .val (.int p2), .val (.int p3), .val (.int c4), .val (.int c5), .val (.int c6), .val (.int c7), .val (.int c8), .val (.int c9), .val (.int tw), .val (.ref b1), .val (.ref r7), .val (.ref r8), .val (.ref r9), .val (.ref r10), .val (.ref b11), .val (.ref b21), .unset, .unset, .unset, .unset] [(.ref b35), (.ref b35)])) _
    refine XS.aload X35.here hx rfl (hb hby at_234) rfl rfl ?_
    exact k
  obtain ⟨_, T36, h36, L36, X36, e36, hQ36, st36⟩ := specC X35 hx hZ rfl hown (hw _ (List.mem_of_getElem? (i := 47) rfl)) (hw _ (List.mem_of_getElem? (i := 48) rfl)) (hw _ (List.mem_of_getElem? (i := 49) rfl)) (by decide) (kc := 2) (ks := 22) (Con.sb (W := 1) (rm_rlInit l hD b35 b1 t6 kb6 [(.int (c4).toInt8.toInt32), (.int (c5).toInt8.toInt32)] O0 A35 F_line_b35 ge_b35 A1 Fc6 Fv6 V6 rfl) hZ (hw _ (List.mem_of_getElem? (i := 49) rfl)) (hw _ (List.mem_of_getElem? (i := 46) rfl)) (by decide) (by decide)) e35 (a := b35) (g := (mkF m 236 #[.val (.int p0), .val (.int p1), .val (.int p2), .val (.int p3), .val (.int c4), .val (.int c5), .val (.int c6), .val (.int c7), .val (.int c8), .val (.int c9), .val (.int tw), .val (.ref b1), .val (.ref r7), .val (.ref r8), .val (.ref r9), .val (.ref r10), .val (.ref b11), .val (.ref b21), .unset, .unset, .unset, .unset] [(.ref b1), (.ref b35), (.ref b35)])) rfl (by rw [hml]; rfl) (argsL := [(.ref b1)]) (rest := [(.ref b35)]) (lenOf pd_7 rfl) rfl (by show 2 * 0 + _ ≤ _; exact Nat.le_of_eq rfl) (hb hby at_236) (by decide) (by decide)
  obtain ⟨rfl, Nq36, Kq36, bb36, tt36, kk36, szb36, szt36, nbt36, Ea36, Fl36, Eb36, Fc36, Fn36, Fv36, V36⟩ := hQ36
  refine OEnds.st (S' := T36.setTop (mkF m 239 #[.val (.int p0), .val (.int p1), .val (.int p2), .val (.int p3), .val (.int c4), .val (.int c5), .val (.int c6), .val (.int c7), .val (.int c8), .val (.int c9), .val (.int tw), .val (.ref b1), .val (.ref r7), .val (.ref r8), .val (.ref r9), .val (.ref r10), .val (.ref b11), .val (.ref b21), .unset, .unset, .unset, .unset] [(.ref b35)])) st36 ?_
  replace N0 := Fr.app N0 Nq36
  have ne_b1_bb36 : b1 ≠ bb36 := Nat.ne_of_lt (Nat.lt_of_lt_of_le A1.lt szb36)
  have ne_b11_bb36 : b11 ≠ bb36 := Nat.ne_of_lt (Nat.lt_of_lt_of_le A11.lt szb36)
  have ne_b21_bb36 : b21 ≠ bb36 := Nat.ne_of_lt (Nat.lt_of_lt_of_le A21.lt szb36)
  have ne_b35_bb36 : b35 ≠ bb36 := Nat.ne_of_lt (Nat.lt_of_lt_of_le A35.lt szb36)
  have ne_r10_bb36 : r10 ≠ bb36 := Nat.ne_of_lt (Nat.lt_of_lt_of_le Eq10.lt szb36)
  have ne_r7_bb36 : r7 ≠ bb36 := Nat.ne_of_lt (Nat.lt_of_lt_of_le Eq7.lt szb36)
  have ne_r8_bb36 : r8 ≠ bb36 := Nat.ne_of_lt (Nat.lt_of_lt_of_le Eq8.lt szb36)
  have ne_r9_bb36 : r9 ≠ bb36 := Nat.ne_of_lt (Nat.lt_of_lt_of_le Eq9.lt szb36)
  have ne_t10_bb36 : t10 ≠ bb36 := Nat.ne_of_lt (Nat.lt_of_lt_of_le V10.lt szb36)
  have ne_t20_bb36 : t20 ≠ bb36 := Nat.ne_of_lt (Nat.lt_of_lt_of_le V20.lt szb36)
  have ne_t34_bb36 : t34 ≠ bb36 := Nat.ne_of_lt (Nat.lt_of_lt_of_le V34.lt szb36)
  have ne_t6_bb36 : t6 ≠ bb36 := Nat.ne_of_lt (Nat.lt_of_lt_of_le V6.lt szb36)
  have ne_t7_bb36 : t7 ≠ bb36 := Nat.ne_of_lt (Nat.lt_of_lt_of_le V7.lt szb36)
  have ne_t8_bb36 : t8 ≠ bb36 := Nat.ne_of_lt (Nat.lt_of_lt_of_le V8.lt szb36)
  have ne_t9_bb36 : t9 ≠ bb36 := Nat.ne_of_lt (Nat.lt_of_lt_of_le V9.lt szb36)
  have ge_bb36 : Z.heap.size ≤ bb36 := Nat.le_trans O0.1 szb36
  have ne_b1_tt36 : b1 ≠ tt36 := Nat.ne_of_lt (Nat.lt_of_lt_of_le A1.lt szt36)
  have ne_b11_tt36 : b11 ≠ tt36 := Nat.ne_of_lt (Nat.lt_of_lt_of_le A11.lt szt36)
  have ne_b21_tt36 : b21 ≠ tt36 := Nat.ne_of_lt (Nat.lt_of_lt_of_le A21.lt szt36)
  have ne_b35_tt36 : b35 ≠ tt36 := Nat.ne_of_lt (Nat.lt_of_lt_of_le A35.lt szt36)
  have ne_r10_tt36 : r10 ≠ tt36 := Nat.ne_of_lt (Nat.lt_of_lt_of_le Eq10.lt szt36)
  have ne_r7_tt36 : r7 ≠ tt36 := Nat.ne_of_lt (Nat.lt_of_lt_of_le Eq7.lt szt36)
  have ne_r8_tt36 : r8 ≠ tt36 := Nat.ne_of_lt (Nat.lt_of_lt_of_le Eq8.lt szt36)
  have ne_r9_tt36 : r9 ≠ tt36 := Nat.ne_of_lt (Nat.lt_of_lt_of_le Eq9.lt szt36)
  have ne_t10_tt36 : t10 ≠ tt36 := Nat.ne_of_lt (Nat.lt_of_lt_of_le V10.lt szt36)
  have ne_t20_tt36 : t20 ≠ tt36 := Nat.ne_of_lt (Nat.lt_of_lt_of_le V20.lt szt36)
  have ne_t34_tt36 : t34 ≠ tt36 := Nat.ne_of_lt (Nat.lt_of_lt_of_le V34.lt szt36)
  have ne_t6_tt36 : t6 ≠ tt36 := Nat.ne_of_lt (Nat.lt_of_lt_of_le V6.lt szt36)
  have ne_t7_tt36 : t7 ≠ tt36 := Nat.ne_of_lt (Nat.lt_of_lt_of_le V7.lt szt36)
  have ne_t8_tt36 : t8 ≠ tt36 := Nat.ne_of_lt (Nat.lt_of_lt_of_le V8.lt szt36)
  have ne_t9_tt36 : t9 ≠ tt36 := Nat.ne_of_lt (Nat.lt_of_lt_of_le V9.lt szt36)
  have ge_tt36 : Z.heap.size ≤ tt36 := Nat.le_trans O0.1 szt36
  replace A1 := A1.keep Kq36
  replace Fc6 := Fc6.keep Kq36 (ninS ne_b1_b35 nin0)
  replace Fv6 := Fv6.keep Kq36 (ninS ne_b1_b35 nin0)
  replace V6 := V6.keep Kq36 (ninS ne_t6_b35 nin0)
  replace Eq7 := Eq7.keep Kq36
  replace Fc7 := Fc7.keep Kq36 (ninS ne_r7_b35 nin0)
  replace Fv7 := Fv7.keep Kq36 (ninS ne_r7_b35 nin0)
  replace V7 := V7.keep Kq36 (ninS ne_t7_b35 nin0)
  replace Eq8 := Eq8.keep Kq36
  replace Fc8 := Fc8.keep Kq36 (ninS ne_r8_b35 nin0)
  replace Fv8 := Fv8.keep Kq36 (ninS ne_r8_b35 nin0)
  replace V8 := V8.keep Kq36 (ninS ne_t8_b35 nin0)
  replace Eq9 := Eq9.keep Kq36
  replace Fc9 := Fc9.keep Kq36 (ninS ne_r9_b35 nin0)
  replace Fv9 := Fv9.keep Kq36 (ninS ne_r9_b35 nin0)
  replace V9 := V9.keep Kq36 (ninS ne_t9_b35 nin0)
  replace Eq10 := Eq10.keep Kq36
  replace Fc10 := Fc10.keep Kq36 (ninS ne_r10_b35 nin0)
  replace Fv10 := Fv10.keep Kq36 (ninS ne_r10_b35 nin0)
  replace V10 := V10.keep Kq36 (ninS ne_t10_b35 nin0)
  replace A11 := A11.keep Kq36
  replace Fc20 := Fc20.keep Kq36 (ninS ne_b11_b35 nin0)
  replace Fv20 := Fv20.keep Kq36 (ninS ne_b11_b35 nin0)
  replace V20 := V20.keep Kq36 (ninS ne_t20_b35 nin0)
  replace A21 := A21.keep Kq36
  replace Fc34 := Fc34.keep Kq36 (ninS ne_b21_b35 nin0)
  replace Fv34 := Fv34.keep Kq36 (ninS ne_b21_b35 nin0)
  replace V34 := V34.keep Kq36 (ninS ne_t34_b35 nin0)
  replace A35 := A35.keep Kq36
  replace O0 : Ext Z.heap h36 := ext_keep O0 Kq36 (allS ge_b35 all0)
  clear A1
  clear Fc6
  clear Fv6
  clear V6
  refine OEnds.st (S' := T36.setTop (mkF m 247 #[.val (.int p0), .val (.int p1), .val (.int p2), .val (.int p3), .val (.int c4), .val (.int c5), .val (.int c6), .val (.int c7), .val (.int c8), .val (.int c9), .val (.int tw), .val (.ref b1), .val (.ref r7), .val (.ref r8), .val (.ref r9), .val (.ref r10), .val (.ref b11), .val (.ref b21), .val (.ref b35), .unset, .unset, .unset] [(.ref r8), (.ref r7), (.ref b35)])) (fun _ k => ?_) ?_
  · show Steps p.tables e below (T36.setTop (mkF m 239 #[.val (.int p0), .val (.int p1), .val (.int p2), .val (.int p3), .val (.int c4), .val (.int c5), .val (.int c6), .val (.int c7), .val (.int c8), .val (.int c9), .val (.int tw), .val (.ref b1), .val (.ref r7), .val (.ref r8), .val (.ref r9), .val (.ref r10), .val (.ref b11), .val (.ref b21), .unset, .unset, .unset, .unset] [(.ref b35)])) _
    refine XS.astore X36.here hx rfl (hb hby at_239) rfl rfl (l' := #[.val (.int p0), .val (.int p1), .val (.int p2), .val (.int p3), .val (.int c4), .val (.int c5), .val (.int c6), .val (.int c7), .val (.int c8), .val (.int c9), .val (.int tw), .val (.ref b1), .val (.ref r7), .val (.ref r8), .val (.ref r9), .val (.ref r10), .val (.ref b11), .val (.ref b21), .val (.ref b35), .unset, .unset, .unset]) rfl ?_
    show Steps p.tables e below (T36.setTop (mkF m 241 #[.val (.int p0), .val (.int p1), .val (.int p2), .val (.int p3), .val (.int c4), .val (.int c5), .val (.int c6), .val (.int c7), .val (.int c8), .val (.int c9), .val (.int tw), .val (.ref b1), .val (.ref r7), .val (.ref r8), .val (.ref r9), .val (.ref r10), .val (.ref b11), .val (.ref b21), .val (.ref b35), .unset, .unset, .unset] [])) _
    refine XS.aload X36.here hx rfl (hb hby at_241) rfl rfl ?_
    show Steps p.tables e below (T36.setTop (mkF m 243 #[.val (.int p0), .val (.int p1), .val (.int p2), .val (.int p3), .val (.int c4), .val (.int c5), .val (.int c6), .val (.int c7), .val (.int c8), .val (.int c9), .val (.int tw), .val (.ref b1), .val (.ref r7), .val (.ref r8), .val (.ref r9), .val (.ref r10), .val (.ref b11), .val (.ref b21), .val (.ref b35), .unset, .unset, .unset] [(.ref b35)])) _
    refine XS.aload X36.here hx rfl (hb hby at_243) rfl rfl ?_
    show Steps p.tables e below (T36.setTop (mkF m 245 #[.val (.int p0), .val (.int p1), .val (.int p2), .val (.int p3), .val (.int c4), .val (.int c5), .val (.int c6), .val (.int c7), .val (.int c8), .val (.int c9), .val (.int tw), .val (.ref b1), .val (.ref r7), .val (.ref r8), .val (.ref r9), .val (.ref r10), .val (.ref b11), .val (.ref b21), .val (.ref b35), .unset, .unset, .unset] [(.ref r7), (.ref b35)])) _
    refine XS.aload X36.here hx rfl (hb hby at_245) rfl rfl ?_
    exact k
  obtain ⟨_, T37, h37, L37, X37, e37, hQ37, st37⟩ := virtC X36 hx hZ (y := (⟨"cordon/cli/ResultLine", "add", "(Ljava/lang/String;Ljava/lang/String;)Lcordon/cli/ResultLine;"⟩ : MethodName)) (z := (⟨"cordon/cli/ResultLine", "add", "(Ljava/lang/String;Ljava/lang/String;)Lcordon/cli/ResultLine;"⟩ : MethodName)) hown (hw _ (List.mem_of_getElem? (i := 123) rfl)) (hw _ (List.mem_of_getElem? (i := 124) rfl)) (nf_sel (args := #[]) (mvT hZ (hw _ (List.mem_of_getElem? (i := 126) rfl))) rfl) (hw _ (List.mem_of_getElem? (i := 126) rfl)) (hw _ (List.mem_of_getElem? (i := 125) rfl)) (by decide) (kc := 0) (ks := 0) (Con.sb (W := 0) (rm_rlAdd l hD b35 r7 r8 bb36 tt36 kk36 18 2 ([(.int (c4).toInt8.toInt32), (.int (c5).toInt8.toInt32)] ++ List.replicate 16 (.int 0)) t7 k7 [.int c6.toInt8.toInt32] t8 k8 [.int c7.toInt8.toInt32] O0 A35 Fl36 Eb36 Fc36 Fn36 Fv36 V36 Eq7 Fc7 Fv7 V7 Eq8 Fc8 Fv8 V8 (len_2 _ _ _ ) (by decide) ge_bb36 ge_tt36 nbt36 rfl rfl (by decide) ne_b35_bb36 ne_b35_tt36 ne_r7_bb36 ne_r7_tt36 ne_t7_bb36 ne_t7_tt36 ne_r8_bb36 ne_r8_tt36 ne_t8_bb36 ne_t8_tt36) hZ (hw _ (List.mem_of_getElem? (i := 127) rfl)) (hw _ (List.mem_of_getElem? (i := 46) rfl)) (by decide) (by decide)) e36 A35 (g := (mkF m 247 #[.val (.int p0), .val (.int p1), .val (.int p2), .val (.int p3), .val (.int c4), .val (.int c5), .val (.int c6), .val (.int c7), .val (.int c8), .val (.int c9), .val (.int tw), .val (.ref b1), .val (.ref r7), .val (.ref r8), .val (.ref r9), .val (.ref r10), .val (.ref b11), .val (.ref b21), .val (.ref b35), .unset, .unset, .unset] [(.ref r8), (.ref r7), (.ref b35)])) rfl (by rw [hml]; rfl) (argsL := [(.ref r7), (.ref r8)]) (rest := []) (lenOf pd_23 rfl) rfl (by show 2 * 0 + _ ≤ _; exact Nat.le_of_eq rfl) (hb hby at_247) (by decide) (by decide)
  obtain ⟨rfl, Nq37, Kq37, Ea37, Fl37, Eb37, Fc37, Fn37, Fv37, V37⟩ := hQ37
  refine OEnds.st (S' := T37.setTop (mkF m 250 #[.val (.int p0), .val (.int p1), .val (.int p2), .val (.int p3), .val (.int c4), .val (.int c5), .val (.int c6), .val (.int c7), .val (.int c8), .val (.int c9), .val (.int tw), .val (.ref b1), .val (.ref r7), .val (.ref r8), .val (.ref r9), .val (.ref r10), .val (.ref b11), .val (.ref b21), .val (.ref b35), .unset, .unset, .unset] [(.ref b35)])) st37 ?_
  replace N0 := Fr.app N0 Nq37
  replace Eq7 := Eq7.keep Kq37
  replace Fc7 := Fc7.keep Kq37 (ninS ne_r7_bb36 (ninS ne_r7_tt36 nin0))
  replace Fv7 := Fv7.keep Kq37 (ninS ne_r7_bb36 (ninS ne_r7_tt36 nin0))
  replace V7 := V7.keep Kq37 (ninS ne_t7_bb36 (ninS ne_t7_tt36 nin0))
  replace Eq8 := Eq8.keep Kq37
  replace Fc8 := Fc8.keep Kq37 (ninS ne_r8_bb36 (ninS ne_r8_tt36 nin0))
  replace Fv8 := Fv8.keep Kq37 (ninS ne_r8_bb36 (ninS ne_r8_tt36 nin0))
  replace V8 := V8.keep Kq37 (ninS ne_t8_bb36 (ninS ne_t8_tt36 nin0))
  replace Eq9 := Eq9.keep Kq37
  replace Fc9 := Fc9.keep Kq37 (ninS ne_r9_bb36 (ninS ne_r9_tt36 nin0))
  replace Fv9 := Fv9.keep Kq37 (ninS ne_r9_bb36 (ninS ne_r9_tt36 nin0))
  replace V9 := V9.keep Kq37 (ninS ne_t9_bb36 (ninS ne_t9_tt36 nin0))
  replace Eq10 := Eq10.keep Kq37
  replace Fc10 := Fc10.keep Kq37 (ninS ne_r10_bb36 (ninS ne_r10_tt36 nin0))
  replace Fv10 := Fv10.keep Kq37 (ninS ne_r10_bb36 (ninS ne_r10_tt36 nin0))
  replace V10 := V10.keep Kq37 (ninS ne_t10_bb36 (ninS ne_t10_tt36 nin0))
  replace A11 := A11.keep Kq37
  replace Fc20 := Fc20.keep Kq37 (ninS ne_b11_bb36 (ninS ne_b11_tt36 nin0))
  replace Fv20 := Fv20.keep Kq37 (ninS ne_b11_bb36 (ninS ne_b11_tt36 nin0))
  replace V20 := V20.keep Kq37 (ninS ne_t20_bb36 (ninS ne_t20_tt36 nin0))
  replace A21 := A21.keep Kq37
  replace Fc34 := Fc34.keep Kq37 (ninS ne_b21_bb36 (ninS ne_b21_tt36 nin0))
  replace Fv34 := Fv34.keep Kq37 (ninS ne_b21_bb36 (ninS ne_b21_tt36 nin0))
  replace V34 := V34.keep Kq37 (ninS ne_t34_bb36 (ninS ne_t34_tt36 nin0))
  replace A35 := A35.keep Kq37
  replace Fl36 := Fl36.keep Kq37 (ninS ne_b35_bb36 (ninS ne_b35_tt36 nin0))
  replace Eb36 := Eb36.keep Kq37
  replace O0 : Ext Z.heap h37 := ext_keep O0 Kq37 (allS ge_bb36 (allS ge_tt36 all0))
  rw [addL_2] at V37
  clear Eq7
  clear Fc7
  clear Fv7
  clear V7
  clear Eq8
  clear Fc8
  clear Fv8
  clear V8
  refine OEnds.st (S' := T37.setTop (mkF m 263 #[.val (.int p0), .val (.int p1), .val (.int p2), .val (.int p3), .val (.int c4), .val (.int c5), .val (.int c6), .val (.int c7), .val (.int c8), .val (.int c9), .val (.int tw), .val (.ref b1), .val (.ref r7), .val (.ref r8), .val (.ref r9), .val (.ref r10), .val (.ref b11), .val (.ref b21), .val (.ref b35), .val (.ref b35), .unset, .unset] [(.ref b35)])) (fun _ k => ?_) ?_
  · show Steps p.tables e below (T37.setTop (mkF m 250 #[.val (.int p0), .val (.int p1), .val (.int p2), .val (.int p3), .val (.int c4), .val (.int c5), .val (.int c6), .val (.int c7), .val (.int c8), .val (.int c9), .val (.int tw), .val (.ref b1), .val (.ref r7), .val (.ref r8), .val (.ref r9), .val (.ref r10), .val (.ref b11), .val (.ref b21), .val (.ref b35), .unset, .unset, .unset] [(.ref b35)])) _
    refine XS.astore X37.here hx rfl (hb hby at_250) rfl rfl (l' := #[.val (.int p0), .val (.int p1), .val (.int p2), .val (.int p3), .val (.int c4), .val (.int c5), .val (.int c6), .val (.int c7), .val (.int c8), .val (.int c9), .val (.int tw), .val (.ref b1), .val (.ref r7), .val (.ref r8), .val (.ref r9), .val (.ref r10), .val (.ref b11), .val (.ref b21), .val (.ref b35), .val (.ref b35), .unset, .unset]) rfl ?_
    show Steps p.tables e below (T37.setTop (mkF m 252 #[.val (.int p0), .val (.int p1), .val (.int p2), .val (.int p3), .val (.int c4), .val (.int c5), .val (.int c6), .val (.int c7), .val (.int c8), .val (.int c9), .val (.int tw), .val (.ref b1), .val (.ref r7), .val (.ref r8), .val (.ref r9), .val (.ref r10), .val (.ref b11), .val (.ref b21), .val (.ref b35), .val (.ref b35), .unset, .unset] [])) _
    refine XS.aload X37.here hx rfl (hb hby at_252) rfl rfl ?_
    show Steps p.tables e below (T37.setTop (mkF m 254 #[.val (.int p0), .val (.int p1), .val (.int p2), .val (.int p3), .val (.int c4), .val (.int c5), .val (.int c6), .val (.int c7), .val (.int c8), .val (.int c9), .val (.int tw), .val (.ref b1), .val (.ref r7), .val (.ref r8), .val (.ref r9), .val (.ref r10), .val (.ref b11), .val (.ref b21), .val (.ref b35), .val (.ref b35), .unset, .unset] [(.ref b35)])) _
    refine XS.aload X37.here hx rfl (hb hby at_254) rfl rfl ?_
    show Steps p.tables e below (T37.setTop (mkF m 256 #[.val (.int p0), .val (.int p1), .val (.int p2), .val (.int p3), .val (.int c4), .val (.int c5), .val (.int c6), .val (.int c7), .val (.int c8), .val (.int c9), .val (.int tw), .val (.ref b1), .val (.ref r7), .val (.ref r8), .val (.ref r9), .val (.ref r10), .val (.ref b11), .val (.ref b21), .val (.ref b35), .val (.ref b35), .unset, .unset] [(.ref b35), (.ref b35)])) _
    have hq256 : Jvm.Free.XT.acmp .eq ((.ref b35) : Value) ((.ref b35) : Value) = true := (Jvm.Free.XT.aa_eq_t rfl)
    refine Jvm.Free.XT.acmpYes X37.here hx rfl (pc0 := 256) (pc' := 261) rfl (hb hby at_256) rfl rfl rfl hq256 (by decide) (by decide) ?_
    show Steps p.tables e below (T37.setTop (mkF m 261 #[.val (.int p0), .val (.int p1), .val (.int p2), .val (.int p3), .val (.int c4), .val (.int c5), .val (.int c6), .val (.int c7), .val (.int c8), .val (.int c9), .val (.int tw), .val (.ref b1), .val (.ref r7), .val (.ref r8), .val (.ref r9), .val (.ref r10), .val (.ref b11), .val (.ref b21), .val (.ref b35), .val (.ref b35), .unset, .unset] [])) _
    refine XS.aload X37.here hx rfl (hb hby at_261) rfl rfl ?_
    exact k
  obtain ⟨_, T38, h38, L38, X38, e38, hQ38, st38⟩ := virtC X37 hx hZ (y := (⟨"cordon/cli/ResultLine", "toString", "()Ljava/lang/String;"⟩ : MethodName)) (z := (⟨"cordon/cli/ResultLine", "toString", "()Ljava/lang/String;"⟩ : MethodName)) hown (hw _ (List.mem_of_getElem? (i := 144) rfl)) (hw _ (List.mem_of_getElem? (i := 145) rfl)) (nf_sel (args := #[]) (mvT hZ (hw _ (List.mem_of_getElem? (i := 126) rfl))) rfl) (hw _ (List.mem_of_getElem? (i := 147) rfl)) (hw _ (List.mem_of_getElem? (i := 146) rfl)) (by decide) (kc := 2) (ks := 22) (Con.sb (W := 0) (rm_rlToStr l hD b35 bb36 tt36 kk36 18 6 ([(.int (c4).toInt8.toInt32), (.int (c5).toInt8.toInt32), (.int ((32 : Int32)).toInt8.toInt32), (.int (c6).toInt8.toInt32), (.int ((61 : Int32)).toInt8.toInt32), (.int (c7).toInt8.toInt32)] ++ List.replicate 12 (.int 0)) O0 Fl36 Eb36 Fc37 Fn37 Fv37 V37 (len_6 _ _ _ _ _ _ _ ) (by decide) (by decide) (by decide)) hZ (hw _ (List.mem_of_getElem? (i := 148) rfl)) (hw _ (List.mem_of_getElem? (i := 46) rfl)) (by decide) (by decide)) e37 A35 (g := (mkF m 263 #[.val (.int p0), .val (.int p1), .val (.int p2), .val (.int p3), .val (.int c4), .val (.int c5), .val (.int c6), .val (.int c7), .val (.int c8), .val (.int c9), .val (.int tw), .val (.ref b1), .val (.ref r7), .val (.ref r8), .val (.ref r9), .val (.ref r10), .val (.ref b11), .val (.ref b21), .val (.ref b35), .val (.ref b35), .unset, .unset] [(.ref b35)])) rfl (by rw [hml]; rfl) (argsL := []) (rest := []) (lenOf pd_20 rfl) rfl (by show 2 * 0 + _ ≤ _; exact Nat.le_of_eq rfl) (hb hby at_263) (by decide) (by decide)
  obtain ⟨x38, r38, kr38, rfl, Nq38, Kq38, szx38, szr38, nxr38, Ex38, Fc38, Fv38, V38⟩ := hQ38
  refine OEnds.st (S' := T38.setTop (mkF m 266 #[.val (.int p0), .val (.int p1), .val (.int p2), .val (.int p3), .val (.int c4), .val (.int c5), .val (.int c6), .val (.int c7), .val (.int c8), .val (.int c9), .val (.int tw), .val (.ref b1), .val (.ref r7), .val (.ref r8), .val (.ref r9), .val (.ref r10), .val (.ref b11), .val (.ref b21), .val (.ref b35), .val (.ref b35), .unset, .unset] [(.ref x38)])) st38 ?_
  replace N0 := Fr.app N0 Nq38
  have ne_b11_x38 : b11 ≠ x38 := Nat.ne_of_lt (Nat.lt_of_lt_of_le A11.lt szx38)
  have ne_b21_x38 : b21 ≠ x38 := Nat.ne_of_lt (Nat.lt_of_lt_of_le A21.lt szx38)
  have ne_b35_x38 : b35 ≠ x38 := Nat.ne_of_lt (Nat.lt_of_lt_of_le A35.lt szx38)
  have ne_bb36_x38 : bb36 ≠ x38 := Nat.ne_of_lt (Nat.lt_of_lt_of_le Eb36.lt szx38)
  have ne_r10_x38 : r10 ≠ x38 := Nat.ne_of_lt (Nat.lt_of_lt_of_le Eq10.lt szx38)
  have ne_r9_x38 : r9 ≠ x38 := Nat.ne_of_lt (Nat.lt_of_lt_of_le Eq9.lt szx38)
  have ne_t10_x38 : t10 ≠ x38 := Nat.ne_of_lt (Nat.lt_of_lt_of_le V10.lt szx38)
  have ne_t20_x38 : t20 ≠ x38 := Nat.ne_of_lt (Nat.lt_of_lt_of_le V20.lt szx38)
  have ne_t34_x38 : t34 ≠ x38 := Nat.ne_of_lt (Nat.lt_of_lt_of_le V34.lt szx38)
  have ne_t9_x38 : t9 ≠ x38 := Nat.ne_of_lt (Nat.lt_of_lt_of_le V9.lt szx38)
  have ne_tt36_x38 : tt36 ≠ x38 := Nat.ne_of_lt (Nat.lt_of_lt_of_le V37.lt szx38)
  have ge_x38 : Z.heap.size ≤ x38 := Nat.le_trans O0.1 szx38
  have ne_b11_r38 : b11 ≠ r38 := Nat.ne_of_lt (Nat.lt_of_lt_of_le A11.lt szr38)
  have ne_b21_r38 : b21 ≠ r38 := Nat.ne_of_lt (Nat.lt_of_lt_of_le A21.lt szr38)
  have ne_b35_r38 : b35 ≠ r38 := Nat.ne_of_lt (Nat.lt_of_lt_of_le A35.lt szr38)
  have ne_bb36_r38 : bb36 ≠ r38 := Nat.ne_of_lt (Nat.lt_of_lt_of_le Eb36.lt szr38)
  have ne_r10_r38 : r10 ≠ r38 := Nat.ne_of_lt (Nat.lt_of_lt_of_le Eq10.lt szr38)
  have ne_r9_r38 : r9 ≠ r38 := Nat.ne_of_lt (Nat.lt_of_lt_of_le Eq9.lt szr38)
  have ne_t10_r38 : t10 ≠ r38 := Nat.ne_of_lt (Nat.lt_of_lt_of_le V10.lt szr38)
  have ne_t20_r38 : t20 ≠ r38 := Nat.ne_of_lt (Nat.lt_of_lt_of_le V20.lt szr38)
  have ne_t34_r38 : t34 ≠ r38 := Nat.ne_of_lt (Nat.lt_of_lt_of_le V34.lt szr38)
  have ne_t9_r38 : t9 ≠ r38 := Nat.ne_of_lt (Nat.lt_of_lt_of_le V9.lt szr38)
  have ne_tt36_r38 : tt36 ≠ r38 := Nat.ne_of_lt (Nat.lt_of_lt_of_le V37.lt szr38)
  have ge_r38 : Z.heap.size ≤ r38 := Nat.le_trans O0.1 szr38
  replace Eq9 := Eq9.keep Kq38
  replace Fc9 := Fc9.keep Kq38 nin0
  replace Fv9 := Fv9.keep Kq38 nin0
  replace V9 := V9.keep Kq38 nin0
  replace Eq10 := Eq10.keep Kq38
  replace Fc10 := Fc10.keep Kq38 nin0
  replace Fv10 := Fv10.keep Kq38 nin0
  replace V10 := V10.keep Kq38 nin0
  replace A11 := A11.keep Kq38
  replace Fc20 := Fc20.keep Kq38 nin0
  replace Fv20 := Fv20.keep Kq38 nin0
  replace V20 := V20.keep Kq38 nin0
  replace A21 := A21.keep Kq38
  replace Fc34 := Fc34.keep Kq38 nin0
  replace Fv34 := Fv34.keep Kq38 nin0
  replace V34 := V34.keep Kq38 nin0
  replace A35 := A35.keep Kq38
  replace Fl36 := Fl36.keep Kq38 nin0
  replace Eb36 := Eb36.keep Kq38
  replace Fc37 := Fc37.keep Kq38 nin0
  replace Fn37 := Fn37.keep Kq38 nin0
  replace Fv37 := Fv37.keep Kq38 nin0
  replace V37 := V37.keep Kq38 nin0
  replace O0 : Ext Z.heap h38 := ext_keep O0 Kq38 all0
  rw [take_6] at V38
  refine OEnds.st (S' := T38.setTop (mkF m 268 #[.val (.int p0), .val (.int p1), .val (.int p2), .val (.int p3), .val (.int c4), .val (.int c5), .val (.int c6), .val (.int c7), .val (.int c8), .val (.int c9), .val (.int tw), .val (.ref b1), .val (.ref r7), .val (.ref r8), .val (.ref r9), .val (.ref r10), .val (.ref b11), .val (.ref b21), .val (.ref b35), .val (.ref b35), .unset, .unset] [(.ref b11), (.ref x38)])) (fun _ k => ?_) ?_
  · show Steps p.tables e below (T38.setTop (mkF m 266 #[.val (.int p0), .val (.int p1), .val (.int p2), .val (.int p3), .val (.int c4), .val (.int c5), .val (.int c6), .val (.int c7), .val (.int c8), .val (.int c9), .val (.int tw), .val (.ref b1), .val (.ref r7), .val (.ref r8), .val (.ref r9), .val (.ref r10), .val (.ref b11), .val (.ref b21), .val (.ref b35), .val (.ref b35), .unset, .unset] [(.ref x38)])) _
    refine XS.aload X38.here hx rfl (hb hby at_266) rfl rfl ?_
    exact k
  obtain ⟨_, T39, h39, L39, X39, e39, hQ39, st39⟩ := virtC X38 hx hZ (y := (⟨"java/lang/String", "equals", "(Ljava/lang/Object;)Z"⟩ : MethodName)) (z := (⟨"java/lang/String", "equals", "(Ljava/lang/Object;)Z"⟩ : MethodName)) hown (hw _ (List.mem_of_getElem? (i := 190) rfl)) (hw _ (List.mem_of_getElem? (i := 191) rfl)) (nf_sel (args := #[]) (mvT hZ (hw _ (List.mem_of_getElem? (i := 67) rfl))) rfl) (hw _ (List.mem_of_getElem? (i := 193) rfl)) (hw _ (List.mem_of_getElem? (i := 192) rfl)) (by decide) (kc := 0) (ks := 0) (SB.mono (SB.of (Q := fun v h' L => ((v = some (.int 1) ∧ ([c4, c5, (32 : Int32), c6, (61 : Int32), c7] : List Int32) = ([c4, c5, (32 : Int32), c6, (61 : Int32), c7] : List Int32)) ∨ (v = some (.int 0) ∧ ¬ ([c4, c5, (32 : Int32), c6, (61 : Int32), c7] : List Int32) = ([c4, c5, (32 : Int32), c6, (61 : Int32), c7] : List Int32))) ∧ L = [] ∧ h' = h38) (StrChars.Road.eqW (W := 0) hZ heq (kI := 4) (hw _ (List.mem_of_getElem? (i := 1) rfl)) (cs := ([c4, c5, (32 : Int32), c6, (61 : Int32), c7] : List Int32)) (ds := ([c4, c5, (32 : Int32), c6, (61 : Int32), c7] : List Int32)) Ex38 Fv38 Fc38 V38 (StrChars.Road.codOf (cs := ([c4, c5, (32 : Int32), c6, (61 : Int32), c7] : List Int32)) (n := 6) rfl (fun c hc => (hp19 c hc).2)) (fun c hc => ⟨(hp19 c hc).1, fun q => (hp19 c hc).2 (Int32.lt_trans (by decide) q)⟩) (Nat.le_of_ble_eq_true rfl) A11 Fv20 Fc20 V20 (StrChars.Road.codOf (cs := ([c4, c5, (32 : Int32), c6, (61 : Int32), c7] : List Int32)) (n := 6) rfl (fun c hc => (hp19 c hc).2)) (fun c hc => ⟨(hp19 c hc).1, fun q => (hp19 c hc).2 (Int32.lt_trans (by decide) q)⟩) (Nat.le_of_ble_eq_true rfl) (S_CS.ext O0) hcz (by decide) (by decide))) (Q' := fun v h' L => v = some (.int 1) ∧ Fr Z.heap.size L ∧ h' = h38) (fun v h' L q => ⟨q.1.elim (·.1) (fun r => absurd rfl r.2), q.2.1 ▸ Fr.nil _, q.2.2⟩)) e38 Ex38 (g := (mkF m 268 #[.val (.int p0), .val (.int p1), .val (.int p2), .val (.int p3), .val (.int c4), .val (.int c5), .val (.int c6), .val (.int c7), .val (.int c8), .val (.int c9), .val (.int tw), .val (.ref b1), .val (.ref r7), .val (.ref r8), .val (.ref r9), .val (.ref r10), .val (.ref b11), .val (.ref b21), .val (.ref b35), .val (.ref b35), .unset, .unset] [(.ref b11), (.ref x38)])) rfl (by rw [hml]; rfl) (argsL := [(.ref b11)]) (rest := []) (lenOf pd_24 rfl) rfl (by show 2 * 0 + _ ≤ _; exact Nat.le_of_eq rfl) (hb hby at_268) (by decide) (by decide)
  obtain ⟨rfl, Nq39, Hq39⟩ := hQ39
  refine OEnds.st (S' := T39.setTop (mkF m 271 #[.val (.int p0), .val (.int p1), .val (.int p2), .val (.int p3), .val (.int c4), .val (.int c5), .val (.int c6), .val (.int c7), .val (.int c8), .val (.int c9), .val (.int tw), .val (.ref b1), .val (.ref r7), .val (.ref r8), .val (.ref r9), .val (.ref r10), .val (.ref b11), .val (.ref b21), .val (.ref b35), .val (.ref b35), .unset, .unset] [(.int (1 : Int32))])) st39 ?_
  replace N0 := Fr.app N0 Nq39
  replace e39 := e39.trans Hq39
  clear A11
  clear Fc20
  clear Fv20
  clear V20
  clear Ex38
  clear Fc38
  clear Fv38
  clear V38
  refine OEnds.st (S' := T39.setTop (mkF m 275 #[.val (.int p0), .val (.int p1), .val (.int p2), .val (.int p3), .val (.int c4), .val (.int c5), .val (.int c6), .val (.int c7), .val (.int c8), .val (.int c9), .val (.int tw), .val (.ref b1), .val (.ref r7), .val (.ref r8), .val (.ref r9), .val (.ref r10), .val (.ref b11), .val (.ref b21), .val (.ref b35), .val (.ref b35), .val (.int (1 : Int32)), .unset] [(.int tw)])) (fun _ k => ?_) ?_
  · show Steps p.tables e below (T39.setTop (mkF m 271 #[.val (.int p0), .val (.int p1), .val (.int p2), .val (.int p3), .val (.int c4), .val (.int c5), .val (.int c6), .val (.int c7), .val (.int c8), .val (.int c9), .val (.int tw), .val (.ref b1), .val (.ref r7), .val (.ref r8), .val (.ref r9), .val (.ref r10), .val (.ref b11), .val (.ref b21), .val (.ref b35), .val (.ref b35), .unset, .unset] [(.int (1 : Int32))])) _
    refine XS.istore X39.here hx rfl (hb hby at_271) rfl (l' := #[.val (.int p0), .val (.int p1), .val (.int p2), .val (.int p3), .val (.int c4), .val (.int c5), .val (.int c6), .val (.int c7), .val (.int c8), .val (.int c9), .val (.int tw), .val (.ref b1), .val (.ref r7), .val (.ref r8), .val (.ref r9), .val (.ref r10), .val (.ref b11), .val (.ref b21), .val (.ref b35), .val (.ref b35), .val (.int (1 : Int32)), .unset]) rfl ?_
    show Steps p.tables e below (T39.setTop (mkF m 273 #[.val (.int p0), .val (.int p1), .val (.int p2), .val (.int p3), .val (.int c4), .val (.int c5), .val (.int c6), .val (.int c7), .val (.int c8), .val (.int c9), .val (.int tw), .val (.ref b1), .val (.ref r7), .val (.ref r8), .val (.ref r9), .val (.ref r10), .val (.ref b11), .val (.ref b21), .val (.ref b35), .val (.ref b35), .val (.int (1 : Int32)), .unset] [])) _
    refine XS.iload X39.here hx rfl (hb hby at_273) rfl ?_
    exact k
  rcases Classical.em (tw = (0 : Int32)) with htw | htw
  · refine OEnds.st (S' := T39.setTop (mkF m 280 #[.val (.int p0), .val (.int p1), .val (.int p2), .val (.int p3), .val (.int c4), .val (.int c5), .val (.int c6), .val (.int c7), .val (.int c8), .val (.int c9), .val (.int tw), .val (.ref b1), .val (.ref r7), .val (.ref r8), .val (.ref r9), .val (.ref r10), .val (.ref b11), .val (.ref b21), .val (.ref b35), .val (.ref b35), .val (.int (1 : Int32)), .unset] [(.int (1 : Int32))])) (fun _ k => ?_) ?_
    · show Steps p.tables e below (T39.setTop (mkF m 275 #[.val (.int p0), .val (.int p1), .val (.int p2), .val (.int p3), .val (.int c4), .val (.int c5), .val (.int c6), .val (.int c7), .val (.int c8), .val (.int c9), .val (.int tw), .val (.ref b1), .val (.ref r7), .val (.ref r8), .val (.ref r9), .val (.ref r10), .val (.ref b11), .val (.ref b21), .val (.ref b35), .val (.ref b35), .val (.int (1 : Int32)), .unset] [(.int tw)])) _
      refine XS.ifNo X39.here hx rfl (hb hby at_275) rfl ((if0 _ _).trans (teq htw).2) ?_
      show Steps p.tables e below (T39.setTop (mkF m 278 #[.val (.int p0), .val (.int p1), .val (.int p2), .val (.int p3), .val (.int c4), .val (.int c5), .val (.int c6), .val (.int c7), .val (.int c8), .val (.int c9), .val (.int tw), .val (.ref b1), .val (.ref r7), .val (.ref r8), .val (.ref r9), .val (.ref r10), .val (.ref b11), .val (.ref b21), .val (.ref b35), .val (.ref b35), .val (.int (1 : Int32)), .unset] [])) _
      refine XS.iload X39.here hx rfl (hb hby at_278) rfl ?_
      exact k
    exact OEnds.ret X39 hx hret hlk (by decide) (Or.inl ⟨rfl, by simp, _, rfl⟩) (hb hby at_280) (by decide) (by decide) (by rw [e39]; exact ⟨rfl, N0⟩)
  · refine OEnds.st (S' := T39.setTop (mkF m 287 #[.val (.int p0), .val (.int p1), .val (.int p2), .val (.int p3), .val (.int c4), .val (.int c5), .val (.int c6), .val (.int c7), .val (.int c8), .val (.int c9), .val (.int tw), .val (.ref b1), .val (.ref r7), .val (.ref r8), .val (.ref r9), .val (.ref r10), .val (.ref b11), .val (.ref b21), .val (.ref b35), .val (.ref b35), .val (.int (1 : Int32)), .unset] [(.ref r10), (.ref r9), (.ref b35)])) (fun _ k => ?_) ?_
    · show Steps p.tables e below (T39.setTop (mkF m 275 #[.val (.int p0), .val (.int p1), .val (.int p2), .val (.int p3), .val (.int c4), .val (.int c5), .val (.int c6), .val (.int c7), .val (.int c8), .val (.int c9), .val (.int tw), .val (.ref b1), .val (.ref r7), .val (.ref r8), .val (.ref r9), .val (.ref r10), .val (.ref b11), .val (.ref b21), .val (.ref b35), .val (.ref b35), .val (.int (1 : Int32)), .unset] [(.int tw)])) _
      refine XS.ifYes X39.here hx rfl (pc0 := 275) (pc' := 281) rfl (hb hby at_275) rfl ((if0 _ _).trans (feq htw).2) (by decide) (by decide) ?_
      show Steps p.tables e below (T39.setTop (mkF m 281 #[.val (.int p0), .val (.int p1), .val (.int p2), .val (.int p3), .val (.int c4), .val (.int c5), .val (.int c6), .val (.int c7), .val (.int c8), .val (.int c9), .val (.int tw), .val (.ref b1), .val (.ref r7), .val (.ref r8), .val (.ref r9), .val (.ref r10), .val (.ref b11), .val (.ref b21), .val (.ref b35), .val (.ref b35), .val (.int (1 : Int32)), .unset] [])) _
      refine XS.aload X39.here hx rfl (hb hby at_281) rfl rfl ?_
      show Steps p.tables e below (T39.setTop (mkF m 283 #[.val (.int p0), .val (.int p1), .val (.int p2), .val (.int p3), .val (.int c4), .val (.int c5), .val (.int c6), .val (.int c7), .val (.int c8), .val (.int c9), .val (.int tw), .val (.ref b1), .val (.ref r7), .val (.ref r8), .val (.ref r9), .val (.ref r10), .val (.ref b11), .val (.ref b21), .val (.ref b35), .val (.ref b35), .val (.int (1 : Int32)), .unset] [(.ref b35)])) _
      refine XS.aload X39.here hx rfl (hb hby at_283) rfl rfl ?_
      show Steps p.tables e below (T39.setTop (mkF m 285 #[.val (.int p0), .val (.int p1), .val (.int p2), .val (.int p3), .val (.int c4), .val (.int c5), .val (.int c6), .val (.int c7), .val (.int c8), .val (.int c9), .val (.int tw), .val (.ref b1), .val (.ref r7), .val (.ref r8), .val (.ref r9), .val (.ref r10), .val (.ref b11), .val (.ref b21), .val (.ref b35), .val (.ref b35), .val (.int (1 : Int32)), .unset] [(.ref r9), (.ref b35)])) _
      refine XS.aload X39.here hx rfl (hb hby at_285) rfl rfl ?_
      exact k
    obtain ⟨_, T40, h40, L40, X40, e40, hQ40, st40⟩ := virtC X39 hx hZ (y := (⟨"cordon/cli/ResultLine", "add", "(Ljava/lang/String;Ljava/lang/String;)Lcordon/cli/ResultLine;"⟩ : MethodName)) (z := (⟨"cordon/cli/ResultLine", "add", "(Ljava/lang/String;Ljava/lang/String;)Lcordon/cli/ResultLine;"⟩ : MethodName)) hown (hw _ (List.mem_of_getElem? (i := 123) rfl)) (hw _ (List.mem_of_getElem? (i := 124) rfl)) (nf_sel (args := #[]) (mvT hZ (hw _ (List.mem_of_getElem? (i := 126) rfl))) rfl) (hw _ (List.mem_of_getElem? (i := 126) rfl)) (hw _ (List.mem_of_getElem? (i := 125) rfl)) (by decide) (kc := 0) (ks := 0) (Con.sb (W := 0) (rm_rlAdd l hD b35 r9 r10 bb36 tt36 kk36 18 6 ([(.int (c4).toInt8.toInt32), (.int (c5).toInt8.toInt32), (.int ((32 : Int32)).toInt8.toInt32), (.int (c6).toInt8.toInt32), (.int ((61 : Int32)).toInt8.toInt32), (.int (c7).toInt8.toInt32)] ++ List.replicate 12 (.int 0)) t9 k9 [.int c8.toInt8.toInt32] t10 k10 [.int c9.toInt8.toInt32] O0 A35 Fl36 Eb36 Fc37 Fn37 Fv37 V37 Eq9 Fc9 Fv9 V9 Eq10 Fc10 Fv10 V10 (len_6 _ _ _ _ _ _ _ ) (by decide) ge_bb36 ge_tt36 nbt36 rfl rfl (by decide) ne_b35_bb36 ne_b35_tt36 ne_r9_bb36 ne_r9_tt36 ne_t9_bb36 ne_t9_tt36 ne_r10_bb36 ne_r10_tt36 ne_t10_bb36 ne_t10_tt36) hZ (hw _ (List.mem_of_getElem? (i := 127) rfl)) (hw _ (List.mem_of_getElem? (i := 46) rfl)) (by decide) (by decide)) e39 A35 (g := (mkF m 287 #[.val (.int p0), .val (.int p1), .val (.int p2), .val (.int p3), .val (.int c4), .val (.int c5), .val (.int c6), .val (.int c7), .val (.int c8), .val (.int c9), .val (.int tw), .val (.ref b1), .val (.ref r7), .val (.ref r8), .val (.ref r9), .val (.ref r10), .val (.ref b11), .val (.ref b21), .val (.ref b35), .val (.ref b35), .val (.int (1 : Int32)), .unset] [(.ref r10), (.ref r9), (.ref b35)])) rfl (by rw [hml]; rfl) (argsL := [(.ref r9), (.ref r10)]) (rest := []) (lenOf pd_23 rfl) rfl (by show 2 * 0 + _ ≤ _; exact Nat.le_of_eq rfl) (hb hby at_287) (by decide) (by decide)
    obtain ⟨rfl, Nq40, Kq40, Ea40, Fl40, Eb40, Fc40, Fn40, Fv40, V40⟩ := hQ40
    refine OEnds.st (S' := T40.setTop (mkF m 290 #[.val (.int p0), .val (.int p1), .val (.int p2), .val (.int p3), .val (.int c4), .val (.int c5), .val (.int c6), .val (.int c7), .val (.int c8), .val (.int c9), .val (.int tw), .val (.ref b1), .val (.ref r7), .val (.ref r8), .val (.ref r9), .val (.ref r10), .val (.ref b11), .val (.ref b21), .val (.ref b35), .val (.ref b35), .val (.int (1 : Int32)), .unset] [(.ref b35)])) st40 ?_
    replace N0 := Fr.app N0 Nq40
    replace Eq9 := Eq9.keep Kq40
    replace Fc9 := Fc9.keep Kq40 (ninS ne_r9_bb36 (ninS ne_r9_tt36 nin0))
    replace Fv9 := Fv9.keep Kq40 (ninS ne_r9_bb36 (ninS ne_r9_tt36 nin0))
    replace V9 := V9.keep Kq40 (ninS ne_t9_bb36 (ninS ne_t9_tt36 nin0))
    replace Eq10 := Eq10.keep Kq40
    replace Fc10 := Fc10.keep Kq40 (ninS ne_r10_bb36 (ninS ne_r10_tt36 nin0))
    replace Fv10 := Fv10.keep Kq40 (ninS ne_r10_bb36 (ninS ne_r10_tt36 nin0))
    replace V10 := V10.keep Kq40 (ninS ne_t10_bb36 (ninS ne_t10_tt36 nin0))
    replace A21 := A21.keep Kq40
    replace Fc34 := Fc34.keep Kq40 (ninS ne_b21_bb36 (ninS ne_b21_tt36 nin0))
    replace Fv34 := Fv34.keep Kq40 (ninS ne_b21_bb36 (ninS ne_b21_tt36 nin0))
    replace V34 := V34.keep Kq40 (ninS ne_t34_bb36 (ninS ne_t34_tt36 nin0))
    replace A35 := A35.keep Kq40
    replace Fl36 := Fl36.keep Kq40 (ninS ne_b35_bb36 (ninS ne_b35_tt36 nin0))
    replace Eb36 := Eb36.keep Kq40
    replace O0 : Ext Z.heap h40 := ext_keep O0 Kq40 (allS ge_bb36 (allS ge_tt36 all0))
    rw [addL_6] at V40
    clear Eq9
    clear Fc9
    clear Fv9
    clear V9
    clear Eq10
    clear Fc10
    clear Fv10
    clear V10
    refine OEnds.st (S' := T40.setTop (mkF m 306 #[.val (.int p0), .val (.int p1), .val (.int p2), .val (.int p3), .val (.int c4), .val (.int c5), .val (.int c6), .val (.int c7), .val (.int c8), .val (.int c9), .val (.int tw), .val (.ref b1), .val (.ref r7), .val (.ref r8), .val (.ref r9), .val (.ref r10), .val (.ref b11), .val (.ref b21), .val (.ref b35), .val (.ref b35), .val (.int (1 : Int32)), .val (.ref b35)] [(.ref b35)])) (fun _ k => ?_) ?_
    · show Steps p.tables e below (T40.setTop (mkF m 290 #[.val (.int p0), .val (.int p1), .val (.int p2), .val (.int p3), .val (.int c4), .val (.int c5), .val (.int c6), .val (.int c7), .val (.int c8), .val (.int c9), .val (.int tw), .val (.ref b1), .val (.ref r7), .val (.ref r8), .val (.ref r9), .val (.ref r10), .val (.ref b11), .val (.ref b21), .val (.ref b35), .val (.ref b35), .val (.int (1 : Int32)), .unset] [(.ref b35)])) _
      refine XS.astore X40.here hx rfl (hb hby at_290) rfl rfl (l' := #[.val (.int p0), .val (.int p1), .val (.int p2), .val (.int p3), .val (.int c4), .val (.int c5), .val (.int c6), .val (.int c7), .val (.int c8), .val (.int c9), .val (.int tw), .val (.ref b1), .val (.ref r7), .val (.ref r8), .val (.ref r9), .val (.ref r10), .val (.ref b11), .val (.ref b21), .val (.ref b35), .val (.ref b35), .val (.int (1 : Int32)), .val (.ref b35)]) rfl ?_
      show Steps p.tables e below (T40.setTop (mkF m 292 #[.val (.int p0), .val (.int p1), .val (.int p2), .val (.int p3), .val (.int c4), .val (.int c5), .val (.int c6), .val (.int c7), .val (.int c8), .val (.int c9), .val (.int tw), .val (.ref b1), .val (.ref r7), .val (.ref r8), .val (.ref r9), .val (.ref r10), .val (.ref b11), .val (.ref b21), .val (.ref b35), .val (.ref b35), .val (.int (1 : Int32)), .val (.ref b35)] [])) _
      refine XS.iload X40.here hx rfl (hb hby at_292) rfl ?_
      show Steps p.tables e below (T40.setTop (mkF m 294 #[.val (.int p0), .val (.int p1), .val (.int p2), .val (.int p3), .val (.int c4), .val (.int c5), .val (.int c6), .val (.int c7), .val (.int c8), .val (.int c9), .val (.int tw), .val (.ref b1), .val (.ref r7), .val (.ref r8), .val (.ref r9), .val (.ref r10), .val (.ref b11), .val (.ref b21), .val (.ref b35), .val (.ref b35), .val (.int (1 : Int32)), .val (.ref b35)] [(.int (1 : Int32))])) _
      refine XS.ifNo X40.here hx rfl (hb hby at_294) rfl ((if0 _ _).trans (feq (by decide)).1) ?_
      show Steps p.tables e below (T40.setTop (mkF m 297 #[.val (.int p0), .val (.int p1), .val (.int p2), .val (.int p3), .val (.int c4), .val (.int c5), .val (.int c6), .val (.int c7), .val (.int c8), .val (.int c9), .val (.int tw), .val (.ref b1), .val (.ref r7), .val (.ref r8), .val (.ref r9), .val (.ref r10), .val (.ref b11), .val (.ref b21), .val (.ref b35), .val (.ref b35), .val (.int (1 : Int32)), .val (.ref b35)] [])) _
      refine XS.aload X40.here hx rfl (hb hby at_297) rfl rfl ?_
      show Steps p.tables e below (T40.setTop (mkF m 299 #[.val (.int p0), .val (.int p1), .val (.int p2), .val (.int p3), .val (.int c4), .val (.int c5), .val (.int c6), .val (.int c7), .val (.int c8), .val (.int c9), .val (.int tw), .val (.ref b1), .val (.ref r7), .val (.ref r8), .val (.ref r9), .val (.ref r10), .val (.ref b11), .val (.ref b21), .val (.ref b35), .val (.ref b35), .val (.int (1 : Int32)), .val (.ref b35)] [(.ref b35)])) _
      refine XS.aload X40.here hx rfl (hb hby at_299) rfl rfl ?_
      show Steps p.tables e below (T40.setTop (mkF m 301 #[.val (.int p0), .val (.int p1), .val (.int p2), .val (.int p3), .val (.int c4), .val (.int c5), .val (.int c6), .val (.int c7), .val (.int c8), .val (.int c9), .val (.int tw), .val (.ref b1), .val (.ref r7), .val (.ref r8), .val (.ref r9), .val (.ref r10), .val (.ref b11), .val (.ref b21), .val (.ref b35), .val (.ref b35), .val (.int (1 : Int32)), .val (.ref b35)] [(.ref b35), (.ref b35)])) _
      have hq301 : Jvm.Free.XT.acmp .ne ((.ref b35) : Value) ((.ref b35) : Value) = false := (Jvm.Free.XT.aa_ne_f rfl)
      refine Jvm.Free.XT.acmpNo X40.here hx rfl (hb hby at_301) rfl rfl rfl hq301 ?_
      show Steps p.tables e below (T40.setTop (mkF m 304 #[.val (.int p0), .val (.int p1), .val (.int p2), .val (.int p3), .val (.int c4), .val (.int c5), .val (.int c6), .val (.int c7), .val (.int c8), .val (.int c9), .val (.int tw), .val (.ref b1), .val (.ref r7), .val (.ref r8), .val (.ref r9), .val (.ref r10), .val (.ref b11), .val (.ref b21), .val (.ref b35), .val (.ref b35), .val (.int (1 : Int32)), .val (.ref b35)] [])) _
      refine XS.aload X40.here hx rfl (hb hby at_304) rfl rfl ?_
      exact k
    obtain ⟨_, T41, h41, L41, X41, e41, hQ41, st41⟩ := virtC X40 hx hZ (y := (⟨"cordon/cli/ResultLine", "toString", "()Ljava/lang/String;"⟩ : MethodName)) (z := (⟨"cordon/cli/ResultLine", "toString", "()Ljava/lang/String;"⟩ : MethodName)) hown (hw _ (List.mem_of_getElem? (i := 144) rfl)) (hw _ (List.mem_of_getElem? (i := 145) rfl)) (nf_sel (args := #[]) (mvT hZ (hw _ (List.mem_of_getElem? (i := 126) rfl))) rfl) (hw _ (List.mem_of_getElem? (i := 147) rfl)) (hw _ (List.mem_of_getElem? (i := 146) rfl)) (by decide) (kc := 2) (ks := 22) (Con.sb (W := 0) (rm_rlToStr l hD b35 bb36 tt36 kk36 18 10 ([(.int (c4).toInt8.toInt32), (.int (c5).toInt8.toInt32), (.int ((32 : Int32)).toInt8.toInt32), (.int (c6).toInt8.toInt32), (.int ((61 : Int32)).toInt8.toInt32), (.int (c7).toInt8.toInt32), (.int ((32 : Int32)).toInt8.toInt32), (.int (c8).toInt8.toInt32), (.int ((61 : Int32)).toInt8.toInt32), (.int (c9).toInt8.toInt32)] ++ List.replicate 8 (.int 0)) O0 Fl36 Eb36 Fc40 Fn40 Fv40 V40 (len_10 _ _ _ _ _ _ _ _ _ _ _ ) (by decide) (by decide) (by decide)) hZ (hw _ (List.mem_of_getElem? (i := 148) rfl)) (hw _ (List.mem_of_getElem? (i := 46) rfl)) (by decide) (by decide)) e40 A35 (g := (mkF m 306 #[.val (.int p0), .val (.int p1), .val (.int p2), .val (.int p3), .val (.int c4), .val (.int c5), .val (.int c6), .val (.int c7), .val (.int c8), .val (.int c9), .val (.int tw), .val (.ref b1), .val (.ref r7), .val (.ref r8), .val (.ref r9), .val (.ref r10), .val (.ref b11), .val (.ref b21), .val (.ref b35), .val (.ref b35), .val (.int (1 : Int32)), .val (.ref b35)] [(.ref b35)])) rfl (by rw [hml]; rfl) (argsL := []) (rest := []) (lenOf pd_20 rfl) rfl (by show 2 * 0 + _ ≤ _; exact Nat.le_of_eq rfl) (hb hby at_306) (by decide) (by decide)
    obtain ⟨x41, r41, kr41, rfl, Nq41, Kq41, szx41, szr41, nxr41, Ex41, Fc41, Fv41, V41⟩ := hQ41
    refine OEnds.st (S' := T41.setTop (mkF m 309 #[.val (.int p0), .val (.int p1), .val (.int p2), .val (.int p3), .val (.int c4), .val (.int c5), .val (.int c6), .val (.int c7), .val (.int c8), .val (.int c9), .val (.int tw), .val (.ref b1), .val (.ref r7), .val (.ref r8), .val (.ref r9), .val (.ref r10), .val (.ref b11), .val (.ref b21), .val (.ref b35), .val (.ref b35), .val (.int (1 : Int32)), .val (.ref b35)] [(.ref x41)])) st41 ?_
    replace N0 := Fr.app N0 Nq41
    have ne_b21_x41 : b21 ≠ x41 := Nat.ne_of_lt (Nat.lt_of_lt_of_le A21.lt szx41)
    have ne_b35_x41 : b35 ≠ x41 := Nat.ne_of_lt (Nat.lt_of_lt_of_le A35.lt szx41)
    have ne_bb36_x41 : bb36 ≠ x41 := Nat.ne_of_lt (Nat.lt_of_lt_of_le Eb36.lt szx41)
    have ne_t34_x41 : t34 ≠ x41 := Nat.ne_of_lt (Nat.lt_of_lt_of_le V34.lt szx41)
    have ne_tt36_x41 : tt36 ≠ x41 := Nat.ne_of_lt (Nat.lt_of_lt_of_le V40.lt szx41)
    have ge_x41 : Z.heap.size ≤ x41 := Nat.le_trans O0.1 szx41
    have ne_b21_r41 : b21 ≠ r41 := Nat.ne_of_lt (Nat.lt_of_lt_of_le A21.lt szr41)
    have ne_b35_r41 : b35 ≠ r41 := Nat.ne_of_lt (Nat.lt_of_lt_of_le A35.lt szr41)
    have ne_bb36_r41 : bb36 ≠ r41 := Nat.ne_of_lt (Nat.lt_of_lt_of_le Eb36.lt szr41)
    have ne_t34_r41 : t34 ≠ r41 := Nat.ne_of_lt (Nat.lt_of_lt_of_le V34.lt szr41)
    have ne_tt36_r41 : tt36 ≠ r41 := Nat.ne_of_lt (Nat.lt_of_lt_of_le V40.lt szr41)
    have ge_r41 : Z.heap.size ≤ r41 := Nat.le_trans O0.1 szr41
    replace A21 := A21.keep Kq41
    replace Fc34 := Fc34.keep Kq41 nin0
    replace Fv34 := Fv34.keep Kq41 nin0
    replace V34 := V34.keep Kq41 nin0
    replace A35 := A35.keep Kq41
    replace Fl36 := Fl36.keep Kq41 nin0
    replace Eb36 := Eb36.keep Kq41
    replace Fc40 := Fc40.keep Kq41 nin0
    replace Fn40 := Fn40.keep Kq41 nin0
    replace Fv40 := Fv40.keep Kq41 nin0
    replace V40 := V40.keep Kq41 nin0
    replace O0 : Ext Z.heap h41 := ext_keep O0 Kq41 all0
    rw [take_10] at V41
    refine OEnds.st (S' := T41.setTop (mkF m 311 #[.val (.int p0), .val (.int p1), .val (.int p2), .val (.int p3), .val (.int c4), .val (.int c5), .val (.int c6), .val (.int c7), .val (.int c8), .val (.int c9), .val (.int tw), .val (.ref b1), .val (.ref r7), .val (.ref r8), .val (.ref r9), .val (.ref r10), .val (.ref b11), .val (.ref b21), .val (.ref b35), .val (.ref b35), .val (.int (1 : Int32)), .val (.ref b35)] [(.ref b21), (.ref x41)])) (fun _ k => ?_) ?_
    · show Steps p.tables e below (T41.setTop (mkF m 309 #[.val (.int p0), .val (.int p1), .val (.int p2), .val (.int p3), .val (.int c4), .val (.int c5), .val (.int c6), .val (.int c7), .val (.int c8), .val (.int c9), .val (.int tw), .val (.ref b1), .val (.ref r7), .val (.ref r8), .val (.ref r9), .val (.ref r10), .val (.ref b11), .val (.ref b21), .val (.ref b35), .val (.ref b35), .val (.int (1 : Int32)), .val (.ref b35)] [(.ref x41)])) _
      refine XS.aload X41.here hx rfl (hb hby at_309) rfl rfl ?_
      exact k
    obtain ⟨_, T42, h42, L42, X42, e42, hQ42, st42⟩ := virtC X41 hx hZ (y := (⟨"java/lang/String", "equals", "(Ljava/lang/Object;)Z"⟩ : MethodName)) (z := (⟨"java/lang/String", "equals", "(Ljava/lang/Object;)Z"⟩ : MethodName)) hown (hw _ (List.mem_of_getElem? (i := 190) rfl)) (hw _ (List.mem_of_getElem? (i := 191) rfl)) (nf_sel (args := #[]) (mvT hZ (hw _ (List.mem_of_getElem? (i := 67) rfl))) rfl) (hw _ (List.mem_of_getElem? (i := 193) rfl)) (hw _ (List.mem_of_getElem? (i := 192) rfl)) (by decide) (kc := 0) (ks := 0) (SB.mono (SB.of (Q := fun v h' L => ((v = some (.int 1) ∧ ([c4, c5, (32 : Int32), c6, (61 : Int32), c7, (32 : Int32), c8, (61 : Int32), c9] : List Int32) = ([c4, c5, (32 : Int32), c6, (61 : Int32), c7, (32 : Int32), c8, (61 : Int32), c9] : List Int32)) ∨ (v = some (.int 0) ∧ ¬ ([c4, c5, (32 : Int32), c6, (61 : Int32), c7, (32 : Int32), c8, (61 : Int32), c9] : List Int32) = ([c4, c5, (32 : Int32), c6, (61 : Int32), c7, (32 : Int32), c8, (61 : Int32), c9] : List Int32))) ∧ L = [] ∧ h' = h41) (StrChars.Road.eqW (W := 0) hZ heq (kI := 4) (hw _ (List.mem_of_getElem? (i := 1) rfl)) (cs := ([c4, c5, (32 : Int32), c6, (61 : Int32), c7, (32 : Int32), c8, (61 : Int32), c9] : List Int32)) (ds := ([c4, c5, (32 : Int32), c6, (61 : Int32), c7, (32 : Int32), c8, (61 : Int32), c9] : List Int32)) Ex41 Fv41 Fc41 V41 (StrChars.Road.codOf (cs := ([c4, c5, (32 : Int32), c6, (61 : Int32), c7, (32 : Int32), c8, (61 : Int32), c9] : List Int32)) (n := 10) rfl (fun c hc => (hp33 c hc).2)) (fun c hc => ⟨(hp33 c hc).1, fun q => (hp33 c hc).2 (Int32.lt_trans (by decide) q)⟩) (Nat.le_of_ble_eq_true rfl) A21 Fv34 Fc34 V34 (StrChars.Road.codOf (cs := ([c4, c5, (32 : Int32), c6, (61 : Int32), c7, (32 : Int32), c8, (61 : Int32), c9] : List Int32)) (n := 10) rfl (fun c hc => (hp33 c hc).2)) (fun c hc => ⟨(hp33 c hc).1, fun q => (hp33 c hc).2 (Int32.lt_trans (by decide) q)⟩) (Nat.le_of_ble_eq_true rfl) (S_CS.ext O0) hcz (by decide) (by decide))) (Q' := fun v h' L => v = some (.int 1) ∧ Fr Z.heap.size L ∧ h' = h41) (fun v h' L q => ⟨q.1.elim (·.1) (fun r => absurd rfl r.2), q.2.1 ▸ Fr.nil _, q.2.2⟩)) e41 Ex41 (g := (mkF m 311 #[.val (.int p0), .val (.int p1), .val (.int p2), .val (.int p3), .val (.int c4), .val (.int c5), .val (.int c6), .val (.int c7), .val (.int c8), .val (.int c9), .val (.int tw), .val (.ref b1), .val (.ref r7), .val (.ref r8), .val (.ref r9), .val (.ref r10), .val (.ref b11), .val (.ref b21), .val (.ref b35), .val (.ref b35), .val (.int (1 : Int32)), .val (.ref b35)] [(.ref b21), (.ref x41)])) rfl (by rw [hml]; rfl) (argsL := [(.ref b21)]) (rest := []) (lenOf pd_24 rfl) rfl (by show 2 * 0 + _ ≤ _; exact Nat.le_of_eq rfl) (hb hby at_311) (by decide) (by decide)
    obtain ⟨rfl, Nq42, Hq42⟩ := hQ42
    refine OEnds.st (S' := T42.setTop (mkF m 314 #[.val (.int p0), .val (.int p1), .val (.int p2), .val (.int p3), .val (.int c4), .val (.int c5), .val (.int c6), .val (.int c7), .val (.int c8), .val (.int c9), .val (.int tw), .val (.ref b1), .val (.ref r7), .val (.ref r8), .val (.ref r9), .val (.ref r10), .val (.ref b11), .val (.ref b21), .val (.ref b35), .val (.ref b35), .val (.int (1 : Int32)), .val (.ref b35)] [(.int (1 : Int32))])) st42 ?_
    replace N0 := Fr.app N0 Nq42
    replace e42 := e42.trans Hq42
    refine OEnds.st (S' := T42.setTop (mkF m 322 #[.val (.int p0), .val (.int p1), .val (.int p2), .val (.int p3), .val (.int c4), .val (.int c5), .val (.int c6), .val (.int c7), .val (.int c8), .val (.int c9), .val (.int tw), .val (.ref b1), .val (.ref r7), .val (.ref r8), .val (.ref r9), .val (.ref r10), .val (.ref b11), .val (.ref b21), .val (.ref b35), .val (.ref b35), .val (.int (1 : Int32)), .val (.ref b35)] [(.int (1 : Int32))])) (fun _ k => ?_) ?_
    · show Steps p.tables e below (T42.setTop (mkF m 314 #[.val (.int p0), .val (.int p1), .val (.int p2), .val (.int p3), .val (.int c4), .val (.int c5), .val (.int c6), .val (.int c7), .val (.int c8), .val (.int c9), .val (.int tw), .val (.ref b1), .val (.ref r7), .val (.ref r8), .val (.ref r9), .val (.ref r10), .val (.ref b11), .val (.ref b21), .val (.ref b35), .val (.ref b35), .val (.int (1 : Int32)), .val (.ref b35)] [(.int (1 : Int32))])) _
      refine XS.ifNo X42.here hx rfl (hb hby at_314) rfl ((if0 _ _).trans (feq (by decide)).1) ?_
      show Steps p.tables e below (T42.setTop (mkF m 317 #[.val (.int p0), .val (.int p1), .val (.int p2), .val (.int p3), .val (.int c4), .val (.int c5), .val (.int c6), .val (.int c7), .val (.int c8), .val (.int c9), .val (.int tw), .val (.ref b1), .val (.ref r7), .val (.ref r8), .val (.ref r9), .val (.ref r10), .val (.ref b11), .val (.ref b21), .val (.ref b35), .val (.ref b35), .val (.int (1 : Int32)), .val (.ref b35)] [])) _
      refine XS.iconst X42.here hx rfl (hb hby at_317) ?_
      show Steps p.tables e below (T42.setTop (mkF m 318 #[.val (.int p0), .val (.int p1), .val (.int p2), .val (.int p3), .val (.int c4), .val (.int c5), .val (.int c6), .val (.int c7), .val (.int c8), .val (.int c9), .val (.int tw), .val (.ref b1), .val (.ref r7), .val (.ref r8), .val (.ref r9), .val (.ref r10), .val (.ref b11), .val (.ref b21), .val (.ref b35), .val (.ref b35), .val (.int (1 : Int32)), .val (.ref b35)] [(.int (1 : Int32))])) _
      refine XS.goto X42.here hx rfl (pc0 := 318) (pc' := 322) rfl (hb hby at_318) (by decide) (by decide) ?_
      exact k
    exact OEnds.ret X42 hx hret hlk (by decide) (Or.inl ⟨rfl, by simp, _, rfl⟩) (hb hby at_322) (by decide) (by decide) (by rw [e42]; exact ⟨rfl, N0⟩)
-- cordon/cli/ResultLineAddPinLaw.law:(IIII)Z
theorem ef_law (m : MethodId) (p0 : Int32) (p1 : Int32) (p2 : Int32) (p3 : Int32) : entryFrame m #[(.int p0), (.int p1), (.int p2), (.int p3)] maxLocals = mkF m 0 #[.val (.int p0), .val (.int p1), .val (.int p2), .val (.int p3), .unset, .unset, .unset, .unset, .unset, .unset, .unset, .unset, .unset, .unset, .unset, .unset, .unset, .unset, .unset, .unset, .unset, .unset] [] := by first | (simp [entryFrame, mkF, argsToLocals, Value.category, maxLocals]; done) | rfl
theorem pn_6 : plainName "cordon/cli/ResultLineAddPinLaw" = true := by first | (simp [plainName, overriddenIn]; done) | decide +kernel
set_option maxRecDepth 65536 in
set_option maxHeartbeats 40000000 in
theorem rm_law (l : Launch) {Z : State} {a0 : Array Value} (hD : Wd Z a0) (p0 : Int32) (p1 : Int32) (p2 : Int32) (p3 : Int32) {h0 : Heap} (O0 : Ext Z.heap h0) :
    Con l Z x code maxLocals ret tables_1 room_1 #[(.int p0), (.int p1), (.int p2), (.int p3)] h0 (Q_law Z) := by
  refine Con.walk (plainFor_of_name pn_6) ?_
  intro p e s m below meth c T0 X0 hx hZ hby hml hown hnm hret hlk e0
  obtain ⟨hw, cz, S_CS, hcz⟩ := id hD
  have N0 := Fr.nil Z.heap.size
  refine OEnds.cast (ef_law m p0 p1 p2 p3) ?_
  refine OEnds.st (S' := T0.setTop (mkF m 57 #[.val (.int p0), .val (.int p1), .val (.int p2), .val (.int p3), .val (.int ((p0 &&& (255 : Int32)).toUInt32.toUInt16.toUInt32.toInt32)), .val (.int ((((p0.toUInt32 >>> ((8 : Int32) &&& 31).toUInt32).toInt32) &&& (255 : Int32)).toUInt32.toUInt16.toUInt32.toInt32)), .val (.int ((p1 &&& (255 : Int32)).toUInt32.toUInt16.toUInt32.toInt32)), .val (.int ((((p1.toUInt32 >>> ((8 : Int32) &&& 31).toUInt32).toInt32) &&& (255 : Int32)).toUInt32.toUInt16.toUInt32.toInt32)), .val (.int ((p2 &&& (255 : Int32)).toUInt32.toUInt16.toUInt32.toInt32)), .val (.int ((((p2.toUInt32 >>> ((8 : Int32) &&& 31).toUInt32).toInt32) &&& (255 : Int32)).toUInt32.toUInt16.toUInt32.toInt32)), .unset, .unset, .unset, .unset, .unset, .unset, .unset, .unset, .unset, .unset, .unset, .unset] [])) (fun _ k => ?_) ?_
  · show Steps p.tables e below (T0.setTop (mkF m 0 #[.val (.int p0), .val (.int p1), .val (.int p2), .val (.int p3), .unset, .unset, .unset, .unset, .unset, .unset, .unset, .unset, .unset, .unset, .unset, .unset, .unset, .unset, .unset, .unset, .unset, .unset] [])) _
    refine XS.iloadN X0.here hx rfl (hb hby at_0) rfl ?_
    show Steps p.tables e below (T0.setTop (mkF m 1 #[.val (.int p0), .val (.int p1), .val (.int p2), .val (.int p3), .unset, .unset, .unset, .unset, .unset, .unset, .unset, .unset, .unset, .unset, .unset, .unset, .unset, .unset, .unset, .unset, .unset, .unset] [(.int p0)])) _
    refine XS.sipush X0.here hx rfl (hb hby at_1) ?_
    show Steps p.tables e below (T0.setTop (mkF m 4 #[.val (.int p0), .val (.int p1), .val (.int p2), .val (.int p3), .unset, .unset, .unset, .unset, .unset, .unset, .unset, .unset, .unset, .unset, .unset, .unset, .unset, .unset, .unset, .unset, .unset, .unset] [(.int (255 : Int32)), (.int p0)])) _
    refine XS.iand X0.here hx rfl (hb hby at_4) rfl ?_
    show Steps p.tables e below (T0.setTop (mkF m 5 #[.val (.int p0), .val (.int p1), .val (.int p2), .val (.int p3), .unset, .unset, .unset, .unset, .unset, .unset, .unset, .unset, .unset, .unset, .unset, .unset, .unset, .unset, .unset, .unset, .unset, .unset] [(.int (p0 &&& (255 : Int32)))])) _
    refine XS.i2c X0.here hx rfl (hb hby at_5) rfl ?_
    show Steps p.tables e below (T0.setTop (mkF m 6 #[.val (.int p0), .val (.int p1), .val (.int p2), .val (.int p3), .unset, .unset, .unset, .unset, .unset, .unset, .unset, .unset, .unset, .unset, .unset, .unset, .unset, .unset, .unset, .unset, .unset, .unset] [(.int ((p0 &&& (255 : Int32)).toUInt32.toUInt16.toUInt32.toInt32))])) _
    refine XS.istore X0.here hx rfl (hb hby at_6) rfl (l' := #[.val (.int p0), .val (.int p1), .val (.int p2), .val (.int p3), .val (.int ((p0 &&& (255 : Int32)).toUInt32.toUInt16.toUInt32.toInt32)), .unset, .unset, .unset, .unset, .unset, .unset, .unset, .unset, .unset, .unset, .unset, .unset, .unset, .unset, .unset, .unset, .unset]) rfl ?_
    show Steps p.tables e below (T0.setTop (mkF m 8 #[.val (.int p0), .val (.int p1), .val (.int p2), .val (.int p3), .val (.int ((p0 &&& (255 : Int32)).toUInt32.toUInt16.toUInt32.toInt32)), .unset, .unset, .unset, .unset, .unset, .unset, .unset, .unset, .unset, .unset, .unset, .unset, .unset, .unset, .unset, .unset, .unset] [])) _
    refine XS.iloadN X0.here hx rfl (hb hby at_8) rfl ?_
    show Steps p.tables e below (T0.setTop (mkF m 9 #[.val (.int p0), .val (.int p1), .val (.int p2), .val (.int p3), .val (.int ((p0 &&& (255 : Int32)).toUInt32.toUInt16.toUInt32.toInt32)), .unset, .unset, .unset, .unset, .unset, .unset, .unset, .unset, .unset, .unset, .unset, .unset, .unset, .unset, .unset, .unset, .unset] [(.int p0)])) _
    refine XS.bipush X0.here hx rfl (hb hby at_9) ?_
    show Steps p.tables e below (T0.setTop (mkF m 11 #[.val (.int p0), .val (.int p1), .val (.int p2), .val (.int p3), .val (.int ((p0 &&& (255 : Int32)).toUInt32.toUInt16.toUInt32.toInt32)), .unset, .unset, .unset, .unset, .unset, .unset, .unset, .unset, .unset, .unset, .unset, .unset, .unset, .unset, .unset, .unset, .unset] [(.int (8 : Int32)), (.int p0)])) _
    refine XS.iushr X0.here hx rfl (hb hby at_11) rfl ?_
    show Steps p.tables e below (T0.setTop (mkF m 12 #[.val (.int p0), .val (.int p1), .val (.int p2), .val (.int p3), .val (.int ((p0 &&& (255 : Int32)).toUInt32.toUInt16.toUInt32.toInt32)), .unset, .unset, .unset, .unset, .unset, .unset, .unset, .unset, .unset, .unset, .unset, .unset, .unset, .unset, .unset, .unset, .unset] [(.int ((p0.toUInt32 >>> ((8 : Int32) &&& 31).toUInt32).toInt32))])) _
    refine XS.sipush X0.here hx rfl (hb hby at_12) ?_
    show Steps p.tables e below (T0.setTop (mkF m 15 #[.val (.int p0), .val (.int p1), .val (.int p2), .val (.int p3), .val (.int ((p0 &&& (255 : Int32)).toUInt32.toUInt16.toUInt32.toInt32)), .unset, .unset, .unset, .unset, .unset, .unset, .unset, .unset, .unset, .unset, .unset, .unset, .unset, .unset, .unset, .unset, .unset] [(.int (255 : Int32)), (.int ((p0.toUInt32 >>> ((8 : Int32) &&& 31).toUInt32).toInt32))])) _
    refine XS.iand X0.here hx rfl (hb hby at_15) rfl ?_
    show Steps p.tables e below (T0.setTop (mkF m 16 #[.val (.int p0), .val (.int p1), .val (.int p2), .val (.int p3), .val (.int ((p0 &&& (255 : Int32)).toUInt32.toUInt16.toUInt32.toInt32)), .unset, .unset, .unset, .unset, .unset, .unset, .unset, .unset, .unset, .unset, .unset, .unset, .unset, .unset, .unset, .unset, .unset] [(.int (((p0.toUInt32 >>> ((8 : Int32) &&& 31).toUInt32).toInt32) &&& (255 : Int32)))])) _
    refine XS.i2c X0.here hx rfl (hb hby at_16) rfl ?_
    show Steps p.tables e below (T0.setTop (mkF m 17 #[.val (.int p0), .val (.int p1), .val (.int p2), .val (.int p3), .val (.int ((p0 &&& (255 : Int32)).toUInt32.toUInt16.toUInt32.toInt32)), .unset, .unset, .unset, .unset, .unset, .unset, .unset, .unset, .unset, .unset, .unset, .unset, .unset, .unset, .unset, .unset, .unset] [(.int ((((p0.toUInt32 >>> ((8 : Int32) &&& 31).toUInt32).toInt32) &&& (255 : Int32)).toUInt32.toUInt16.toUInt32.toInt32))])) _
    refine XS.istore X0.here hx rfl (hb hby at_17) rfl (l' := #[.val (.int p0), .val (.int p1), .val (.int p2), .val (.int p3), .val (.int ((p0 &&& (255 : Int32)).toUInt32.toUInt16.toUInt32.toInt32)), .val (.int ((((p0.toUInt32 >>> ((8 : Int32) &&& 31).toUInt32).toInt32) &&& (255 : Int32)).toUInt32.toUInt16.toUInt32.toInt32)), .unset, .unset, .unset, .unset, .unset, .unset, .unset, .unset, .unset, .unset, .unset, .unset, .unset, .unset, .unset, .unset]) rfl ?_
    show Steps p.tables e below (T0.setTop (mkF m 19 #[.val (.int p0), .val (.int p1), .val (.int p2), .val (.int p3), .val (.int ((p0 &&& (255 : Int32)).toUInt32.toUInt16.toUInt32.toInt32)), .val (.int ((((p0.toUInt32 >>> ((8 : Int32) &&& 31).toUInt32).toInt32) &&& (255 : Int32)).toUInt32.toUInt16.toUInt32.toInt32)), .unset, .unset, .unset, .unset, .unset, .unset, .unset, .unset, .unset, .unset, .unset, .unset, .unset, .unset, .unset, .unset] [])) _
    refine XS.iloadN X0.here hx rfl (hb hby at_19) rfl ?_
    show Steps p.tables e below (T0.setTop (mkF m 20 #[.val (.int p0), .val (.int p1), .val (.int p2), .val (.int p3), .val (.int ((p0 &&& (255 : Int32)).toUInt32.toUInt16.toUInt32.toInt32)), .val (.int ((((p0.toUInt32 >>> ((8 : Int32) &&& 31).toUInt32).toInt32) &&& (255 : Int32)).toUInt32.toUInt16.toUInt32.toInt32)), .unset, .unset, .unset, .unset, .unset, .unset, .unset, .unset, .unset, .unset, .unset, .unset, .unset, .unset, .unset, .unset] [(.int p1)])) _
    refine XS.sipush X0.here hx rfl (hb hby at_20) ?_
    show Steps p.tables e below (T0.setTop (mkF m 23 #[.val (.int p0), .val (.int p1), .val (.int p2), .val (.int p3), .val (.int ((p0 &&& (255 : Int32)).toUInt32.toUInt16.toUInt32.toInt32)), .val (.int ((((p0.toUInt32 >>> ((8 : Int32) &&& 31).toUInt32).toInt32) &&& (255 : Int32)).toUInt32.toUInt16.toUInt32.toInt32)), .unset, .unset, .unset, .unset, .unset, .unset, .unset, .unset, .unset, .unset, .unset, .unset, .unset, .unset, .unset, .unset] [(.int (255 : Int32)), (.int p1)])) _
    refine XS.iand X0.here hx rfl (hb hby at_23) rfl ?_
    show Steps p.tables e below (T0.setTop (mkF m 24 #[.val (.int p0), .val (.int p1), .val (.int p2), .val (.int p3), .val (.int ((p0 &&& (255 : Int32)).toUInt32.toUInt16.toUInt32.toInt32)), .val (.int ((((p0.toUInt32 >>> ((8 : Int32) &&& 31).toUInt32).toInt32) &&& (255 : Int32)).toUInt32.toUInt16.toUInt32.toInt32)), .unset, .unset, .unset, .unset, .unset, .unset, .unset, .unset, .unset, .unset, .unset, .unset, .unset, .unset, .unset, .unset] [(.int (p1 &&& (255 : Int32)))])) _
    refine XS.i2c X0.here hx rfl (hb hby at_24) rfl ?_
    show Steps p.tables e below (T0.setTop (mkF m 25 #[.val (.int p0), .val (.int p1), .val (.int p2), .val (.int p3), .val (.int ((p0 &&& (255 : Int32)).toUInt32.toUInt16.toUInt32.toInt32)), .val (.int ((((p0.toUInt32 >>> ((8 : Int32) &&& 31).toUInt32).toInt32) &&& (255 : Int32)).toUInt32.toUInt16.toUInt32.toInt32)), .unset, .unset, .unset, .unset, .unset, .unset, .unset, .unset, .unset, .unset, .unset, .unset, .unset, .unset, .unset, .unset] [(.int ((p1 &&& (255 : Int32)).toUInt32.toUInt16.toUInt32.toInt32))])) _
    refine XS.istore X0.here hx rfl (hb hby at_25) rfl (l' := #[.val (.int p0), .val (.int p1), .val (.int p2), .val (.int p3), .val (.int ((p0 &&& (255 : Int32)).toUInt32.toUInt16.toUInt32.toInt32)), .val (.int ((((p0.toUInt32 >>> ((8 : Int32) &&& 31).toUInt32).toInt32) &&& (255 : Int32)).toUInt32.toUInt16.toUInt32.toInt32)), .val (.int ((p1 &&& (255 : Int32)).toUInt32.toUInt16.toUInt32.toInt32)), .unset, .unset, .unset, .unset, .unset, .unset, .unset, .unset, .unset, .unset, .unset, .unset, .unset, .unset, .unset]) rfl ?_
    show Steps p.tables e below (T0.setTop (mkF m 27 #[.val (.int p0), .val (.int p1), .val (.int p2), .val (.int p3), .val (.int ((p0 &&& (255 : Int32)).toUInt32.toUInt16.toUInt32.toInt32)), .val (.int ((((p0.toUInt32 >>> ((8 : Int32) &&& 31).toUInt32).toInt32) &&& (255 : Int32)).toUInt32.toUInt16.toUInt32.toInt32)), .val (.int ((p1 &&& (255 : Int32)).toUInt32.toUInt16.toUInt32.toInt32)), .unset, .unset, .unset, .unset, .unset, .unset, .unset, .unset, .unset, .unset, .unset, .unset, .unset, .unset, .unset] [])) _
    refine XS.iloadN X0.here hx rfl (hb hby at_27) rfl ?_
    show Steps p.tables e below (T0.setTop (mkF m 28 #[.val (.int p0), .val (.int p1), .val (.int p2), .val (.int p3), .val (.int ((p0 &&& (255 : Int32)).toUInt32.toUInt16.toUInt32.toInt32)), .val (.int ((((p0.toUInt32 >>> ((8 : Int32) &&& 31).toUInt32).toInt32) &&& (255 : Int32)).toUInt32.toUInt16.toUInt32.toInt32)), .val (.int ((p1 &&& (255 : Int32)).toUInt32.toUInt16.toUInt32.toInt32)), .unset, .unset, .unset, .unset, .unset, .unset, .unset, .unset, .unset, .unset, .unset, .unset, .unset, .unset, .unset] [(.int p1)])) _
    refine XS.bipush X0.here hx rfl (hb hby at_28) ?_
    show Steps p.tables e below (T0.setTop (mkF m 30 #[.val (.int p0), .val (.int p1), .val (.int p2), .val (.int p3), .val (.int ((p0 &&& (255 : Int32)).toUInt32.toUInt16.toUInt32.toInt32)), .val (.int ((((p0.toUInt32 >>> ((8 : Int32) &&& 31).toUInt32).toInt32) &&& (255 : Int32)).toUInt32.toUInt16.toUInt32.toInt32)), .val (.int ((p1 &&& (255 : Int32)).toUInt32.toUInt16.toUInt32.toInt32)), .unset, .unset, .unset, .unset, .unset, .unset, .unset, .unset, .unset, .unset, .unset, .unset, .unset, .unset, .unset] [(.int (8 : Int32)), (.int p1)])) _
    refine XS.iushr X0.here hx rfl (hb hby at_30) rfl ?_
    show Steps p.tables e below (T0.setTop (mkF m 31 #[.val (.int p0), .val (.int p1), .val (.int p2), .val (.int p3), .val (.int ((p0 &&& (255 : Int32)).toUInt32.toUInt16.toUInt32.toInt32)), .val (.int ((((p0.toUInt32 >>> ((8 : Int32) &&& 31).toUInt32).toInt32) &&& (255 : Int32)).toUInt32.toUInt16.toUInt32.toInt32)), .val (.int ((p1 &&& (255 : Int32)).toUInt32.toUInt16.toUInt32.toInt32)), .unset, .unset, .unset, .unset, .unset, .unset, .unset, .unset, .unset, .unset, .unset, .unset, .unset, .unset, .unset] [(.int ((p1.toUInt32 >>> ((8 : Int32) &&& 31).toUInt32).toInt32))])) _
    refine XS.sipush X0.here hx rfl (hb hby at_31) ?_
    show Steps p.tables e below (T0.setTop (mkF m 34 #[.val (.int p0), .val (.int p1), .val (.int p2), .val (.int p3), .val (.int ((p0 &&& (255 : Int32)).toUInt32.toUInt16.toUInt32.toInt32)), .val (.int ((((p0.toUInt32 >>> ((8 : Int32) &&& 31).toUInt32).toInt32) &&& (255 : Int32)).toUInt32.toUInt16.toUInt32.toInt32)), .val (.int ((p1 &&& (255 : Int32)).toUInt32.toUInt16.toUInt32.toInt32)), .unset, .unset, .unset, .unset, .unset, .unset, .unset, .unset, .unset, .unset, .unset, .unset, .unset, .unset, .unset] [(.int (255 : Int32)), (.int ((p1.toUInt32 >>> ((8 : Int32) &&& 31).toUInt32).toInt32))])) _
    refine XS.iand X0.here hx rfl (hb hby at_34) rfl ?_
    show Steps p.tables e below (T0.setTop (mkF m 35 #[.val (.int p0), .val (.int p1), .val (.int p2), .val (.int p3), .val (.int ((p0 &&& (255 : Int32)).toUInt32.toUInt16.toUInt32.toInt32)), .val (.int ((((p0.toUInt32 >>> ((8 : Int32) &&& 31).toUInt32).toInt32) &&& (255 : Int32)).toUInt32.toUInt16.toUInt32.toInt32)), .val (.int ((p1 &&& (255 : Int32)).toUInt32.toUInt16.toUInt32.toInt32)), .unset, .unset, .unset, .unset, .unset, .unset, .unset, .unset, .unset, .unset, .unset, .unset, .unset, .unset, .unset] [(.int (((p1.toUInt32 >>> ((8 : Int32) &&& 31).toUInt32).toInt32) &&& (255 : Int32)))])) _
    refine XS.i2c X0.here hx rfl (hb hby at_35) rfl ?_
    show Steps p.tables e below (T0.setTop (mkF m 36 #[.val (.int p0), .val (.int p1), .val (.int p2), .val (.int p3), .val (.int ((p0 &&& (255 : Int32)).toUInt32.toUInt16.toUInt32.toInt32)), .val (.int ((((p0.toUInt32 >>> ((8 : Int32) &&& 31).toUInt32).toInt32) &&& (255 : Int32)).toUInt32.toUInt16.toUInt32.toInt32)), .val (.int ((p1 &&& (255 : Int32)).toUInt32.toUInt16.toUInt32.toInt32)), .unset, .unset, .unset, .unset, .unset, .unset, .unset, .unset, .unset, .unset, .unset, .unset, .unset, .unset, .unset] [(.int ((((p1.toUInt32 >>> ((8 : Int32) &&& 31).toUInt32).toInt32) &&& (255 : Int32)).toUInt32.toUInt16.toUInt32.toInt32))])) _
    refine XS.istore X0.here hx rfl (hb hby at_36) rfl (l' := #[.val (.int p0), .val (.int p1), .val (.int p2), .val (.int p3), .val (.int ((p0 &&& (255 : Int32)).toUInt32.toUInt16.toUInt32.toInt32)), .val (.int ((((p0.toUInt32 >>> ((8 : Int32) &&& 31).toUInt32).toInt32) &&& (255 : Int32)).toUInt32.toUInt16.toUInt32.toInt32)), .val (.int ((p1 &&& (255 : Int32)).toUInt32.toUInt16.toUInt32.toInt32)), .val (.int ((((p1.toUInt32 >>> ((8 : Int32) &&& 31).toUInt32).toInt32) &&& (255 : Int32)).toUInt32.toUInt16.toUInt32.toInt32)), .unset, .unset, .unset, .unset, .unset, .unset, .unset, .unset, .unset, .unset, .unset, .unset, .unset, .unset]) rfl ?_
    show Steps p.tables e below (T0.setTop (mkF m 38 #[.val (.int p0), .val (.int p1), .val (.int p2), .val (.int p3), .val (.int ((p0 &&& (255 : Int32)).toUInt32.toUInt16.toUInt32.toInt32)), .val (.int ((((p0.toUInt32 >>> ((8 : Int32) &&& 31).toUInt32).toInt32) &&& (255 : Int32)).toUInt32.toUInt16.toUInt32.toInt32)), .val (.int ((p1 &&& (255 : Int32)).toUInt32.toUInt16.toUInt32.toInt32)), .val (.int ((((p1.toUInt32 >>> ((8 : Int32) &&& 31).toUInt32).toInt32) &&& (255 : Int32)).toUInt32.toUInt16.toUInt32.toInt32)), .unset, .unset, .unset, .unset, .unset, .unset, .unset, .unset, .unset, .unset, .unset, .unset, .unset, .unset] [])) _
    refine XS.iloadN X0.here hx rfl (hb hby at_38) rfl ?_
    show Steps p.tables e below (T0.setTop (mkF m 39 #[.val (.int p0), .val (.int p1), .val (.int p2), .val (.int p3), .val (.int ((p0 &&& (255 : Int32)).toUInt32.toUInt16.toUInt32.toInt32)), .val (.int ((((p0.toUInt32 >>> ((8 : Int32) &&& 31).toUInt32).toInt32) &&& (255 : Int32)).toUInt32.toUInt16.toUInt32.toInt32)), .val (.int ((p1 &&& (255 : Int32)).toUInt32.toUInt16.toUInt32.toInt32)), .val (.int ((((p1.toUInt32 >>> ((8 : Int32) &&& 31).toUInt32).toInt32) &&& (255 : Int32)).toUInt32.toUInt16.toUInt32.toInt32)), .unset, .unset, .unset, .unset, .unset, .unset, .unset, .unset, .unset, .unset, .unset, .unset, .unset, .unset] [(.int p2)])) _
    refine XS.sipush X0.here hx rfl (hb hby at_39) ?_
    show Steps p.tables e below (T0.setTop (mkF m 42 #[.val (.int p0), .val (.int p1), .val (.int p2), .val (.int p3), .val (.int ((p0 &&& (255 : Int32)).toUInt32.toUInt16.toUInt32.toInt32)), .val (.int ((((p0.toUInt32 >>> ((8 : Int32) &&& 31).toUInt32).toInt32) &&& (255 : Int32)).toUInt32.toUInt16.toUInt32.toInt32)), .val (.int ((p1 &&& (255 : Int32)).toUInt32.toUInt16.toUInt32.toInt32)), .val (.int ((((p1.toUInt32 >>> ((8 : Int32) &&& 31).toUInt32).toInt32) &&& (255 : Int32)).toUInt32.toUInt16.toUInt32.toInt32)), .unset, .unset, .unset, .unset, .unset, .unset, .unset, .unset, .unset, .unset, .unset, .unset, .unset, .unset] [(.int (255 : Int32)), (.int p2)])) _
    refine XS.iand X0.here hx rfl (hb hby at_42) rfl ?_
    show Steps p.tables e below (T0.setTop (mkF m 43 #[.val (.int p0), .val (.int p1), .val (.int p2), .val (.int p3), .val (.int ((p0 &&& (255 : Int32)).toUInt32.toUInt16.toUInt32.toInt32)), .val (.int ((((p0.toUInt32 >>> ((8 : Int32) &&& 31).toUInt32).toInt32) &&& (255 : Int32)).toUInt32.toUInt16.toUInt32.toInt32)), .val (.int ((p1 &&& (255 : Int32)).toUInt32.toUInt16.toUInt32.toInt32)), .val (.int ((((p1.toUInt32 >>> ((8 : Int32) &&& 31).toUInt32).toInt32) &&& (255 : Int32)).toUInt32.toUInt16.toUInt32.toInt32)), .unset, .unset, .unset, .unset, .unset, .unset, .unset, .unset, .unset, .unset, .unset, .unset, .unset, .unset] [(.int (p2 &&& (255 : Int32)))])) _
    refine XS.i2c X0.here hx rfl (hb hby at_43) rfl ?_
    show Steps p.tables e below (T0.setTop (mkF m 44 #[.val (.int p0), .val (.int p1), .val (.int p2), .val (.int p3), .val (.int ((p0 &&& (255 : Int32)).toUInt32.toUInt16.toUInt32.toInt32)), .val (.int ((((p0.toUInt32 >>> ((8 : Int32) &&& 31).toUInt32).toInt32) &&& (255 : Int32)).toUInt32.toUInt16.toUInt32.toInt32)), .val (.int ((p1 &&& (255 : Int32)).toUInt32.toUInt16.toUInt32.toInt32)), .val (.int ((((p1.toUInt32 >>> ((8 : Int32) &&& 31).toUInt32).toInt32) &&& (255 : Int32)).toUInt32.toUInt16.toUInt32.toInt32)), .unset, .unset, .unset, .unset, .unset, .unset, .unset, .unset, .unset, .unset, .unset, .unset, .unset, .unset] [(.int ((p2 &&& (255 : Int32)).toUInt32.toUInt16.toUInt32.toInt32))])) _
    refine XS.istore X0.here hx rfl (hb hby at_44) rfl (l' := #[.val (.int p0), .val (.int p1), .val (.int p2), .val (.int p3), .val (.int ((p0 &&& (255 : Int32)).toUInt32.toUInt16.toUInt32.toInt32)), .val (.int ((((p0.toUInt32 >>> ((8 : Int32) &&& 31).toUInt32).toInt32) &&& (255 : Int32)).toUInt32.toUInt16.toUInt32.toInt32)), .val (.int ((p1 &&& (255 : Int32)).toUInt32.toUInt16.toUInt32.toInt32)), .val (.int ((((p1.toUInt32 >>> ((8 : Int32) &&& 31).toUInt32).toInt32) &&& (255 : Int32)).toUInt32.toUInt16.toUInt32.toInt32)), .val (.int ((p2 &&& (255 : Int32)).toUInt32.toUInt16.toUInt32.toInt32)), .unset, .unset, .unset, .unset, .unset, .unset, .unset, .unset, .unset, .unset, .unset, .unset, .unset]) rfl ?_
    show Steps p.tables e below (T0.setTop (mkF m 46 #[.val (.int p0), .val (.int p1), .val (.int p2), .val (.int p3), .val (.int ((p0 &&& (255 : Int32)).toUInt32.toUInt16.toUInt32.toInt32)), .val (.int ((((p0.toUInt32 >>> ((8 : Int32) &&& 31).toUInt32).toInt32) &&& (255 : Int32)).toUInt32.toUInt16.toUInt32.toInt32)), .val (.int ((p1 &&& (255 : Int32)).toUInt32.toUInt16.toUInt32.toInt32)), .val (.int ((((p1.toUInt32 >>> ((8 : Int32) &&& 31).toUInt32).toInt32) &&& (255 : Int32)).toUInt32.toUInt16.toUInt32.toInt32)), .val (.int ((p2 &&& (255 : Int32)).toUInt32.toUInt16.toUInt32.toInt32)), .unset, .unset, .unset, .unset, .unset, .unset, .unset, .unset, .unset, .unset, .unset, .unset, .unset] [])) _
    refine XS.iloadN X0.here hx rfl (hb hby at_46) rfl ?_
    show Steps p.tables e below (T0.setTop (mkF m 47 #[.val (.int p0), .val (.int p1), .val (.int p2), .val (.int p3), .val (.int ((p0 &&& (255 : Int32)).toUInt32.toUInt16.toUInt32.toInt32)), .val (.int ((((p0.toUInt32 >>> ((8 : Int32) &&& 31).toUInt32).toInt32) &&& (255 : Int32)).toUInt32.toUInt16.toUInt32.toInt32)), .val (.int ((p1 &&& (255 : Int32)).toUInt32.toUInt16.toUInt32.toInt32)), .val (.int ((((p1.toUInt32 >>> ((8 : Int32) &&& 31).toUInt32).toInt32) &&& (255 : Int32)).toUInt32.toUInt16.toUInt32.toInt32)), .val (.int ((p2 &&& (255 : Int32)).toUInt32.toUInt16.toUInt32.toInt32)), .unset, .unset, .unset, .unset, .unset, .unset, .unset, .unset, .unset, .unset, .unset, .unset, .unset] [(.int p2)])) _
    refine XS.bipush X0.here hx rfl (hb hby at_47) ?_
    show Steps p.tables e below (T0.setTop (mkF m 49 #[.val (.int p0), .val (.int p1), .val (.int p2), .val (.int p3), .val (.int ((p0 &&& (255 : Int32)).toUInt32.toUInt16.toUInt32.toInt32)), .val (.int ((((p0.toUInt32 >>> ((8 : Int32) &&& 31).toUInt32).toInt32) &&& (255 : Int32)).toUInt32.toUInt16.toUInt32.toInt32)), .val (.int ((p1 &&& (255 : Int32)).toUInt32.toUInt16.toUInt32.toInt32)), .val (.int ((((p1.toUInt32 >>> ((8 : Int32) &&& 31).toUInt32).toInt32) &&& (255 : Int32)).toUInt32.toUInt16.toUInt32.toInt32)), .val (.int ((p2 &&& (255 : Int32)).toUInt32.toUInt16.toUInt32.toInt32)), .unset, .unset, .unset, .unset, .unset, .unset, .unset, .unset, .unset, .unset, .unset, .unset, .unset] [(.int (8 : Int32)), (.int p2)])) _
    refine XS.iushr X0.here hx rfl (hb hby at_49) rfl ?_
    show Steps p.tables e below (T0.setTop (mkF m 50 #[.val (.int p0), .val (.int p1), .val (.int p2), .val (.int p3), .val (.int ((p0 &&& (255 : Int32)).toUInt32.toUInt16.toUInt32.toInt32)), .val (.int ((((p0.toUInt32 >>> ((8 : Int32) &&& 31).toUInt32).toInt32) &&& (255 : Int32)).toUInt32.toUInt16.toUInt32.toInt32)), .val (.int ((p1 &&& (255 : Int32)).toUInt32.toUInt16.toUInt32.toInt32)), .val (.int ((((p1.toUInt32 >>> ((8 : Int32) &&& 31).toUInt32).toInt32) &&& (255 : Int32)).toUInt32.toUInt16.toUInt32.toInt32)), .val (.int ((p2 &&& (255 : Int32)).toUInt32.toUInt16.toUInt32.toInt32)), .unset, .unset, .unset, .unset, .unset, .unset, .unset, .unset, .unset, .unset, .unset, .unset, .unset] [(.int ((p2.toUInt32 >>> ((8 : Int32) &&& 31).toUInt32).toInt32))])) _
    refine XS.sipush X0.here hx rfl (hb hby at_50) ?_
    show Steps p.tables e below (T0.setTop (mkF m 53 #[.val (.int p0), .val (.int p1), .val (.int p2), .val (.int p3), .val (.int ((p0 &&& (255 : Int32)).toUInt32.toUInt16.toUInt32.toInt32)), .val (.int ((((p0.toUInt32 >>> ((8 : Int32) &&& 31).toUInt32).toInt32) &&& (255 : Int32)).toUInt32.toUInt16.toUInt32.toInt32)), .val (.int ((p1 &&& (255 : Int32)).toUInt32.toUInt16.toUInt32.toInt32)), .val (.int ((((p1.toUInt32 >>> ((8 : Int32) &&& 31).toUInt32).toInt32) &&& (255 : Int32)).toUInt32.toUInt16.toUInt32.toInt32)), .val (.int ((p2 &&& (255 : Int32)).toUInt32.toUInt16.toUInt32.toInt32)), .unset, .unset, .unset, .unset, .unset, .unset, .unset, .unset, .unset, .unset, .unset, .unset, .unset] [(.int (255 : Int32)), (.int ((p2.toUInt32 >>> ((8 : Int32) &&& 31).toUInt32).toInt32))])) _
    refine XS.iand X0.here hx rfl (hb hby at_53) rfl ?_
    show Steps p.tables e below (T0.setTop (mkF m 54 #[.val (.int p0), .val (.int p1), .val (.int p2), .val (.int p3), .val (.int ((p0 &&& (255 : Int32)).toUInt32.toUInt16.toUInt32.toInt32)), .val (.int ((((p0.toUInt32 >>> ((8 : Int32) &&& 31).toUInt32).toInt32) &&& (255 : Int32)).toUInt32.toUInt16.toUInt32.toInt32)), .val (.int ((p1 &&& (255 : Int32)).toUInt32.toUInt16.toUInt32.toInt32)), .val (.int ((((p1.toUInt32 >>> ((8 : Int32) &&& 31).toUInt32).toInt32) &&& (255 : Int32)).toUInt32.toUInt16.toUInt32.toInt32)), .val (.int ((p2 &&& (255 : Int32)).toUInt32.toUInt16.toUInt32.toInt32)), .unset, .unset, .unset, .unset, .unset, .unset, .unset, .unset, .unset, .unset, .unset, .unset, .unset] [(.int (((p2.toUInt32 >>> ((8 : Int32) &&& 31).toUInt32).toInt32) &&& (255 : Int32)))])) _
    refine XS.i2c X0.here hx rfl (hb hby at_54) rfl ?_
    show Steps p.tables e below (T0.setTop (mkF m 55 #[.val (.int p0), .val (.int p1), .val (.int p2), .val (.int p3), .val (.int ((p0 &&& (255 : Int32)).toUInt32.toUInt16.toUInt32.toInt32)), .val (.int ((((p0.toUInt32 >>> ((8 : Int32) &&& 31).toUInt32).toInt32) &&& (255 : Int32)).toUInt32.toUInt16.toUInt32.toInt32)), .val (.int ((p1 &&& (255 : Int32)).toUInt32.toUInt16.toUInt32.toInt32)), .val (.int ((((p1.toUInt32 >>> ((8 : Int32) &&& 31).toUInt32).toInt32) &&& (255 : Int32)).toUInt32.toUInt16.toUInt32.toInt32)), .val (.int ((p2 &&& (255 : Int32)).toUInt32.toUInt16.toUInt32.toInt32)), .unset, .unset, .unset, .unset, .unset, .unset, .unset, .unset, .unset, .unset, .unset, .unset, .unset] [(.int ((((p2.toUInt32 >>> ((8 : Int32) &&& 31).toUInt32).toInt32) &&& (255 : Int32)).toUInt32.toUInt16.toUInt32.toInt32))])) _
    refine XS.istore X0.here hx rfl (hb hby at_55) rfl (l' := #[.val (.int p0), .val (.int p1), .val (.int p2), .val (.int p3), .val (.int ((p0 &&& (255 : Int32)).toUInt32.toUInt16.toUInt32.toInt32)), .val (.int ((((p0.toUInt32 >>> ((8 : Int32) &&& 31).toUInt32).toInt32) &&& (255 : Int32)).toUInt32.toUInt16.toUInt32.toInt32)), .val (.int ((p1 &&& (255 : Int32)).toUInt32.toUInt16.toUInt32.toInt32)), .val (.int ((((p1.toUInt32 >>> ((8 : Int32) &&& 31).toUInt32).toInt32) &&& (255 : Int32)).toUInt32.toUInt16.toUInt32.toInt32)), .val (.int ((p2 &&& (255 : Int32)).toUInt32.toUInt16.toUInt32.toInt32)), .val (.int ((((p2.toUInt32 >>> ((8 : Int32) &&& 31).toUInt32).toInt32) &&& (255 : Int32)).toUInt32.toUInt16.toUInt32.toInt32)), .unset, .unset, .unset, .unset, .unset, .unset, .unset, .unset, .unset, .unset, .unset, .unset]) rfl ?_
    exact k
  generalize hg_c4 : ((p0 &&& (255 : Int32)).toUInt32.toUInt16.toUInt32.toInt32) = c4
  have hc4 : ¬ c4 < 0 ∧ ¬ (255 : Int32) < c4 := hg_c4 ▸ i2c255
  generalize hg_c5 : ((((p0.toUInt32 >>> ((8 : Int32) &&& 31).toUInt32).toInt32) &&& (255 : Int32)).toUInt32.toUInt16.toUInt32.toInt32) = c5
  have hc5 : ¬ c5 < 0 ∧ ¬ (255 : Int32) < c5 := hg_c5 ▸ i2c255
  generalize hg_c6 : ((p1 &&& (255 : Int32)).toUInt32.toUInt16.toUInt32.toInt32) = c6
  have hc6 : ¬ c6 < 0 ∧ ¬ (255 : Int32) < c6 := hg_c6 ▸ i2c255
  generalize hg_c7 : ((((p1.toUInt32 >>> ((8 : Int32) &&& 31).toUInt32).toInt32) &&& (255 : Int32)).toUInt32.toUInt16.toUInt32.toInt32) = c7
  have hc7 : ¬ c7 < 0 ∧ ¬ (255 : Int32) < c7 := hg_c7 ▸ i2c255
  generalize hg_c8 : ((p2 &&& (255 : Int32)).toUInt32.toUInt16.toUInt32.toInt32) = c8
  have hc8 : ¬ c8 < 0 ∧ ¬ (255 : Int32) < c8 := hg_c8 ▸ i2c255
  generalize hg_c9 : ((((p2.toUInt32 >>> ((8 : Int32) &&& 31).toUInt32).toInt32) &&& (255 : Int32)).toUInt32.toUInt16.toUInt32.toInt32) = c9
  have hc9 : ¬ c9 < 0 ∧ ¬ (255 : Int32) < c9 := hg_c9 ▸ i2c255
  refine OEnds.st (S' := T0.setTop (mkF m 60 #[.val (.int p0), .val (.int p1), .val (.int p2), .val (.int p3), .val (.int c4), .val (.int c5), .val (.int c6), .val (.int c7), .val (.int c8), .val (.int c9), .unset, .unset, .unset, .unset, .unset, .unset, .unset, .unset, .unset, .unset, .unset, .unset] [(.int (p3 &&& (1 : Int32)))])) (fun _ k => ?_) ?_
  · show Steps p.tables e below (T0.setTop (mkF m 57 #[.val (.int p0), .val (.int p1), .val (.int p2), .val (.int p3), .val (.int c4), .val (.int c5), .val (.int c6), .val (.int c7), .val (.int c8), .val (.int c9), .unset, .unset, .unset, .unset, .unset, .unset, .unset, .unset, .unset, .unset, .unset, .unset] [])) _
    refine XS.iloadN X0.here hx rfl (hb hby at_57) rfl ?_
    show Steps p.tables e below (T0.setTop (mkF m 58 #[.val (.int p0), .val (.int p1), .val (.int p2), .val (.int p3), .val (.int c4), .val (.int c5), .val (.int c6), .val (.int c7), .val (.int c8), .val (.int c9), .unset, .unset, .unset, .unset, .unset, .unset, .unset, .unset, .unset, .unset, .unset, .unset] [(.int p3)])) _
    refine XS.iconst X0.here hx rfl (hb hby at_58) ?_
    show Steps p.tables e below (T0.setTop (mkF m 59 #[.val (.int p0), .val (.int p1), .val (.int p2), .val (.int p3), .val (.int c4), .val (.int c5), .val (.int c6), .val (.int c7), .val (.int c8), .val (.int c9), .unset, .unset, .unset, .unset, .unset, .unset, .unset, .unset, .unset, .unset, .unset, .unset] [(.int (1 : Int32)), (.int p3)])) _
    refine XS.iand X0.here hx rfl (hb hby at_59) rfl ?_
    exact k
  rcases Classical.em ((p3 &&& (1 : Int32)) = (0 : Int32)) with hd | hd
  · refine OEnds.st (S' := T0.setTop (mkF m 70 #[.val (.int p0), .val (.int p1), .val (.int p2), .val (.int p3), .val (.int c4), .val (.int c5), .val (.int c6), .val (.int c7), .val (.int c8), .val (.int c9), .val (.int (0 : Int32)), .unset, .unset, .unset, .unset, .unset, .unset, .unset, .unset, .unset, .unset, .unset] [])) (fun _ k => ?_) ?_
    · show Steps p.tables e below (T0.setTop (mkF m 60 #[.val (.int p0), .val (.int p1), .val (.int p2), .val (.int p3), .val (.int c4), .val (.int c5), .val (.int c6), .val (.int c7), .val (.int c8), .val (.int c9), .unset, .unset, .unset, .unset, .unset, .unset, .unset, .unset, .unset, .unset, .unset, .unset] [(.int (p3 &&& (1 : Int32)))])) _
      refine XS.ifYes X0.here hx rfl (pc0 := 60) (pc' := 67) rfl (hb hby at_60) rfl ((if0 _ _).trans (teq hd).1) (by decide) (by decide) ?_
      show Steps p.tables e below (T0.setTop (mkF m 67 #[.val (.int p0), .val (.int p1), .val (.int p2), .val (.int p3), .val (.int c4), .val (.int c5), .val (.int c6), .val (.int c7), .val (.int c8), .val (.int c9), .unset, .unset, .unset, .unset, .unset, .unset, .unset, .unset, .unset, .unset, .unset, .unset] [])) _
      refine XS.iconst X0.here hx rfl (hb hby at_67) ?_
      show Steps p.tables e below (T0.setTop (mkF m 68 #[.val (.int p0), .val (.int p1), .val (.int p2), .val (.int p3), .val (.int c4), .val (.int c5), .val (.int c6), .val (.int c7), .val (.int c8), .val (.int c9), .unset, .unset, .unset, .unset, .unset, .unset, .unset, .unset, .unset, .unset, .unset, .unset] [(.int (0 : Int32))])) _
      refine XS.istore X0.here hx rfl (hb hby at_68) rfl (l' := #[.val (.int p0), .val (.int p1), .val (.int p2), .val (.int p3), .val (.int c4), .val (.int c5), .val (.int c6), .val (.int c7), .val (.int c8), .val (.int c9), .val (.int (0 : Int32)), .unset, .unset, .unset, .unset, .unset, .unset, .unset, .unset, .unset, .unset, .unset]) rfl ?_
      exact k
    exact sg_70 hD p0 p1 p2 p3 c4 c5 c6 c7 c8 c9 (0 : Int32) O0 X0 hx hZ hby hml hown hnm hret hlk e0 N0 hc4 hc5 hc6 hc7 hc8 hc9
  · refine OEnds.st (S' := T0.setTop (mkF m 70 #[.val (.int p0), .val (.int p1), .val (.int p2), .val (.int p3), .val (.int c4), .val (.int c5), .val (.int c6), .val (.int c7), .val (.int c8), .val (.int c9), .val (.int (1 : Int32)), .unset, .unset, .unset, .unset, .unset, .unset, .unset, .unset, .unset, .unset, .unset] [])) (fun _ k => ?_) ?_
    · show Steps p.tables e below (T0.setTop (mkF m 60 #[.val (.int p0), .val (.int p1), .val (.int p2), .val (.int p3), .val (.int c4), .val (.int c5), .val (.int c6), .val (.int c7), .val (.int c8), .val (.int c9), .unset, .unset, .unset, .unset, .unset, .unset, .unset, .unset, .unset, .unset, .unset, .unset] [(.int (p3 &&& (1 : Int32)))])) _
      refine XS.ifNo X0.here hx rfl (hb hby at_60) rfl ((if0 _ _).trans (feq hd).1) ?_
      show Steps p.tables e below (T0.setTop (mkF m 63 #[.val (.int p0), .val (.int p1), .val (.int p2), .val (.int p3), .val (.int c4), .val (.int c5), .val (.int c6), .val (.int c7), .val (.int c8), .val (.int c9), .unset, .unset, .unset, .unset, .unset, .unset, .unset, .unset, .unset, .unset, .unset, .unset] [])) _
      refine XS.iconst X0.here hx rfl (hb hby at_63) ?_
      show Steps p.tables e below (T0.setTop (mkF m 64 #[.val (.int p0), .val (.int p1), .val (.int p2), .val (.int p3), .val (.int c4), .val (.int c5), .val (.int c6), .val (.int c7), .val (.int c8), .val (.int c9), .unset, .unset, .unset, .unset, .unset, .unset, .unset, .unset, .unset, .unset, .unset, .unset] [(.int (1 : Int32))])) _
      refine XS.goto X0.here hx rfl (pc0 := 64) (pc' := 68) rfl (hb hby at_64) (by decide) (by decide) ?_
      show Steps p.tables e below (T0.setTop (mkF m 68 #[.val (.int p0), .val (.int p1), .val (.int p2), .val (.int p3), .val (.int c4), .val (.int c5), .val (.int c6), .val (.int c7), .val (.int c8), .val (.int c9), .unset, .unset, .unset, .unset, .unset, .unset, .unset, .unset, .unset, .unset, .unset, .unset] [(.int (1 : Int32))])) _
      refine XS.istore X0.here hx rfl (hb hby at_68) rfl (l' := #[.val (.int p0), .val (.int p1), .val (.int p2), .val (.int p3), .val (.int c4), .val (.int c5), .val (.int c6), .val (.int c7), .val (.int c8), .val (.int c9), .val (.int (1 : Int32)), .unset, .unset, .unset, .unset, .unset, .unset, .unset, .unset, .unset, .unset, .unset]) rfl ?_
      exact k
    exact sg_70 hD p0 p1 p2 p3 c4 c5 c6 c7 c8 c9 (1 : Int32) O0 X0 hx hZ hby hml hown hnm hret hlk e0 N0 hc4 hc5 hc6 hc7 hc8 hc9
set_option maxRecDepth 65536 in
set_option maxHeartbeats 40000000 in
theorem comes_1 {Post : Tables → Env → Array Value → State → Outcome → State → Prop} (hpost : ∀ tb e args s v u, (limb_1_1.after args s (.returned v) u = true ∧ limb_1_2.after args s (.returned v) u = true ∧ True) → FrameEnd s (.returned v) u (Jvm.fieldLocs frame_1_writes args s ++ Jvm.arrayLocs frame_1_arrays args s ++ Jvm.staticLocs frame_1_statics s) 56 320 → Post tb e args s (.returned v) u) :
    ArmFor flags0 classFile x code maxLocals ret World_1 tables_1 room_1 Calls_1 rest_1 Pre_1 Post := by
  intro l hfl _ _ p e ha hc hk s m args below hf hA hF happ hP
  obtain ⟨hcalls, hrest, hpre⟩ := hP
  obtain ⟨-, -, -, hnamed, -, -, -, hat⟩ := (Spec.applies_iff hf).mp happ
  obtain ⟨hg, hn⟩ := and_e (Cond.before_iff.mp (show (Jvm.Cond.and given_1 narrow_1).before args s = true from hpre))
  obtain ⟨g0, g1⟩ := and_e hg
  obtain ⟨ga0, g2⟩ := and_e g1
  obtain ⟨ga1, g3⟩ := and_e g2
  obtain ⟨ga2, g4⟩ := and_e g3
  obtain ⟨w0, w1, w2, w3, rfl⟩ : ∃ w0 w1 w2 w3 : Value, args = #[w0, w1, w2, w3] := by
    have hs : args.size = 4 := by simpa [Cond.value, given_1] using g0
    obtain ⟨L⟩ := args
    match L, hs with
    | [w0, w1, w2, w3], _ => exact ⟨w0, w1, w2, w3, rfl⟩
  have hw := fun d (hd : d ∈ tables_1) => atoms_spec (ws := Jvm.Cond.code x code maxLocals ret :: tables_1) hat d (List.mem_cons_of_mem _ hd)
  have hfit : Fit s := fun {y c} hc i hi => by
    obtain ⟨ha, rfl⟩ := Array.getElem?_eq_some_iff.mp hc
    have q := List.all_eq_true.mp ((Array.all_eq_true_iff_forall_mem.mp hF) _ (Array.getElem_mem ha)) i (List.mem_range.mpr hi)
    simpa [Array.getElem?_eq_getElem hi] using q
  obtain ⟨hsets, hown0⟩ := atoms_of _ (rest_1_c_eq ▸ (show rest_1_c.before _ s = true from hrest))
  obtain ⟨i0, ei0⟩ := is_v ga0
  obtain rfl : w0 = (.int i0) := Option.some.inj ei0
  obtain ⟨i1, ei1⟩ := is_v ga1
  obtain rfl : w1 = (.int i1) := Option.some.inj ei1
  obtain ⟨i2, ei2⟩ := is_v ga2
  obtain rfl : w2 = (.int i2) := Option.some.inj ei2
  obtain ⟨i3, ei3⟩ := is_v g4
  obtain rfl : w3 = (.int i3) := Option.some.inj ei3
  obtain ⟨cz, ecz⟩ := is_v (Cond.before_iff.mp (hsets _ (List.mem_of_getElem? (i := 1) rfl)))
  have S_CS : Sta s s.heap "java/lang/String" "COMPACT_STRINGS" "Z" (.int cz) := Sta.start ecz (Or.inl (hsets _ (List.mem_of_getElem? (i := 0) rfl)))
  have hcz : ¬ (cz = (0 : Int32)) := gotF (Cond.eq_ints ecz (Term.int_eval (0))) (not_v (Cond.before_iff.mp (hsets _ (List.mem_of_getElem? (i := 2) rfl))))
  have hD : Wd s _ := ⟨hw, cz, S_CS, hcz⟩
  obtain ⟨n, o, h1, h2, h3, _, L, rfl, ⟨rfl, N⟩, hq⟩ := rm_law l hD i0 i1 i2 i3 (ext_refl s.heap) p e ha hc hk s m _ below hf ((Spec.applies_iff_loose hf).mp happ).1 ⟨rfl, State.Warmed39.refl s, rfl⟩ trivial
  refine ⟨n, _, h1, h2, h3, hpost _ _ _ _ _ _ ⟨Cond.after_iff.mpr rfl, Cond.after_iff.mpr (eq_i res_at (Term.int_eval (1)) rfl), trivial⟩ ⟨hq.1, hq.2.1, (hq.2.2.sift fun y hy => Or.inr (N y hy)).mono (by decide) (by decide)⟩⟩
theorem main_1_1 : Claimed_1_1 := comes_1 fun _ _ _ _ _ _ h hF => ⟨h.1, hF⟩
theorem main_1_2 : Claimed_1_2 := comes_1 fun _ _ _ _ _ _ h hF => ⟨h.2.1, hF⟩
end Jvm.Pilot.@@N@@
namespace Jvm.Pilot.@@N@@
open Jvm Jvm.ClassFile Sem Op Lib Jvm.Free Jvm.Stand Jvm.Pilot.@@N@@.Jvm.D
/-! MADE BY PROGRAM (witnessworld.py) out of the Statement's table words and the real class files: 26 classes; the members and pool entries that the words name. The judged class is class 1, her method 1. -/
namespace start1
open Jvm.ClassFile
def u (s : String) : CpInfo := .utf8 (stringToUtf16 s)
/-- a pool by its gaps: so many unusable entries, then the entry; so many at the end -/
def gap : Nat → List CpInfo → List CpInfo
  | 0, r => r
  | n + 1, r => .unusable :: gap n r
def poolList (es : List (Nat × CpInfo)) (last : Nat) : List CpInfo := es.foldr (fun e r => gap e.1 (e.2 :: r)) (gap last [])
def pool (es : List (Nat × CpInfo)) (last : Nat) : Array CpInfo := ⟨poolList es last⟩
def fileOf (pool : Array CpInfo) (this : Nat) (attrs : Array Attribute := #[]) (ms : Array MethodInfo := #[]) (fl : Nat := 33) (sup : Nat := 0) (ifs : Array Nat := #[]) (fds : Array FieldInfo := #[]) : ClassFile where
  minorVersion := 0
  majorVersion := 65
  constantPool := pool
  accessFlags := fl
  thisClass := this
  superClass := sup
  interfaces := ifs
  fields := fds
  methods := ms
  attributes := attrs
def plain (name : String) (sup : Option ClassId) : Class where
  name := name
  kind := .ordinary
  loader := none
  accessFlags := 33
  super := sup
  interfaces := #[]
  cf := none
  fields := #[]
  methods := #[]
  instanceTypes := #[]
  staticTypes := #[]
  resolved := #[]
  callSites := []
  init := .initialized
  statics := none
  mirror := none

def pool0 : Array CpInfo := pool [(5, u "<init>"), (0, u "()V"), (1, .class_ 10), (1, u "java/lang/Object")] 113

def k0c0 : Code := { maxStack := 0, maxLocals := 1, code := object_method_1_code, exceptionTable := #[], attributes := #[] }
def k0m0 : Method := { name := "<init>", desc := "()V", sig := { parameters := [], returnType := none }, accessFlags := 1, code := some k0c0 }
/-- java/lang/Object -/
def k0 : Class := { plain "java/lang/Object" none with
  accessFlags := 33
  interfaces := #[]
  cf := some (fileOf pool0 8 #[] #[{ accessFlags := 1, nameIndex := 5, descriptorIndex := 6, attributes := #[] }] 33 0 #[] #[])
  fields := #[]
  methods := #[k0m0]
  instanceTypes := #[]
  staticTypes := #[]
  resolved := Array.replicate 124 none
  statics := none }

def pool1 : Array CpInfo := pool [(2, .class_ 4), (1, u "java/lang/Object"), (0, u "<init>"), (0, u "()V"), (0, .class_ 8), (0, u "java/lang/String"), (0, .methodref 7 10), (0, .nameAndType 5 11), (0, u "([C)V"), (0, .methodref 7 13), (0, .nameAndType 14 15), (0, u "valueOf"), (0, u "(C)Ljava/lang/String;"), (0, .class_ 17), (0, u "cordon/cli/ResultLine"), (0, .methodref 16 19), (0, .nameAndType 5 20), (0, u "(Ljava/lang/String;)V"), (0, .methodref 16 22), (0, .nameAndType 23 24), (0, u "add"), (0, u "(Ljava/lang/String;Ljava/lang/String;)Lcordon/cli/ResultLine;"), (0, .methodref 16 26), (0, .nameAndType 27 28), (0, u "toString"), (0, u "()Ljava/lang/String;"), (0, .methodref 7 30), (0, .nameAndType 31 32), (0, u "equals"), (0, u "(Ljava/lang/Object;)Z"), (0, .class_ 34), (0, u "cordon/cli/ResultLineAddPinLaw"), (2, u "law"), (0, u "(IIII)Z")] 3

def k1m0 : Method := { name := "<init>", desc := "()V", sig := { parameters := [], returnType := none }, accessFlags := 1, code := none }
def k1c1 : Code := { maxStack := 6, maxLocals := 22, code := code, exceptionTable := #[], attributes := #[] }
def k1m1 : Method := { name := "law", desc := "(IIII)Z", sig := { parameters := [.int, .int, .int, .int], returnType := some .boolean }, accessFlags := 9, code := some k1c1 }
/-- cordon/cli/ResultLineAddPinLaw -/
def k1 : Class := { plain "cordon/cli/ResultLineAddPinLaw" (some 0) with
  accessFlags := 49
  interfaces := #[]
  cf := some (fileOf pool1 33 #[] #[{ accessFlags := 1, nameIndex := 5, descriptorIndex := 6, attributes := #[] }, { accessFlags := 9, nameIndex := 37, descriptorIndex := 38, attributes := #[] }] 49 2 #[] #[])
  fields := #[]
  methods := #[k1m0, k1m1]
  instanceTypes := #[]
  staticTypes := #[]
  resolved := Array.replicate 42 none
  statics := none }

def pool2 : Array CpInfo := pool [(1, .class_ 2), (0, u "java/io/Serializable"), (0, .class_ 4), (0, u "java/lang/Object")] 2

/-- java/io/Serializable -/
def k2 : Class := { plain "java/io/Serializable" (some 0) with
  accessFlags := 1537
  interfaces := #[]
  cf := some (fileOf pool2 1 #[] #[] 1537 3 #[] #[])
  fields := #[]
  methods := #[]
  instanceTypes := #[]
  staticTypes := #[]
  resolved := Array.replicate 7 none
  statics := none }

def pool3 : Array CpInfo := pool [(1, .class_ 2), (0, u "java/lang/Comparable"), (0, .class_ 4), (0, u "java/lang/Object")] 7

/-- java/lang/Comparable -/
def k3 : Class := { plain "java/lang/Comparable" (some 0) with
  accessFlags := 1537
  interfaces := #[]
  cf := some (fileOf pool3 1 #[] #[] 1537 3 #[] #[])
  fields := #[]
  methods := #[]
  instanceTypes := #[]
  staticTypes := #[]
  resolved := Array.replicate 12 none
  statics := none }

def pool4 : Array CpInfo := pool [(2, .class_ 4), (1, u "java/lang/CharSequence"), (42, .class_ 48), (0, u "java/lang/CharSequence$1CodePointIterator"), (10, .class_ 60), (0, u "java/lang/CharSequence$1CharIterator"), (5, .class_ 67), (0, u "java/lang/Object")] 63

/-- java/lang/CharSequence -/
def k4 : Class := { plain "java/lang/CharSequence" (some 0) with
  accessFlags := 1537
  interfaces := #[]
  cf := some (fileOf pool4 2 #[.nestMembers #[47, 59]] #[] 1537 66 #[] #[])
  fields := #[]
  methods := #[]
  instanceTypes := #[]
  staticTypes := #[]
  resolved := Array.replicate 131 none
  statics := none }

def pool5 : Array CpInfo := pool [(1, .class_ 2), (0, u "java/lang/constant/Constable"), (0, .class_ 4), (0, u "java/lang/Object")] 6

/-- java/lang/constant/Constable -/
def k5 : Class := { plain "java/lang/constant/Constable" (some 0) with
  accessFlags := 1537
  interfaces := #[]
  cf := some (fileOf pool5 1 #[] #[] 1537 3 #[] #[])
  fields := #[]
  methods := #[]
  instanceTypes := #[]
  staticTypes := #[]
  resolved := Array.replicate 11 none
  statics := none }

def pool6 : Array CpInfo := pool [(1, .class_ 2), (0, u "java/lang/constant/ConstantDesc"), (0, .class_ 4), (0, u "java/lang/Object")] 32

/-- java/lang/constant/ConstantDesc -/
def k6 : Class := { plain "java/lang/constant/ConstantDesc" (some 0) with
  accessFlags := 1537
  interfaces := #[]
  cf := some (fileOf pool6 1 #[] #[] 1537 3 #[] #[])
  fields := #[]
  methods := #[]
  instanceTypes := #[]
  staticTypes := #[]
  resolved := Array.replicate 37 none
  statics := none }

def pool7 : Array CpInfo := pool [(1, .methodref 2 3), (0, .class_ 4), (0, .nameAndType 5 6), (0, u "java/lang/Object"), (0, u "<init>"), (0, u "()V"), (2, .fieldref 10 11), (0, .class_ 12), (0, .nameAndType 13 14), (0, u "java/lang/String"), (0, u "value"), (0, u "[B"), (0, .fieldref 10 16), (0, .nameAndType 17 18), (0, u "coder"), (0, u "B"), (2, u "hash"), (0, u "I"), (2, u "hashIsZero"), (0, u "Z"), (0, .methodref 10 28), (0, .nameAndType 5 29), (0, u "([CIILjava/lang/Void;)V"), (8, .fieldref 10 39), (0, .nameAndType 40 26), (0, u "COMPACT_STRINGS"), (1, .class_ 44), (1, u "java/lang/StringUTF16"), (0, u "compress"), (1, .methodref 42 48), (0, .nameAndType 49 50), (0, u "coderFromArrayLen"), (0, u "([BI)B"), (2, u "toBytes"), (0, .methodref 55 56), (0, .class_ 57), (0, .nameAndType 58 59), (0, u "java/util/Arrays"), (0, u "copyOfRange"), (0, u "([BII)[B"), (47, .class_ 109), (1, u "java/lang/StringLatin1"), (32, u "()Z"), (34, .methodref 42 178), (0, .nameAndType 45 179), (0, u "([CII)[B"), (13, .class_ 195), (1, u "java/lang/System"), (13, .methodref 10 210), (0, .nameAndType 5 211), (0, u "([BB)V"), (0, .methodref 193 213), (0, .nameAndType 214 215), (0, u "arraycopy"), (0, u "(Ljava/lang/Object;ILjava/lang/Object;II)V"), (118, u "()I"), (0, .methodref 10 336), (0, .nameAndType 17 337), (0, u "()B"), (2, u "()[B"), (28, u "(C)Z"), (119, .methodref 10 490), (0, .nameAndType 5 491), (0, u "(Ljava/lang/AbstractStringBuilder;Ljava/lang/Void;)V"), (1, .nameAndType 494 142), (0, u "isLatin1"), (11, .nameAndType 507 334), (0, u "length"), (24, u "getBytes"), (8, .methodref 107 542), (0, .nameAndType 543 544), (0, u "equals"), (0, u "([B[B)Z"), (4, .methodref 550 506), (0, .class_ 551), (0, u "java/lang/AbstractStringBuilder"), (0, .methodref 550 553), (0, .nameAndType 554 340), (0, u "getValue"), (18, u "(Ljava/lang/Object;)Z"), (1, .class_ 576), (0, u "java/lang/CharSequence"), (22, u "CASE_INSENSITIVE_ORDER"), (0, u "Ljava/util/Comparator;"), (181, u "valueOf"), (0, u "(C)Ljava/lang/String;"), (37, u "([BIB)V"), (188, u "([C)V"), (4, .methodref 107 1016), (0, .nameAndType 1017 369), (0, u "canEncode"), (0, .methodref 107 1019), (0, .nameAndType 53 1020), (0, u "(C)[B"), (26, .methodref 550 493), (53, u "serialPersistentFields"), (0, u "[Ljava/io/ObjectStreamField;"), (0, .class_ 1104), (0, u "java/lang/String$CaseInsensitiveComparator"), (1, .class_ 1107), (0, u "java/io/Serializable"), (0, .class_ 1109), (0, u "java/lang/Comparable"), (0, .class_ 1111), (0, u "java/lang/constant/Constable"), (0, .class_ 1113), (0, u "java/lang/constant/ConstantDesc"), (2, u "serialVersionUID"), (0, u "J"), (3, u "REPL"), (0, u "C"), (2, u "LATIN1"), (1, u "UTF16"), (105, u "(Ljava/lang/StringBuilder;)V")] 217

def k7m0 : Method := { name := "<init>", desc := "()V", sig := { parameters := [], returnType := none }, accessFlags := 1, code := none }
def k7c1 : Code := { maxStack := 5, maxLocals := 2, code := jdk_42_method_3_code, exceptionTable := #[], attributes := #[] }
def k7m1 : Method := { name := "<init>", desc := "([C)V", sig := { parameters := [(.array .char)], returnType := none }, accessFlags := 1, code := some k7c1 }
def k7c2 : Code := { maxStack := 3, maxLocals := 2, code := jdk_42_method_53_code, exceptionTable := #[], attributes := #[] }
def k7m2 : Method := { name := "<init>", desc := "(Ljava/lang/StringBuilder;)V", sig := { parameters := [(.object "java/lang/StringBuilder")], returnType := none }, accessFlags := 1, code := some k7c2 }
def k7c3 : Code := { maxStack := 2, maxLocals := 1, code := jdk_42_method_54_code, exceptionTable := #[], attributes := #[] }
def k7m3 : Method := { name := "length", desc := "()I", sig := { parameters := [], returnType := some .int }, accessFlags := 1, code := some k7c3 }
def k7c4 : Code := { maxStack := 2, maxLocals := 3, code := jdk_42_method_66_code, exceptionTable := #[], attributes := #[] }
def k7m4 : Method := { name := "equals", desc := "(Ljava/lang/Object;)Z", sig := { parameters := [(.object "java/lang/Object")], returnType := some .boolean }, accessFlags := 1, code := some k7c4 }
def k7c5 : Code := { maxStack := 4, maxLocals := 1, code := jdk_42_method_139_code, exceptionTable := #[], attributes := #[] }
def k7m5 : Method := { name := "valueOf", desc := "(C)Ljava/lang/String;", sig := { parameters := [.char], returnType := some (.object "java/lang/String") }, accessFlags := 9, code := some k7c5 }
def k7c6 : Code := { maxStack := 5, maxLocals := 4, code := jdk_42_method_147_code, exceptionTable := #[], attributes := #[] }
def k7m6 : Method := { name := "getBytes", desc := "([BIB)V", sig := { parameters := [(.array .byte), .int, .byte], returnType := none }, accessFlags := 0, code := some k7c6 }
def k7c7 : Code := { maxStack := 4, maxLocals := 6, code := jdk_42_method_149_code, exceptionTable := #[], attributes := #[] }
def k7m7 : Method := { name := "<init>", desc := "([CIILjava/lang/Void;)V", sig := { parameters := [(.array .char), .int, .int, (.object "java/lang/Void")], returnType := none }, accessFlags := 2, code := some k7c7 }
def k7c8 : Code := { maxStack := 5, maxLocals := 5, code := jdk_42_method_150_code, exceptionTable := #[], attributes := #[] }
def k7m8 : Method := { name := "<init>", desc := "(Ljava/lang/AbstractStringBuilder;Ljava/lang/Void;)V", sig := { parameters := [(.object "java/lang/AbstractStringBuilder"), (.object "java/lang/Void")], returnType := none }, accessFlags := 0, code := some k7c8 }
def k7c9 : Code := { maxStack := 2, maxLocals := 3, code := jdk_42_method_151_code, exceptionTable := #[], attributes := #[] }
def k7m9 : Method := { name := "<init>", desc := "([BB)V", sig := { parameters := [(.array .byte), .byte], returnType := none }, accessFlags := 0, code := some k7c9 }
def k7c10 : Code := { maxStack := 1, maxLocals := 1, code := jdk_42_method_152_code, exceptionTable := #[], attributes := #[] }
def k7m10 : Method := { name := "coder", desc := "()B", sig := { parameters := [], returnType := some .byte }, accessFlags := 0, code := some k7c10 }
/-- java/lang/String -/
def k7 : Class := { plain "java/lang/String" (some 0) with
  accessFlags := 49
  interfaces := #[2, 3, 4, 5, 6]
  cf := some (fileOf pool7 10 #[.nestMembers #[1103]] #[{ accessFlags := 1, nameIndex := 5, descriptorIndex := 6, attributes := #[] }, { accessFlags := 1, nameIndex := 5, descriptorIndex := 1010, attributes := #[] }, { accessFlags := 1, nameIndex := 5, descriptorIndex := 1233, attributes := #[] }, { accessFlags := 1, nameIndex := 507, descriptorIndex := 334, attributes := #[] }, { accessFlags := 1, nameIndex := 543, descriptorIndex := 573, attributes := #[] }, { accessFlags := 9, nameIndex := 782, descriptorIndex := 783, attributes := #[] }, { accessFlags := 0, nameIndex := 532, descriptorIndex := 821, attributes := #[] }, { accessFlags := 2, nameIndex := 5, descriptorIndex := 29, attributes := #[] }, { accessFlags := 0, nameIndex := 5, descriptorIndex := 491, attributes := #[] }, { accessFlags := 0, nameIndex := 5, descriptorIndex := 211, attributes := #[] }, { accessFlags := 0, nameIndex := 17, descriptorIndex := 337, attributes := #[] }] 49 2 #[1106, 1108, 575, 1110, 1112] #[{ accessFlags := 18, nameIndex := 13, descriptorIndex := 14, attributes := #[] }, { accessFlags := 18, nameIndex := 17, descriptorIndex := 18, attributes := #[] }, { accessFlags := 2, nameIndex := 21, descriptorIndex := 22, attributes := #[] }, { accessFlags := 2, nameIndex := 25, descriptorIndex := 26, attributes := #[] }, { accessFlags := 26, nameIndex := 1116, descriptorIndex := 1117, attributes := #[] }, { accessFlags := 24, nameIndex := 40, descriptorIndex := 26, attributes := #[] }, { accessFlags := 26, nameIndex := 1101, descriptorIndex := 1102, attributes := #[] }, { accessFlags := 26, nameIndex := 1121, descriptorIndex := 1122, attributes := #[] }, { accessFlags := 25, nameIndex := 599, descriptorIndex := 600, attributes := #[] }, { accessFlags := 24, nameIndex := 1125, descriptorIndex := 18, attributes := #[] }, { accessFlags := 24, nameIndex := 1127, descriptorIndex := 18, attributes := #[] }])
  fields := #[{ name := "value", type := (.array .byte), accessFlags := 18, slot := 0, constantValue := 0 }, { name := "coder", type := .byte, accessFlags := 18, slot := 1, constantValue := 0 }, { name := "hash", type := .int, accessFlags := 2, slot := 2, constantValue := 0 }, { name := "hashIsZero", type := .boolean, accessFlags := 2, slot := 3, constantValue := 0 }, { name := "serialVersionUID", type := .long, accessFlags := 26, slot := 0, constantValue := 0 }, { name := "COMPACT_STRINGS", type := .boolean, accessFlags := 24, slot := 1, constantValue := 0 }, { name := "serialPersistentFields", type := (.array (.object "java/io/ObjectStreamField")), accessFlags := 26, slot := 2, constantValue := 0 }, { name := "REPL", type := .char, accessFlags := 26, slot := 3, constantValue := 0 }, { name := "CASE_INSENSITIVE_ORDER", type := (.object "java/util/Comparator"), accessFlags := 25, slot := 4, constantValue := 0 }, { name := "LATIN1", type := .byte, accessFlags := 24, slot := 5, constantValue := 0 }, { name := "UTF16", type := .byte, accessFlags := 24, slot := 6, constantValue := 0 }]
  methods := #[k7m0, k7m1, k7m2, k7m3, k7m4, k7m5, k7m6, k7m7, k7m8, k7m9, k7m10]
  instanceTypes := #[(.array .byte), .byte, .int, .boolean]
  staticTypes := #[.long, .boolean, (.array (.object "java/io/ObjectStreamField")), .char, (.object "java/util/Comparator"), .byte, .byte]
  resolved := Array.replicate 1451 none
  statics := some 0 }

def pool8 : Array CpInfo := pool [(6, .class_ 8), (1, u "java/lang/Object"), (0, u "<init>"), (0, u "()V"), (1, .class_ 14), (1, u "java/lang/StringUTF16"), (31, u "$assertionsDisabled"), (0, u "Z"), (13, u "HI_BYTE_SHIFT"), (0, u "I"), (2, u "LO_BYTE_SHIFT"), (49, .methodref 12 116), (0, .nameAndType 117 118), (0, u "compress"), (0, u "([CI[BII)I"), (3, u "([CII)[B"), (138, u "coderFromArrayLen"), (0, u "([BI)B"), (106, .class_ 371), (1, u "java/lang/StringUTF16$LinesSpliterator"), (58, u "MAX_LENGTH"), (196, .class_ 628), (0, u "java/lang/StringUTF16$CodePointsSpliterator"), (0, .class_ 630), (0, u "java/lang/StringUTF16$CharsSpliterator")] 4

def k8m0 : Method := { name := "<init>", desc := "()V", sig := { parameters := [], returnType := none }, accessFlags := 0, code := none }
def k8c1 : Code := { maxStack := 2, maxLocals := 2, code := jdk_52_method_15_code, exceptionTable := #[], attributes := #[] }
def k8m1 : Method := { name := "coderFromArrayLen", desc := "([BI)B", sig := { parameters := [(.array .byte), .int], returnType := some .byte }, accessFlags := 8, code := some k8c1 }
def k8c2 : Code := { maxStack := 5, maxLocals := 6, code := jdk_52_method_16_code, exceptionTable := #[], attributes := #[] }
def k8m2 : Method := { name := "compress", desc := "([CII)[B", sig := { parameters := [(.array .char), .int, .int], returnType := some (.array .byte) }, accessFlags := 9, code := some k8c2 }
def k8c3 : Code := { maxStack := 3, maxLocals := 7, code := jdk_52_method_21_code, exceptionTable := #[], attributes := #[] }
def k8m3 : Method := { name := "compress", desc := "([CI[BII)I", sig := { parameters := [(.array .char), .int, (.array .byte), .int, .int], returnType := some .int }, accessFlags := 9, code := some k8c3 }
/-- java/lang/StringUTF16 -/
def k8 : Class := { plain "java/lang/StringUTF16" (some 0) with
  accessFlags := 48
  interfaces := #[]
  cf := some (fileOf pool8 12 #[.nestMembers #[627, 629, 369]] #[{ accessFlags := 0, nameIndex := 9, descriptorIndex := 10, attributes := #[] }, { accessFlags := 8, nameIndex := 261, descriptorIndex := 262, attributes := #[] }, { accessFlags := 9, nameIndex := 117, descriptorIndex := 122, attributes := #[] }, { accessFlags := 9, nameIndex := 117, descriptorIndex := 118, attributes := #[] }] 48 6 #[] #[{ accessFlags := 26, nameIndex := 61, descriptorIndex := 62, attributes := #[] }, { accessFlags := 26, nameIndex := 65, descriptorIndex := 62, attributes := #[] }, { accessFlags := 24, nameIndex := 430, descriptorIndex := 62, attributes := #[] }, { accessFlags := 4120, nameIndex := 46, descriptorIndex := 47, attributes := #[] }])
  fields := #[{ name := "HI_BYTE_SHIFT", type := .int, accessFlags := 26, slot := 0, constantValue := 0 }, { name := "LO_BYTE_SHIFT", type := .int, accessFlags := 26, slot := 1, constantValue := 0 }, { name := "MAX_LENGTH", type := .int, accessFlags := 24, slot := 2, constantValue := 0 }, { name := "$assertionsDisabled", type := .boolean, accessFlags := 4120, slot := 3, constantValue := 0 }]
  methods := #[k8m0, k8m1, k8m2, k8m3]
  instanceTypes := #[]
  staticTypes := #[.int, .int, .int, .boolean]
  resolved := Array.replicate 635 none
  statics := none }

def pool9 : Array CpInfo := pool [(4, .class_ 6), (1, u "java/lang/Object"), (0, u "<init>"), (0, u "()V"), (5, .class_ 16), (1, u "java/lang/StringLatin1"), (73, u "canEncode"), (14, u "(C)Z"), (15, u "$assertionsDisabled"), (0, u "Z"), (98, .class_ 223), (1, u "java/lang/StringLatin1$LinesSpliterator"), (57, u "equals"), (0, u "([B[B)Z"), (97, u "toBytes"), (1, u "(C)[B"), (7, .class_ 391), (0, u "java/lang/StringLatin1$CharsSpliterator")] 3

def k9m0 : Method := { name := "<init>", desc := "()V", sig := { parameters := [], returnType := none }, accessFlags := 0, code := none }
def k9c1 : Code := { maxStack := 2, maxLocals := 1, code := jdk_43_method_3_code, exceptionTable := #[], attributes := #[] }
def k9m1 : Method := { name := "canEncode", desc := "(C)Z", sig := { parameters := [.char], returnType := some .boolean }, accessFlags := 9, code := some k9c1 }
def k9c2 : Code := { maxStack := 3, maxLocals := 3, code := jdk_43_method_13_code, exceptionTable := #[], attributes := #[] }
def k9m2 : Method := { name := "equals", desc := "([B[B)Z", sig := { parameters := [(.array .byte), (.array .byte)], returnType := some .boolean }, accessFlags := 9, code := some k9c2 }
def k9c3 : Code := { maxStack := 4, maxLocals := 1, code := jdk_43_method_46_code, exceptionTable := #[], attributes := #[] }
def k9m3 : Method := { name := "toBytes", desc := "(C)[B", sig := { parameters := [.char], returnType := some (.array .byte) }, accessFlags := 9, code := some k9c3 }
/-- java/lang/StringLatin1 -/
def k9 : Class := { plain "java/lang/StringLatin1" (some 0) with
  accessFlags := 48
  interfaces := #[]
  cf := some (fileOf pool9 14 #[.nestMembers #[390, 221]] #[{ accessFlags := 0, nameIndex := 7, descriptorIndex := 8, attributes := #[] }, { accessFlags := 9, nameIndex := 90, descriptorIndex := 105, attributes := #[] }, { accessFlags := 9, nameIndex := 281, descriptorIndex := 282, attributes := #[] }, { accessFlags := 9, nameIndex := 380, descriptorIndex := 382, attributes := #[] }] 48 4 #[] #[{ accessFlags := 4120, nameIndex := 121, descriptorIndex := 122, attributes := #[] }])
  fields := #[{ name := "$assertionsDisabled", type := .boolean, accessFlags := 4120, slot := 0, constantValue := 0 }]
  methods := #[k9m0, k9m1, k9m2, k9m3]
  instanceTypes := #[]
  staticTypes := #[.boolean]
  resolved := Array.replicate 395 none
  statics := none }

def pool10 : Array CpInfo := pool [(1, .methodref 2 3), (0, .class_ 4), (0, .nameAndType 5 6), (0, u "java/lang/Object"), (0, u "<init>"), (0, u "()V"), (0, .class_ 8), (0, u "java/lang/StringBuilder"), (0, .methodref 7 10), (0, .nameAndType 5 11), (0, u "(Ljava/lang/String;)V"), (0, .fieldref 13 14), (0, .class_ 15), (0, .nameAndType 16 17), (0, u "cordon/cli/ResultLine"), (0, u "line"), (0, u "Ljava/lang/StringBuilder;"), (0, .methodref 7 19), (0, .nameAndType 20 21), (0, u "append"), (0, u "(C)Ljava/lang/StringBuilder;"), (0, .methodref 7 23), (0, .nameAndType 20 24), (0, u "(Ljava/lang/String;)Ljava/lang/StringBuilder;"), (4, u "toString"), (3, u "add"), (0, u "(Ljava/lang/String;Ljava/lang/String;)Lcordon/cli/ResultLine;"), (27, u "()Ljava/lang/String;"), (0, .methodref 7 64), (0, .nameAndType 29 62)] 8

def k10c0 : Code := { maxStack := 4, maxLocals := 2, code := prog_18_method_1_code, exceptionTable := #[], attributes := #[] }
def k10m0 : Method := { name := "<init>", desc := "(Ljava/lang/String;)V", sig := { parameters := [(.object "java/lang/String")], returnType := none }, accessFlags := 0, code := some k10c0 }
def k10c1 : Code := { maxStack := 2, maxLocals := 3, code := prog_18_method_2_code, exceptionTable := #[], attributes := #[] }
def k10m1 : Method := { name := "add", desc := "(Ljava/lang/String;Ljava/lang/String;)Lcordon/cli/ResultLine;", sig := { parameters := [(.object "java/lang/String"), (.object "java/lang/String")], returnType := some (.object "cordon/cli/ResultLine") }, accessFlags := 0, code := some k10c1 }
def k10c2 : Code := { maxStack := 1, maxLocals := 1, code := prog_18_method_5_code, exceptionTable := #[], attributes := #[] }
def k10m2 : Method := { name := "toString", desc := "()Ljava/lang/String;", sig := { parameters := [], returnType := some (.object "java/lang/String") }, accessFlags := 1, code := some k10c2 }
/-- cordon/cli/ResultLine -/
def k10 : Class := { plain "cordon/cli/ResultLine" (some 0) with
  accessFlags := 48
  interfaces := #[]
  cf := some (fileOf pool10 13 #[] #[{ accessFlags := 0, nameIndex := 5, descriptorIndex := 11, attributes := #[] }, { accessFlags := 0, nameIndex := 33, descriptorIndex := 34, attributes := #[] }, { accessFlags := 1, nameIndex := 29, descriptorIndex := 62, attributes := #[] }] 48 2 #[] #[{ accessFlags := 18, nameIndex := 16, descriptorIndex := 17, attributes := #[] }])
  fields := #[{ name := "line", type := (.object "java/lang/StringBuilder"), accessFlags := 18, slot := 0, constantValue := 0 }]
  methods := #[k10m0, k10m1, k10m2]
  instanceTypes := #[(.object "java/lang/StringBuilder")]
  staticTypes := #[]
  resolved := Array.replicate 73 none
  statics := none }

def pool11 : Array CpInfo := pool [(1, .class_ 2), (0, u "java/lang/Appendable"), (0, .class_ 4), (0, u "java/lang/Object")] 9

/-- java/lang/Appendable -/
def k11 : Class := { plain "java/lang/Appendable" (some 0) with
  accessFlags := 1537
  interfaces := #[]
  cf := some (fileOf pool11 1 #[] #[] 1537 3 #[] #[])
  fields := #[]
  methods := #[]
  instanceTypes := #[]
  staticTypes := #[]
  resolved := Array.replicate 14 none
  statics := none }

def pool12 : Array CpInfo := pool [(1, .class_ 2), (0, u "java/lang/String"), (0, .methodref 4 5), (0, .class_ 6), (0, .nameAndType 7 8), (0, u "java/lang/Object"), (0, u "<init>"), (0, u "()V"), (1, .class_ 12), (1, u "java/lang/AbstractStringBuilder"), (0, u "EMPTYVALUE"), (0, u "[B"), (0, .fieldref 10 16), (0, .nameAndType 17 14), (0, u "value"), (0, .fieldref 1 19), (0, .nameAndType 20 21), (0, u "COMPACT_STRINGS"), (0, u "Z"), (0, .fieldref 10 23), (0, .nameAndType 24 25), (0, u "coder"), (0, u "B"), (6, .methodref 1 33), (0, .nameAndType 34 35), (0, u "length"), (0, u "()I"), (2, .integer 2147483631), (1, .methodref 1 41), (0, .nameAndType 24 42), (0, u "()B"), (0, .methodref 10 44), (0, .nameAndType 45 46), (0, u "append"), (0, u "(Ljava/lang/String;)Ljava/lang/AbstractStringBuilder;"), (1, .class_ 49), (0, u "java/lang/CharSequence"), (19, u "(Ljava/lang/String;)V"), (5, u "maybeLatin1"), (3, .fieldref 10 80), (0, .nameAndType 81 82), (0, u "count"), (0, u "I"), (0, .methodref 10 84), (0, .nameAndType 85 86), (0, u "isLatin1"), (0, u "()Z"), (1, .class_ 90), (1, u "java/lang/StringLatin1"), (9, .methodref 10 101), (0, .nameAndType 102 103), (0, u "ensureCapacityInternal"), (0, u "(I)V"), (87, .methodref 88 192), (0, .nameAndType 193 194), (0, u "canEncode"), (0, u "(C)Z"), (13, .methodref 10 209), (0, .nameAndType 210 211), (0, u "putStringAt"), (0, u "(ILjava/lang/String;)V"), (5, u "inflateIfNeededFor"), (2, .nameAndType 221 222), (0, u "getBytes"), (0, u "([BIB)V"), (69, u "(C)Ljava/lang/AbstractStringBuilder;"), (104, .methodref 10 398), (0, .nameAndType 217 69), (0, .methodref 1 220), (3, u "()[B"), (40, .class_ 445), (0, u "java/lang/Appendable"), (106, u "getValue")] 56

def k12m0 : Method := { name := "<init>", desc := "()V", sig := { parameters := [], returnType := none }, accessFlags := 0, code := none }
def k12c1 : Code := { maxStack := 2, maxLocals := 5, code := jdk_68_method_3_code, exceptionTable := #[], attributes := #[] }
def k12m1 : Method := { name := "<init>", desc := "(Ljava/lang/String;)V", sig := { parameters := [(.object "java/lang/String")], returnType := none }, accessFlags := 0, code := some k12c1 }
def k12c2 : Code := { maxStack := 1, maxLocals := 1, code := jdk_68_method_6_code, exceptionTable := #[], attributes := #[] }
def k12m2 : Method := { name := "length", desc := "()I", sig := { parameters := [], returnType := some .int }, accessFlags := 1, code := some k12c2 }
def k12c3 : Code := { maxStack := 4, maxLocals := 3, code := jdk_68_method_9_code, exceptionTable := #[], attributes := #[] }
def k12m3 : Method := { name := "ensureCapacityInternal", desc := "(I)V", sig := { parameters := [.int], returnType := none }, accessFlags := 2, code := some k12c3 }
def k12c4 : Code := { maxStack := 3, maxLocals := 3, code := jdk_68_method_22_code, exceptionTable := #[], attributes := #[] }
def k12m4 : Method := { name := "append", desc := "(Ljava/lang/String;)Ljava/lang/AbstractStringBuilder;", sig := { parameters := [(.object "java/lang/String")], returnType := some (.object "java/lang/AbstractStringBuilder") }, accessFlags := 1, code := some k12c4 }
def k12c5 : Code := { maxStack := 5, maxLocals := 2, code := jdk_68_method_31_code, exceptionTable := #[], attributes := #[] }
def k12m5 : Method := { name := "append", desc := "(C)Ljava/lang/AbstractStringBuilder;", sig := { parameters := [.char], returnType := some (.object "java/lang/AbstractStringBuilder") }, accessFlags := 1, code := some k12c5 }
def k12c6 : Code := { maxStack := 1, maxLocals := 1, code := jdk_68_method_64_code, exceptionTable := #[], attributes := #[] }
def k12m6 : Method := { name := "getValue", desc := "()[B", sig := { parameters := [], returnType := some (.array .byte) }, accessFlags := 16, code := some k12c6 }
def k12c7 : Code := { maxStack := 1, maxLocals := 1, code := jdk_68_method_68_code, exceptionTable := #[], attributes := #[] }
def k12m7 : Method := { name := "isLatin1", desc := "()Z", sig := { parameters := [], returnType := some .boolean }, accessFlags := 16, code := some k12c7 }
def k12c8 : Code := { maxStack := 2, maxLocals := 2, code := jdk_68_method_71_code, exceptionTable := #[], attributes := #[] }
def k12m8 : Method := { name := "inflateIfNeededFor", desc := "(Ljava/lang/String;)V", sig := { parameters := [(.object "java/lang/String")], returnType := none }, accessFlags := 2, code := some k12c8 }
def k12c9 : Code := { maxStack := 4, maxLocals := 3, code := jdk_68_method_73_code, exceptionTable := #[], attributes := #[] }
def k12m9 : Method := { name := "putStringAt", desc := "(ILjava/lang/String;)V", sig := { parameters := [.int, (.object "java/lang/String")], returnType := none }, accessFlags := 2, code := some k12c9 }
/-- java/lang/AbstractStringBuilder -/
def k12 : Class := { plain "java/lang/AbstractStringBuilder" (some 0) with
  accessFlags := 1056
  interfaces := #[11, 4]
  cf := some (fileOf pool12 10 #[] #[{ accessFlags := 0, nameIndex := 7, descriptorIndex := 8, attributes := #[] }, { accessFlags := 0, nameIndex := 7, descriptorIndex := 69, attributes := #[] }, { accessFlags := 1, nameIndex := 34, descriptorIndex := 35, attributes := #[] }, { accessFlags := 2, nameIndex := 102, descriptorIndex := 103, attributes := #[] }, { accessFlags := 1, nameIndex := 45, descriptorIndex := 46, attributes := #[] }, { accessFlags := 1, nameIndex := 45, descriptorIndex := 292, attributes := #[] }, { accessFlags := 16, nameIndex := 552, descriptorIndex := 403, attributes := #[] }, { accessFlags := 16, nameIndex := 85, descriptorIndex := 86, attributes := #[] }, { accessFlags := 2, nameIndex := 217, descriptorIndex := 69, attributes := #[] }, { accessFlags := 2, nameIndex := 210, descriptorIndex := 211, attributes := #[] }] 1056 4 #[444, 48] #[{ accessFlags := 0, nameIndex := 17, descriptorIndex := 14, attributes := #[] }, { accessFlags := 0, nameIndex := 24, descriptorIndex := 25, attributes := #[] }, { accessFlags := 0, nameIndex := 75, descriptorIndex := 21, attributes := #[] }, { accessFlags := 0, nameIndex := 81, descriptorIndex := 82, attributes := #[] }, { accessFlags := 26, nameIndex := 13, descriptorIndex := 14, attributes := #[] }])
  fields := #[{ name := "value", type := (.array .byte), accessFlags := 0, slot := 0, constantValue := 0 }, { name := "coder", type := .byte, accessFlags := 0, slot := 1, constantValue := 0 }, { name := "maybeLatin1", type := .boolean, accessFlags := 0, slot := 2, constantValue := 0 }, { name := "count", type := .int, accessFlags := 0, slot := 3, constantValue := 0 }, { name := "EMPTYVALUE", type := (.array .byte), accessFlags := 26, slot := 0, constantValue := 0 }]
  methods := #[k12m0, k12m1, k12m2, k12m3, k12m4, k12m5, k12m6, k12m7, k12m8, k12m9]
  instanceTypes := #[(.array .byte), .byte, .boolean, .int]
  staticTypes := #[(.array .byte)]
  resolved := Array.replicate 609 none
  statics := none }

def pool13 : Array CpInfo := pool [(2, .class_ 4), (1, u "java/lang/AbstractStringBuilder"), (0, u "<init>"), (1, .methodref 2 8), (0, .nameAndType 5 9), (0, u "(Ljava/lang/String;)V"), (8, .class_ 20), (1, u "java/lang/String"), (2, .methodref 24 25), (0, .class_ 26), (0, .nameAndType 27 28), (0, u "java/lang/StringBuilder"), (0, u "append"), (0, u "(Ljava/lang/String;)Ljava/lang/StringBuilder;"), (0, .methodref 2 30), (0, .nameAndType 27 31), (0, u "(Ljava/lang/String;)Ljava/lang/AbstractStringBuilder;"), (18, .methodref 2 51), (0, .nameAndType 27 52), (0, u "(C)Ljava/lang/AbstractStringBuilder;"), (84, .methodref 18 138), (0, .nameAndType 5 139), (0, u "(Ljava/lang/StringBuilder;)V"), (5, u "()V"), (10, u "()I"), (129, u "(C)Ljava/lang/StringBuilder;"), (56, .methodref 2 344), (0, .nameAndType 345 156), (0, u "length"), (3, .class_ 350), (0, u "java/lang/Appendable"), (0, .class_ 352), (0, u "java/io/Serializable"), (0, .class_ 354), (0, u "java/lang/Comparable"), (0, .class_ 356), (0, u "java/lang/CharSequence"), (0, u "serialVersionUID"), (0, u "J"), (40, u "toString"), (0, u "()Ljava/lang/String;")] 21

def k13m0 : Method := { name := "<init>", desc := "()V", sig := { parameters := [], returnType := none }, accessFlags := 1, code := none }
def k13c1 : Code := { maxStack := 2, maxLocals := 2, code := jdk_67_method_3_code, exceptionTable := #[], attributes := #[] }
def k13m1 : Method := { name := "<init>", desc := "(Ljava/lang/String;)V", sig := { parameters := [(.object "java/lang/String")], returnType := none }, accessFlags := 1, code := some k13c1 }
def k13c2 : Code := { maxStack := 2, maxLocals := 2, code := jdk_67_method_7_code, exceptionTable := #[], attributes := #[] }
def k13m2 : Method := { name := "append", desc := "(Ljava/lang/String;)Ljava/lang/StringBuilder;", sig := { parameters := [(.object "java/lang/String")], returnType := some (.object "java/lang/StringBuilder") }, accessFlags := 1, code := some k13c2 }
def k13c3 : Code := { maxStack := 2, maxLocals := 2, code := jdk_67_method_14_code, exceptionTable := #[], attributes := #[] }
def k13m3 : Method := { name := "append", desc := "(C)Ljava/lang/StringBuilder;", sig := { parameters := [.char], returnType := some (.object "java/lang/StringBuilder") }, accessFlags := 1, code := some k13c3 }
def k13c4 : Code := { maxStack := 3, maxLocals := 1, code := jdk_67_method_42_code, exceptionTable := #[], attributes := #[] }
def k13m4 : Method := { name := "toString", desc := "()Ljava/lang/String;", sig := { parameters := [], returnType := some (.object "java/lang/String") }, accessFlags := 1, code := some k13c4 }
def k13c5 : Code := { maxStack := 2, maxLocals := 2, code := jdk_67_method_80_code, exceptionTable := #[], attributes := #[] }
def k13m5 : Method := { name := "append", desc := "(Ljava/lang/String;)Ljava/lang/AbstractStringBuilder;", sig := { parameters := [(.object "java/lang/String")], returnType := some (.object "java/lang/AbstractStringBuilder") }, accessFlags := 4161, code := some k13c5 }
def k13c6 : Code := { maxStack := 1, maxLocals := 1, code := jdk_67_method_93_code, exceptionTable := #[], attributes := #[] }
def k13m6 : Method := { name := "length", desc := "()I", sig := { parameters := [], returnType := some .int }, accessFlags := 4161, code := some k13c6 }
/-- java/lang/StringBuilder -/
def k13 : Class := { plain "java/lang/StringBuilder" (some 12) with
  accessFlags := 49
  interfaces := #[11, 2, 3, 4]
  cf := some (fileOf pool13 24 #[] #[{ accessFlags := 1, nameIndex := 5, descriptorIndex := 145, attributes := #[] }, { accessFlags := 1, nameIndex := 5, descriptorIndex := 9, attributes := #[] }, { accessFlags := 1, nameIndex := 27, descriptorIndex := 28, attributes := #[] }, { accessFlags := 1, nameIndex := 27, descriptorIndex := 286, attributes := #[] }, { accessFlags := 1, nameIndex := 399, descriptorIndex := 400, attributes := #[] }, { accessFlags := 4161, nameIndex := 27, descriptorIndex := 31, attributes := #[] }, { accessFlags := 4161, nameIndex := 345, descriptorIndex := 156, attributes := #[] }] 49 2 #[349, 351, 353, 355] #[{ accessFlags := 24, nameIndex := 357, descriptorIndex := 358, attributes := #[] }])
  fields := #[{ name := "serialVersionUID", type := .long, accessFlags := 24, slot := 0, constantValue := 0 }]
  methods := #[k13m0, k13m1, k13m2, k13m3, k13m4, k13m5, k13m6]
  instanceTypes := #[(.array .byte), .byte, .boolean, .int]
  staticTypes := #[.long]
  resolved := Array.replicate 422 none
  statics := none }

def pool14 : Array CpInfo := pool [(2, .class_ 4), (1, u "java/lang/Object"), (0, u "<init>"), (0, u "()V"), (1, .class_ 10), (1, u "java/lang/System"), (0, u "allowSecurityManager"), (0, u "I"), (16, u "cons"), (0, u "Ljava/io/Console;"), (77, .class_ 110), (1, u "java/lang/System$CallersHolder"), (43, u "initialErrStream"), (0, u "Ljava/io/PrintStream;"), (19, u "security"), (0, u "Ljava/lang/SecurityManager;"), (31, .class_ 209), (0, u "java/lang/System$1"), (7, u "props"), (0, u "Ljava/util/Properties;"), (2, u "lineSeparator"), (0, u "Ljava/lang/String;"), (96, .class_ 321), (1, u "java/lang/System$LoggerFinder"), (5, .class_ 328), (0, u "java/lang/System$Logger"), (67, u "err"), (2, u "out"), (91, u "notSupportedJnuEncoding"), (15, u "in"), (17, u "initialIn"), (0, u "Ljava/io/InputStream;"), (35, u "bootLayer"), (0, u "Ljava/lang/ModuleLayer;"), (99, .class_ 664), (0, u "java/lang/System$2"), (9, u "NEVER"), (2, u "MAYBE"), (49, u "arraycopy"), (0, u "(Ljava/lang/Object;ILjava/lang/Object;II)V"), (72, .class_ 802), (0, u "java/lang/System$Logger$Level")] 31

def k14m0 : Method := { name := "<init>", desc := "()V", sig := { parameters := [], returnType := none }, accessFlags := 2, code := none }
def k14m1 : Method := { name := "arraycopy", desc := "(Ljava/lang/Object;ILjava/lang/Object;II)V", sig := { parameters := [(.object "java/lang/Object"), .int, (.object "java/lang/Object"), .int, .int], returnType := none }, accessFlags := 265, code := none }
/-- java/lang/System -/
def k14 : Class := { plain "java/lang/System" (some 0) with
  accessFlags := 49
  interfaces := #[]
  cf := some (fileOf pool14 8 #[.nestMembers #[319, 327, 801, 108, 663, 208]] #[{ accessFlags := 2, nameIndex := 5, descriptorIndex := 6, attributes := #[] }, { accessFlags := 265, nameIndex := 727, descriptorIndex := 728, attributes := #[] }] 49 2 #[] #[{ accessFlags := 25, nameIndex := 507, descriptorIndex := 526, attributes := #[] }, { accessFlags := 25, nameIndex := 399, descriptorIndex := 155, attributes := #[] }, { accessFlags := 25, nameIndex := 396, descriptorIndex := 155, attributes := #[] }, { accessFlags := 10, nameIndex := 525, descriptorIndex := 526, attributes := #[] }, { accessFlags := 26, nameIndex := 674, descriptorIndex := 12, attributes := #[] }, { accessFlags := 26, nameIndex := 677, descriptorIndex := 12, attributes := #[] }, { accessFlags := 10, nameIndex := 11, descriptorIndex := 12, attributes := #[] }, { accessFlags := 74, nameIndex := 175, descriptorIndex := 176, attributes := #[] }, { accessFlags := 10, nameIndex := 491, descriptorIndex := 222, attributes := #[] }, { accessFlags := 74, nameIndex := 29, descriptorIndex := 30, attributes := #[] }, { accessFlags := 74, nameIndex := 154, descriptorIndex := 155, attributes := #[] }, { accessFlags := 10, nameIndex := 217, descriptorIndex := 218, attributes := #[] }, { accessFlags := 10, nameIndex := 221, descriptorIndex := 222, attributes := #[] }, { accessFlags := 8, nameIndex := 562, descriptorIndex := 563, attributes := #[] }])
  fields := #[{ name := "in", type := (.object "java/io/InputStream"), accessFlags := 25, slot := 0, constantValue := 0 }, { name := "out", type := (.object "java/io/PrintStream"), accessFlags := 25, slot := 1, constantValue := 0 }, { name := "err", type := (.object "java/io/PrintStream"), accessFlags := 25, slot := 2, constantValue := 0 }, { name := "initialIn", type := (.object "java/io/InputStream"), accessFlags := 10, slot := 3, constantValue := 0 }, { name := "NEVER", type := .int, accessFlags := 26, slot := 4, constantValue := 0 }, { name := "MAYBE", type := .int, accessFlags := 26, slot := 5, constantValue := 0 }, { name := "allowSecurityManager", type := .int, accessFlags := 10, slot := 6, constantValue := 0 }, { name := "security", type := (.object "java/lang/SecurityManager"), accessFlags := 74, slot := 7, constantValue := 0 }, { name := "notSupportedJnuEncoding", type := (.object "java/lang/String"), accessFlags := 10, slot := 8, constantValue := 0 }, { name := "cons", type := (.object "java/io/Console"), accessFlags := 74, slot := 9, constantValue := 0 }, { name := "initialErrStream", type := (.object "java/io/PrintStream"), accessFlags := 74, slot := 10, constantValue := 0 }, { name := "props", type := (.object "java/util/Properties"), accessFlags := 10, slot := 11, constantValue := 0 }, { name := "lineSeparator", type := (.object "java/lang/String"), accessFlags := 10, slot := 12, constantValue := 0 }, { name := "bootLayer", type := (.object "java/lang/ModuleLayer"), accessFlags := 8, slot := 13, constantValue := 0 }]
  methods := #[k14m0, k14m1]
  instanceTypes := #[]
  staticTypes := #[(.object "java/io/InputStream"), (.object "java/io/PrintStream"), (.object "java/io/PrintStream"), (.object "java/io/InputStream"), .int, .int, .int, (.object "java/lang/SecurityManager"), (.object "java/lang/String"), (.object "java/io/Console"), (.object "java/io/PrintStream"), (.object "java/util/Properties"), (.object "java/lang/String"), (.object "java/lang/ModuleLayer")]
  resolved := Array.replicate 834 none
  statics := none }

def pool15 : Array CpInfo := pool [(2, .class_ 4), (1, u "java/lang/Object"), (0, u "<init>"), (0, u "()V"), (7, .class_ 16), (1, u "java/util/Arrays"), (57, .class_ 76), (1, u "java/util/Arrays$NaturalOrder"), (36, .class_ 115), (1, u "java/util/Arrays$LegacyMergeSort"), (1, u "Z"), (21, u "copyOfRange"), (10, .methodref 151 152), (0, .class_ 153), (0, .nameAndType 154 155), (0, u "java/lang/System"), (0, u "arraycopy"), (0, u "(Ljava/lang/Object;ILjava/lang/Object;II)V"), (148, .methodref 305 306), (0, .class_ 307), (0, .nameAndType 308 309), (0, u "java/lang/Math"), (0, u "min"), (0, u "(II)I"), (29, .methodref 14 340), (0, .nameAndType 341 342), (0, u "copyOfRangeByte"), (0, u "([BII)[B"), (0, .methodref 14 344), (0, .nameAndType 345 346), (0, u "checkLength"), (0, u "(II)V"), (28, .class_ 376), (0, u "java/util/Arrays$ArrayList"), (68, u "$assertionsDisabled"), (269, u "MIN_ARRAY_SORT_GRAN"), (0, u "I"), (2, u "INSERTIONSORT_THRESHOLD"), (255, .class_ 976), (0, u "java/util/Arrays$ArrayItr")] 52

def k15m0 : Method := { name := "<init>", desc := "()V", sig := { parameters := [], returnType := none }, accessFlags := 2, code := none }
def k15c1 : Code := { maxStack := 4, maxLocals := 2, code := jdk_65_method_131_code, exceptionTable := #[], attributes := #[] }
def k15m1 : Method := { name := "checkLength", desc := "(II)V", sig := { parameters := [.int, .int], returnType := none }, accessFlags := 10, code := some k15c1 }
def k15c2 : Code := { maxStack := 3, maxLocals := 3, code := jdk_65_method_132_code, exceptionTable := #[], attributes := #[] }
def k15m2 : Method := { name := "copyOfRange", desc := "([BII)[B", sig := { parameters := [(.array .byte), .int, .int], returnType := some (.array .byte) }, accessFlags := 9, code := some k15c2 }
def k15c3 : Code := { maxStack := 6, maxLocals := 5, code := jdk_65_method_133_code, exceptionTable := #[], attributes := #[] }
def k15m3 : Method := { name := "copyOfRangeByte", desc := "([BII)[B", sig := { parameters := [(.array .byte), .int, .int], returnType := some (.array .byte) }, accessFlags := 10, code := some k15c3 }
/-- java/util/Arrays -/
def k15 : Class := { plain "java/util/Arrays" (some 0) with
  accessFlags := 49
  interfaces := #[]
  cf := some (fileOf pool15 14 #[.nestMembers #[975, 375, 113, 74]] #[{ accessFlags := 2, nameIndex := 5, descriptorIndex := 6, attributes := #[] }, { accessFlags := 10, nameIndex := 345, descriptorIndex := 346, attributes := #[] }, { accessFlags := 9, nameIndex := 139, descriptorIndex := 342, attributes := #[] }, { accessFlags := 10, nameIndex := 341, descriptorIndex := 342, attributes := #[] }] 49 2 #[] #[{ accessFlags := 26, nameIndex := 715, descriptorIndex := 716, attributes := #[] }, { accessFlags := 26, nameIndex := 719, descriptorIndex := 716, attributes := #[] }, { accessFlags := 4120, nameIndex := 445, descriptorIndex := 117, attributes := #[] }])
  fields := #[{ name := "MIN_ARRAY_SORT_GRAN", type := .int, accessFlags := 26, slot := 0, constantValue := 0 }, { name := "INSERTIONSORT_THRESHOLD", type := .int, accessFlags := 26, slot := 1, constantValue := 0 }, { name := "$assertionsDisabled", type := .boolean, accessFlags := 4120, slot := 2, constantValue := 0 }]
  methods := #[k15m0, k15m1, k15m2, k15m3]
  instanceTypes := #[]
  staticTypes := #[.int, .int, .boolean]
  resolved := Array.replicate 1029 none
  statics := none }

def pool16 : Array CpInfo := pool [(1, .class_ 2), (0, u "java/lang/Math"), (1, .class_ 6), (1, u "java/lang/Object"), (0, u "<init>"), (0, u "()V"), (89, .class_ 100), (1, u "java/lang/Math$RandomNumberGeneratorHolder"), (71, u "negativeZeroFloatBits"), (0, u "J"), (2, u "negativeZeroDoubleBits"), (24, u "min"), (43, u "$assertionsDisabled"), (0, u "Z"), (88, u "(II)I"), (2, u "twoToTheDoubleScaleDown"), (0, u "D"), (4, u "twoToTheDoubleScaleUp"), (9, u "E"), (3, u "PI"), (2, u "TAU"), (2, u "DEGREES_TO_RADIANS"), (0, u "RADIANS_TO_DEGREES")] 94

def k16m0 : Method := { name := "<init>", desc := "()V", sig := { parameters := [], returnType := none }, accessFlags := 2, code := none }
def k16c1 : Code := { maxStack := 2, maxLocals := 2, code := jdk_29_method_69_code, exceptionTable := #[], attributes := #[] }
def k16m1 : Method := { name := "min", desc := "(II)I", sig := { parameters := [.int, .int], returnType := some .int }, accessFlags := 9, code := some k16c1 }
/-- java/lang/Math -/
def k16 : Class := { plain "java/lang/Math" (some 0) with
  accessFlags := 49
  interfaces := #[]
  cf := some (fileOf pool16 1 #[.nestMembers #[98]] #[{ accessFlags := 2, nameIndex := 7, descriptorIndex := 8, attributes := #[] }, { accessFlags := 9, nameIndex := 201, descriptorIndex := 335, attributes := #[] }] 49 4 #[] #[{ accessFlags := 25, nameIndex := 354, descriptorIndex := 339, attributes := #[] }, { accessFlags := 25, nameIndex := 358, descriptorIndex := 339, attributes := #[] }, { accessFlags := 25, nameIndex := 361, descriptorIndex := 339, attributes := #[] }, { accessFlags := 26, nameIndex := 364, descriptorIndex := 339, attributes := #[] }, { accessFlags := 26, nameIndex := 365, descriptorIndex := 339, attributes := #[] }, { accessFlags := 26, nameIndex := 172, descriptorIndex := 173, attributes := #[] }, { accessFlags := 26, nameIndex := 176, descriptorIndex := 173, attributes := #[] }, { accessFlags := 8, nameIndex := 344, descriptorIndex := 339, attributes := #[] }, { accessFlags := 8, nameIndex := 338, descriptorIndex := 339, attributes := #[] }, { accessFlags := 4120, nameIndex := 245, descriptorIndex := 246, attributes := #[] }])
  fields := #[{ name := "E", type := .double, accessFlags := 25, slot := 0, constantValue := 0 }, { name := "PI", type := .double, accessFlags := 25, slot := 1, constantValue := 0 }, { name := "TAU", type := .double, accessFlags := 25, slot := 2, constantValue := 0 }, { name := "DEGREES_TO_RADIANS", type := .double, accessFlags := 26, slot := 3, constantValue := 0 }, { name := "RADIANS_TO_DEGREES", type := .double, accessFlags := 26, slot := 4, constantValue := 0 }, { name := "negativeZeroFloatBits", type := .long, accessFlags := 26, slot := 5, constantValue := 0 }, { name := "negativeZeroDoubleBits", type := .long, accessFlags := 26, slot := 6, constantValue := 0 }, { name := "twoToTheDoubleScaleUp", type := .double, accessFlags := 8, slot := 7, constantValue := 0 }, { name := "twoToTheDoubleScaleDown", type := .double, accessFlags := 8, slot := 8, constantValue := 0 }, { name := "$assertionsDisabled", type := .boolean, accessFlags := 4120, slot := 9, constantValue := 0 }]
  methods := #[k16m0, k16m1]
  instanceTypes := #[]
  staticTypes := #[.double, .double, .double, .double, .double, .long, .long, .double, .double, .boolean]
  resolved := Array.replicate 460 none
  statics := none }

def pool17 : Array CpInfo := pool [(2, .class_ 4), (1, u "java/lang/Object"), (0, u "<init>"), (0, u "()V"), (17, .class_ 26), (1, u "jdk/internal/util/Preconditions"), (28, .class_ 56), (0, u "jdk/internal/util/Preconditions$4"), (57, .class_ 115), (0, u "jdk/internal/util/Preconditions$1"), (7, u "SIOOBE_FORMATTER"), (0, u "Ljava/util/function/BiFunction;"), (0, .class_ 126), (0, u "jdk/internal/util/Preconditions$2"), (3, u "AIOOBE_FORMATTER"), (0, .class_ 132), (0, u "jdk/internal/util/Preconditions$3"), (3, u "IOOBE_FORMATTER")] 57

def k17m0 : Method := { name := "<init>", desc := "()V", sig := { parameters := [], returnType := none }, accessFlags := 1, code := none }
/-- jdk/internal/util/Preconditions -/
def k17 : Class := { plain "jdk/internal/util/Preconditions" (some 0) with
  accessFlags := 33
  interfaces := #[]
  cf := some (fileOf pool17 24 #[.nestMembers #[55, 131, 125, 114]] #[{ accessFlags := 1, nameIndex := 5, descriptorIndex := 6, attributes := #[] }] 33 2 #[] #[{ accessFlags := 25, nameIndex := 123, descriptorIndex := 124, attributes := #[] }, { accessFlags := 25, nameIndex := 130, descriptorIndex := 124, attributes := #[] }, { accessFlags := 25, nameIndex := 136, descriptorIndex := 124, attributes := #[] }])
  fields := #[{ name := "SIOOBE_FORMATTER", type := (.object "java/util/function/BiFunction"), accessFlags := 25, slot := 0, constantValue := 0 }, { name := "AIOOBE_FORMATTER", type := (.object "java/util/function/BiFunction"), accessFlags := 25, slot := 1, constantValue := 0 }, { name := "IOOBE_FORMATTER", type := (.object "java/util/function/BiFunction"), accessFlags := 25, slot := 2, constantValue := 0 }]
  methods := #[k17m0]
  instanceTypes := #[]
  staticTypes := #[(.object "java/util/function/BiFunction"), (.object "java/util/function/BiFunction"), (.object "java/util/function/BiFunction")]
  resolved := Array.replicate 194 none
  statics := some 1 }

def pool18 : Array CpInfo := pool [(9, u "<init>"), (6, .class_ 18), (1, u "java/lang/Object"), (0, u "()V"), (1, .class_ 23), (1, u "jdk/internal/util/ArraysSupport"), (0, u "LOG2_ARRAY_LONG_INDEX_SCALE"), (0, u "I"), (2, u "U"), (0, u "Ljdk/internal/misc/Unsafe;"), (8, u "BIG_ENDIAN"), (0, u "Z"), (8, u "LOG2_BYTE_BIT_SIZE"), (4, u "LOG2_ARRAY_INT_INDEX_SCALE"), (54, u "JLA"), (0, u "Ljdk/internal/access/JavaLangAccess;"), (11, u "LOG2_ARRAY_BOOLEAN_INDEX_SCALE"), (9, u "LOG2_ARRAY_BYTE_INDEX_SCALE"), (5, u "LOG2_ARRAY_CHAR_INDEX_SCALE"), (5, u "LOG2_ARRAY_SHORT_INDEX_SCALE"), (18, u "LOG2_ARRAY_FLOAT_INDEX_SCALE"), (24, u "LOG2_ARRAY_DOUBLE_INDEX_SCALE"), (89, u "T_BOOLEAN"), (2, u "T_CHAR"), (1, u "T_FLOAT"), (1, u "T_DOUBLE"), (1, u "T_BYTE"), (1, u "T_SHORT"), (1, u "T_INT"), (1, u "T_LONG"), (1, u "SOFT_MAX_ARRAY_LENGTH")] 83

def k18m0 : Method := { name := "<init>", desc := "()V", sig := { parameters := [], returnType := none }, accessFlags := 2, code := none }
/-- jdk/internal/util/ArraysSupport -/
def k18 : Class := { plain "jdk/internal/util/ArraysSupport" (some 0) with
  accessFlags := 33
  interfaces := #[]
  cf := some (fileOf pool18 21 #[] #[{ accessFlags := 2, nameIndex := 9, descriptorIndex := 19, attributes := #[] }] 33 16 #[] #[{ accessFlags := 24, nameIndex := 28, descriptorIndex := 29, attributes := #[] }, { accessFlags := 26, nameIndex := 38, descriptorIndex := 39, attributes := #[] }, { accessFlags := 25, nameIndex := 121, descriptorIndex := 25, attributes := #[] }, { accessFlags := 25, nameIndex := 131, descriptorIndex := 25, attributes := #[] }, { accessFlags := 25, nameIndex := 137, descriptorIndex := 25, attributes := #[] }, { accessFlags := 25, nameIndex := 143, descriptorIndex := 25, attributes := #[] }, { accessFlags := 25, nameIndex := 53, descriptorIndex := 25, attributes := #[] }, { accessFlags := 25, nameIndex := 24, descriptorIndex := 25, attributes := #[] }, { accessFlags := 25, nameIndex := 162, descriptorIndex := 25, attributes := #[] }, { accessFlags := 25, nameIndex := 187, descriptorIndex := 25, attributes := #[] }, { accessFlags := 26, nameIndex := 48, descriptorIndex := 25, attributes := #[] }, { accessFlags := 25, nameIndex := 277, descriptorIndex := 25, attributes := #[] }, { accessFlags := 25, nameIndex := 280, descriptorIndex := 25, attributes := #[] }, { accessFlags := 25, nameIndex := 282, descriptorIndex := 25, attributes := #[] }, { accessFlags := 25, nameIndex := 284, descriptorIndex := 25, attributes := #[] }, { accessFlags := 25, nameIndex := 286, descriptorIndex := 25, attributes := #[] }, { accessFlags := 25, nameIndex := 288, descriptorIndex := 25, attributes := #[] }, { accessFlags := 25, nameIndex := 290, descriptorIndex := 25, attributes := #[] }, { accessFlags := 25, nameIndex := 292, descriptorIndex := 25, attributes := #[] }, { accessFlags := 26, nameIndex := 108, descriptorIndex := 109, attributes := #[] }, { accessFlags := 25, nameIndex := 294, descriptorIndex := 25, attributes := #[] }])
  fields := #[{ name := "U", type := (.object "jdk/internal/misc/Unsafe"), accessFlags := 24, slot := 0, constantValue := 0 }, { name := "BIG_ENDIAN", type := .boolean, accessFlags := 26, slot := 1, constantValue := 0 }, { name := "LOG2_ARRAY_BOOLEAN_INDEX_SCALE", type := .int, accessFlags := 25, slot := 2, constantValue := 0 }, { name := "LOG2_ARRAY_BYTE_INDEX_SCALE", type := .int, accessFlags := 25, slot := 3, constantValue := 0 }, { name := "LOG2_ARRAY_CHAR_INDEX_SCALE", type := .int, accessFlags := 25, slot := 4, constantValue := 0 }, { name := "LOG2_ARRAY_SHORT_INDEX_SCALE", type := .int, accessFlags := 25, slot := 5, constantValue := 0 }, { name := "LOG2_ARRAY_INT_INDEX_SCALE", type := .int, accessFlags := 25, slot := 6, constantValue := 0 }, { name := "LOG2_ARRAY_LONG_INDEX_SCALE", type := .int, accessFlags := 25, slot := 7, constantValue := 0 }, { name := "LOG2_ARRAY_FLOAT_INDEX_SCALE", type := .int, accessFlags := 25, slot := 8, constantValue := 0 }, { name := "LOG2_ARRAY_DOUBLE_INDEX_SCALE", type := .int, accessFlags := 25, slot := 9, constantValue := 0 }, { name := "LOG2_BYTE_BIT_SIZE", type := .int, accessFlags := 26, slot := 10, constantValue := 0 }, { name := "T_BOOLEAN", type := .int, accessFlags := 25, slot := 11, constantValue := 0 }, { name := "T_CHAR", type := .int, accessFlags := 25, slot := 12, constantValue := 0 }, { name := "T_FLOAT", type := .int, accessFlags := 25, slot := 13, constantValue := 0 }, { name := "T_DOUBLE", type := .int, accessFlags := 25, slot := 14, constantValue := 0 }, { name := "T_BYTE", type := .int, accessFlags := 25, slot := 15, constantValue := 0 }, { name := "T_SHORT", type := .int, accessFlags := 25, slot := 16, constantValue := 0 }, { name := "T_INT", type := .int, accessFlags := 25, slot := 17, constantValue := 0 }, { name := "T_LONG", type := .int, accessFlags := 25, slot := 18, constantValue := 0 }, { name := "JLA", type := (.object "jdk/internal/access/JavaLangAccess"), accessFlags := 26, slot := 19, constantValue := 0 }, { name := "SOFT_MAX_ARRAY_LENGTH", type := .int, accessFlags := 25, slot := 20, constantValue := 0 }]
  methods := #[k18m0]
  instanceTypes := #[]
  staticTypes := #[(.object "jdk/internal/misc/Unsafe"), .boolean, .int, .int, .int, .int, .int, .int, .int, .int, .int, .int, .int, .int, .int, .int, .int, .int, .int, (.object "jdk/internal/access/JavaLangAccess"), .int]
  resolved := Array.replicate 378 none
  statics := none }

def pool19 : Array CpInfo := pool [(1, u "java/lang/Cloneable"), (0, .class_ 1), (0, u "java/lang/Object"), (0, .class_ 3)] 3

/-- java/lang/Cloneable -/
def k19 : Class := { plain "java/lang/Cloneable" (some 0) with
  accessFlags := 1537
  interfaces := #[]
  cf := some (fileOf pool19 2 #[] #[] 1537 4 #[] #[])
  fields := #[]
  methods := #[]
  instanceTypes := #[]
  staticTypes := #[]
  resolved := Array.replicate 8 none
  statics := none }

/-- the primitive byte -/
def k20 : Class := { plain "byte" none with kind := .primitive 'B', accessFlags := 0x411 }
/-- [B -/
def k21 : Class := { plain "[B" (some 0) with kind := .array 20 .byte, interfaces := #[19, 2], accessFlags := 1041 }

/-- the primitive char -/
def k22 : Class := { plain "char" none with kind := .primitive 'C', accessFlags := 0x411 }
/-- [C -/
def k23 : Class := { plain "[C" (some 0) with kind := .array 22 .char, interfaces := #[19, 2], accessFlags := 1041 }

/-- the primitive int -/
def k24 : Class := { plain "int" none with kind := .primitive 'I', accessFlags := 0x411 }
/-- [I -/
def k25 : Class := { plain "[I" (some 0) with kind := .array 24 .int, interfaces := #[19, 2], accessFlags := 1041 }

def heap : Heap := #[{ cls := 7, slots := #[.long 0, .int 1, .null, .int 0, .null, .int 0, .int 0], vm := .statics 7 },
  { cls := 17, slots := #[.null, .null, .null], vm := .statics 17 }]
def classes : Array Class := #[k0, k1, k2, k3, k4, k5, k6, k7, k8, k9, k10, k11, k12, k13, k14, k15, k16, k17, k18, k19, k20, k21, k22, k23, k24, k25]
def interned : List (Array UInt16 × Addr) := []
def slotsUsed : Nat := 10
def theMethod : MethodId := ⟨1, 1⟩
def args0 : Array Value := #[.int 5, .int 5, .int 5, .int 1]
def aboutOver (below : List Frame) : State where
  vm := { classes := classes, interned := interned.toArray }
  heap := heap
  slotsUsed := slotsUsed
  threads := #[{ frames := .invoking theMethod args0 :: below }]
def below0 : List Frame := [.native { method := ⟨0, 0⟩, args := #[] }]
def about1 : State := aboutOver below0
def p0 : Program := .bare "" "" ""
def e0 : Env := launch0.env 0 0 0
theorem w_frames : about1.frames = Frame.invoking theMethod args0 :: below0 := rfl
set_option maxRecDepth 65536 in
theorem w_args : argsFit about1.vm theMethod args0 = true := by decide +kernel
set_option maxRecDepth 65536 in
theorem w_heap : heapFits about1 = true := by decide +kernel
set_option maxRecDepth 65536 in
theorem w_runnable : about1.curStatus? = some .runnable := by decide +kernel
set_option maxRecDepth 65536 in
theorem w_alone : about1.alone = true := by decide +kernel
set_option maxRecDepth 65536 in
theorem w_named : about1.methodNamed? x = some theMethod := by decide +kernel
set_option maxRecDepth 65536 in
theorem w_hears : about1.hears theMethod below0 = true := by decide +kernel
set_option maxRecDepth 65536 in
theorem w_ripe : about1.ripe theMethod args0 below0 = true := by decide +kernel
theorem w_running : about1.status = .running := rfl
set_option maxRecDepth 65536 in
theorem w_room : about1.hasRoom e0.platform room_1 = true :=
  launch0.hasRoom_least _ room_1 (by decide +kernel) (by decide +kernel) (by decide +kernel) (by decide +kernel) (by decide +kernel) (by decide +kernel)
theorem allAtoms_all (ts : List Jvm.Cond) (a : Array Jvm.Value) (st : Jvm.State) : (allAtoms ts).before a st = ts.all (fun c => c.before a st) := by
  induction ts with
  | nil => rfl
  | cons c t ih =>
    show (Jvm.Cond.and c (allAtoms t)).before a st = _
    rw [Jvm.Cond.before_and, ih, List.all_cons]
def words1 : List Jvm.Cond := Jvm.Cond.code x code maxLocals ret :: tables_1
/-- a 'code' word, met by the world's own term for the bytes: nothing is compared byte by byte -/
theorem code_word {y : MethodName} {bytes : ByteArray} {mx : Nat} {rt : Option FieldType} {a : Array Value} {s : State} {m : MethodId} {meth : Method} {c : Code} (h1 : s.methodNamed? y = some m) (h2 : s.vm.method? m = some meth) (h3 : meth.code = some c) (h4 : c.code = bytes)
    (h5 : (c.maxLocals == mx && c.exceptionTable.isEmpty && decide (c.maxStack ≤ mostOperands) && decide (meth.sig.returnType = rt) && !meth.locks && decide (parseMethodDescriptor y.desc = some meth.sig)) = true) : (Jvm.Cond.code y bytes mx rt).before a s = true := by
  simp only [Bool.and_eq_true, beq_iff_eq, Bool.not_eq_true', decide_eq_true_eq] at h5
  obtain ⟨⟨⟨⟨⟨g1, g2⟩, g3⟩, g4⟩, g5⟩, g6⟩ := h5
  simp [Cond.before, Cond.holds, Cond.value, h1, h2, h3, h4, g1, g2, g3, g4, g5, g6]
def isCode : Jvm.Cond → Bool
  | .code _ _ _ _ => true
  | _ => false
theorem all_split {L : List Jvm.Cond} {P : Jvm.Cond → Bool} (h1 : L.all (fun c => isCode c || P c) = true) (h2 : ∀ c ∈ L.filter isCode, P c = true) : L.all P = true := by
  refine List.all_eq_true.mpr fun c hc => ?_
  have h := List.all_eq_true.mp h1 c hc
  rcases Bool.eq_false_or_eq_true (isCode c) with hi | hi
  · exact h2 c (List.mem_filter.mpr ⟨hc, hi⟩)
  · simpa [hi] using h
set_option maxRecDepth 65536 in
theorem w_c0 : (Jvm.Cond.code x code maxLocals ret).before args0 about1 = true := code_word (m := ⟨1, 1⟩) (meth := k1m1) (c := k1c1) (by decide +kernel) rfl rfl rfl (by decide +kernel)
set_option maxRecDepth 65536 in
theorem w_c1 : (Jvm.Cond.code ({ cls := "java/lang/String", name := "<init>", desc := "([C)V" } : Jvm.MethodName) jdk_42_method_3_code (2 : Nat) (Option.none : Option Jvm.ClassFile.FieldType)).before args0 about1 = true := code_word (m := ⟨7, 1⟩) (meth := k7m1) (c := k7c1) (by decide +kernel) rfl rfl rfl (by decide +kernel)
set_option maxRecDepth 65536 in
theorem w_c2 : (Jvm.Cond.code ({ cls := "java/lang/String", name := "<init>", desc := "([CIILjava/lang/Void;)V" } : Jvm.MethodName) jdk_42_method_149_code (6 : Nat) (Option.none : Option Jvm.ClassFile.FieldType)).before args0 about1 = true := code_word (m := ⟨7, 7⟩) (meth := k7m7) (c := k7c7) (by decide +kernel) rfl rfl rfl (by decide +kernel)
set_option maxRecDepth 65536 in
theorem w_c3 : (Jvm.Cond.code ({ cls := "java/lang/Object", name := "<init>", desc := "()V" } : Jvm.MethodName) object_method_1_code (1 : Nat) (Option.none : Option Jvm.ClassFile.FieldType)).before args0 about1 = true := code_word (m := ⟨0, 0⟩) (meth := k0m0) (c := k0c0) (by decide +kernel) rfl rfl rfl (by decide +kernel)
set_option maxRecDepth 65536 in
theorem w_c4 : (Jvm.Cond.code ({ cls := "java/lang/StringUTF16", name := "compress", desc := "([CII)[B" } : Jvm.MethodName) jdk_52_method_16_code (6 : Nat) (Option.some (Jvm.ClassFile.FieldType.array Jvm.ClassFile.FieldType.byte))).before args0 about1 = true := code_word (m := ⟨8, 2⟩) (meth := k8m2) (c := k8c2) (by decide +kernel) rfl rfl rfl (by decide +kernel)
set_option maxRecDepth 65536 in
theorem w_c5 : (Jvm.Cond.code ({ cls := "java/lang/StringUTF16", name := "compress", desc := "([CI[BII)I" } : Jvm.MethodName) jdk_52_method_21_code (7 : Nat) (Option.some Jvm.ClassFile.FieldType.int)).before args0 about1 = true := code_word (m := ⟨8, 3⟩) (meth := k8m3) (c := k8c3) (by decide +kernel) rfl rfl rfl (by decide +kernel)
set_option maxRecDepth 65536 in
theorem w_c6 : (Jvm.Cond.code ({ cls := "java/lang/StringUTF16", name := "coderFromArrayLen", desc := "([BI)B" } : Jvm.MethodName) jdk_52_method_15_code (2 : Nat) (Option.some Jvm.ClassFile.FieldType.byte)).before args0 about1 = true := code_word (m := ⟨8, 1⟩) (meth := k8m1) (c := k8c1) (by decide +kernel) rfl rfl rfl (by decide +kernel)
set_option maxRecDepth 65536 in
theorem w_c7 : (Jvm.Cond.code ({ cls := "java/lang/String", name := "valueOf", desc := "(C)Ljava/lang/String;" } : Jvm.MethodName) jdk_42_method_139_code (1 : Nat) (Option.some (Jvm.ClassFile.FieldType.object "java/lang/String"))).before args0 about1 = true := code_word (m := ⟨7, 5⟩) (meth := k7m5) (c := k7c5) (by decide +kernel) rfl rfl rfl (by decide +kernel)
set_option maxRecDepth 65536 in
theorem w_c8 : (Jvm.Cond.code ({ cls := "java/lang/StringLatin1", name := "canEncode", desc := "(C)Z" } : Jvm.MethodName) jdk_43_method_3_code (1 : Nat) (Option.some Jvm.ClassFile.FieldType.boolean)).before args0 about1 = true := code_word (m := ⟨9, 1⟩) (meth := k9m1) (c := k9c1) (by decide +kernel) rfl rfl rfl (by decide +kernel)
set_option maxRecDepth 65536 in
theorem w_c9 : (Jvm.Cond.code ({ cls := "java/lang/StringLatin1", name := "toBytes", desc := "(C)[B" } : Jvm.MethodName) jdk_43_method_46_code (1 : Nat) (Option.some (Jvm.ClassFile.FieldType.array Jvm.ClassFile.FieldType.byte))).before args0 about1 = true := code_word (m := ⟨9, 3⟩) (meth := k9m3) (c := k9c3) (by decide +kernel) rfl rfl rfl (by decide +kernel)
set_option maxRecDepth 65536 in
theorem w_c10 : (Jvm.Cond.code ({ cls := "java/lang/String", name := "<init>", desc := "([BB)V" } : Jvm.MethodName) jdk_42_method_151_code (3 : Nat) (Option.none : Option Jvm.ClassFile.FieldType)).before args0 about1 = true := code_word (m := ⟨7, 9⟩) (meth := k7m9) (c := k7c9) (by decide +kernel) rfl rfl rfl (by decide +kernel)
set_option maxRecDepth 65536 in
theorem w_c11 : (Jvm.Cond.code ({ cls := "cordon/cli/ResultLine", name := "<init>", desc := "(Ljava/lang/String;)V" } : Jvm.MethodName) prog_18_method_1_code (2 : Nat) (Option.none : Option Jvm.ClassFile.FieldType)).before args0 about1 = true := code_word (m := ⟨10, 0⟩) (meth := k10m0) (c := k10c0) (by decide +kernel) rfl rfl rfl (by decide +kernel)
set_option maxRecDepth 65536 in
theorem w_c12 : (Jvm.Cond.code ({ cls := "java/lang/StringBuilder", name := "<init>", desc := "(Ljava/lang/String;)V" } : Jvm.MethodName) jdk_67_method_3_code (2 : Nat) (Option.none : Option Jvm.ClassFile.FieldType)).before args0 about1 = true := code_word (m := ⟨13, 1⟩) (meth := k13m1) (c := k13c1) (by decide +kernel) rfl rfl rfl (by decide +kernel)
set_option maxRecDepth 65536 in
theorem w_c13 : (Jvm.Cond.code ({ cls := "java/lang/AbstractStringBuilder", name := "<init>", desc := "(Ljava/lang/String;)V" } : Jvm.MethodName) jdk_68_method_3_code (5 : Nat) (Option.none : Option Jvm.ClassFile.FieldType)).before args0 about1 = true := code_word (m := ⟨12, 1⟩) (meth := k12m1) (c := k12c1) (by decide +kernel) rfl rfl rfl (by decide +kernel)
set_option maxRecDepth 65536 in
theorem w_c14 : (Jvm.Cond.code ({ cls := "java/lang/String", name := "length", desc := "()I" } : Jvm.MethodName) jdk_42_method_54_code (1 : Nat) (Option.some Jvm.ClassFile.FieldType.int)).before args0 about1 = true := code_word (m := ⟨7, 3⟩) (meth := k7m3) (c := k7c3) (by decide +kernel) rfl rfl rfl (by decide +kernel)
set_option maxRecDepth 65536 in
theorem w_c15 : (Jvm.Cond.code ({ cls := "java/lang/String", name := "coder", desc := "()B" } : Jvm.MethodName) jdk_42_method_152_code (1 : Nat) (Option.some Jvm.ClassFile.FieldType.byte)).before args0 about1 = true := code_word (m := ⟨7, 10⟩) (meth := k7m10) (c := k7c10) (by decide +kernel) rfl rfl rfl (by decide +kernel)
set_option maxRecDepth 65536 in
theorem w_c16 : (Jvm.Cond.code ({ cls := "java/lang/StringBuilder", name := "append", desc := "(Ljava/lang/String;)Ljava/lang/AbstractStringBuilder;" } : Jvm.MethodName) jdk_67_method_80_code (2 : Nat) (Option.some (Jvm.ClassFile.FieldType.object "java/lang/AbstractStringBuilder"))).before args0 about1 = true := code_word (m := ⟨13, 5⟩) (meth := k13m5) (c := k13c5) (by decide +kernel) rfl rfl rfl (by decide +kernel)
set_option maxRecDepth 65536 in
theorem w_c17 : (Jvm.Cond.code ({ cls := "java/lang/StringBuilder", name := "append", desc := "(Ljava/lang/String;)Ljava/lang/StringBuilder;" } : Jvm.MethodName) jdk_67_method_7_code (2 : Nat) (Option.some (Jvm.ClassFile.FieldType.object "java/lang/StringBuilder"))).before args0 about1 = true := code_word (m := ⟨13, 2⟩) (meth := k13m2) (c := k13c2) (by decide +kernel) rfl rfl rfl (by decide +kernel)
set_option maxRecDepth 65536 in
theorem w_c18 : (Jvm.Cond.code ({ cls := "java/lang/AbstractStringBuilder", name := "append", desc := "(Ljava/lang/String;)Ljava/lang/AbstractStringBuilder;" } : Jvm.MethodName) jdk_68_method_22_code (3 : Nat) (Option.some (Jvm.ClassFile.FieldType.object "java/lang/AbstractStringBuilder"))).before args0 about1 = true := code_word (m := ⟨12, 4⟩) (meth := k12m4) (c := k12c4) (by decide +kernel) rfl rfl rfl (by decide +kernel)
set_option maxRecDepth 65536 in
theorem w_c19 : (Jvm.Cond.code ({ cls := "java/lang/AbstractStringBuilder", name := "ensureCapacityInternal", desc := "(I)V" } : Jvm.MethodName) jdk_68_method_9_code (3 : Nat) (Option.none : Option Jvm.ClassFile.FieldType)).before args0 about1 = true := code_word (m := ⟨12, 3⟩) (meth := k12m3) (c := k12c3) (by decide +kernel) rfl rfl rfl (by decide +kernel)
set_option maxRecDepth 65536 in
theorem w_c20 : (Jvm.Cond.code ({ cls := "java/lang/AbstractStringBuilder", name := "putStringAt", desc := "(ILjava/lang/String;)V" } : Jvm.MethodName) jdk_68_method_73_code (3 : Nat) (Option.none : Option Jvm.ClassFile.FieldType)).before args0 about1 = true := code_word (m := ⟨12, 9⟩) (meth := k12m9) (c := k12c9) (by decide +kernel) rfl rfl rfl (by decide +kernel)
set_option maxRecDepth 65536 in
theorem w_c21 : (Jvm.Cond.code ({ cls := "java/lang/AbstractStringBuilder", name := "inflateIfNeededFor", desc := "(Ljava/lang/String;)V" } : Jvm.MethodName) jdk_68_method_71_code (2 : Nat) (Option.none : Option Jvm.ClassFile.FieldType)).before args0 about1 = true := code_word (m := ⟨12, 8⟩) (meth := k12m8) (c := k12c8) (by decide +kernel) rfl rfl rfl (by decide +kernel)
set_option maxRecDepth 65536 in
theorem w_c22 : (Jvm.Cond.code ({ cls := "java/lang/String", name := "getBytes", desc := "([BIB)V" } : Jvm.MethodName) jdk_42_method_147_code (4 : Nat) (Option.none : Option Jvm.ClassFile.FieldType)).before args0 about1 = true := code_word (m := ⟨7, 6⟩) (meth := k7m6) (c := k7c6) (by decide +kernel) rfl rfl rfl (by decide +kernel)
set_option maxRecDepth 65536 in
theorem w_c23 : (Jvm.Cond.code ({ cls := "cordon/cli/ResultLine", name := "add", desc := "(Ljava/lang/String;Ljava/lang/String;)Lcordon/cli/ResultLine;" } : Jvm.MethodName) prog_18_method_2_code (3 : Nat) (Option.some (Jvm.ClassFile.FieldType.object "cordon/cli/ResultLine"))).before args0 about1 = true := code_word (m := ⟨10, 1⟩) (meth := k10m1) (c := k10c1) (by decide +kernel) rfl rfl rfl (by decide +kernel)
set_option maxRecDepth 65536 in
theorem w_c24 : (Jvm.Cond.code ({ cls := "java/lang/StringBuilder", name := "append", desc := "(C)Ljava/lang/StringBuilder;" } : Jvm.MethodName) jdk_67_method_14_code (2 : Nat) (Option.some (Jvm.ClassFile.FieldType.object "java/lang/StringBuilder"))).before args0 about1 = true := code_word (m := ⟨13, 3⟩) (meth := k13m3) (c := k13c3) (by decide +kernel) rfl rfl rfl (by decide +kernel)
set_option maxRecDepth 65536 in
theorem w_c25 : (Jvm.Cond.code ({ cls := "java/lang/AbstractStringBuilder", name := "append", desc := "(C)Ljava/lang/AbstractStringBuilder;" } : Jvm.MethodName) jdk_68_method_31_code (2 : Nat) (Option.some (Jvm.ClassFile.FieldType.object "java/lang/AbstractStringBuilder"))).before args0 about1 = true := code_word (m := ⟨12, 5⟩) (meth := k12m5) (c := k12c5) (by decide +kernel) rfl rfl rfl (by decide +kernel)
set_option maxRecDepth 65536 in
theorem w_c26 : (Jvm.Cond.code ({ cls := "java/lang/AbstractStringBuilder", name := "isLatin1", desc := "()Z" } : Jvm.MethodName) jdk_68_method_68_code (1 : Nat) (Option.some Jvm.ClassFile.FieldType.boolean)).before args0 about1 = true := code_word (m := ⟨12, 7⟩) (meth := k12m7) (c := k12c7) (by decide +kernel) rfl rfl rfl (by decide +kernel)
set_option maxRecDepth 65536 in
theorem w_c27 : (Jvm.Cond.code ({ cls := "cordon/cli/ResultLine", name := "toString", desc := "()Ljava/lang/String;" } : Jvm.MethodName) prog_18_method_5_code (1 : Nat) (Option.some (Jvm.ClassFile.FieldType.object "java/lang/String"))).before args0 about1 = true := code_word (m := ⟨10, 2⟩) (meth := k10m2) (c := k10c2) (by decide +kernel) rfl rfl rfl (by decide +kernel)
set_option maxRecDepth 65536 in
theorem w_c28 : (Jvm.Cond.code ({ cls := "java/lang/StringBuilder", name := "toString", desc := "()Ljava/lang/String;" } : Jvm.MethodName) jdk_67_method_42_code (1 : Nat) (Option.some (Jvm.ClassFile.FieldType.object "java/lang/String"))).before args0 about1 = true := code_word (m := ⟨13, 4⟩) (meth := k13m4) (c := k13c4) (by decide +kernel) rfl rfl rfl (by decide +kernel)
set_option maxRecDepth 65536 in
theorem w_c29 : (Jvm.Cond.code ({ cls := "java/lang/String", name := "<init>", desc := "(Ljava/lang/StringBuilder;)V" } : Jvm.MethodName) jdk_42_method_53_code (2 : Nat) (Option.none : Option Jvm.ClassFile.FieldType)).before args0 about1 = true := code_word (m := ⟨7, 2⟩) (meth := k7m2) (c := k7c2) (by decide +kernel) rfl rfl rfl (by decide +kernel)
set_option maxRecDepth 65536 in
theorem w_c30 : (Jvm.Cond.code ({ cls := "java/lang/String", name := "<init>", desc := "(Ljava/lang/AbstractStringBuilder;Ljava/lang/Void;)V" } : Jvm.MethodName) jdk_42_method_150_code (5 : Nat) (Option.none : Option Jvm.ClassFile.FieldType)).before args0 about1 = true := code_word (m := ⟨7, 8⟩) (meth := k7m8) (c := k7c8) (by decide +kernel) rfl rfl rfl (by decide +kernel)
set_option maxRecDepth 65536 in
theorem w_c31 : (Jvm.Cond.code ({ cls := "java/lang/AbstractStringBuilder", name := "getValue", desc := "()[B" } : Jvm.MethodName) jdk_68_method_64_code (1 : Nat) (Option.some (Jvm.ClassFile.FieldType.array Jvm.ClassFile.FieldType.byte))).before args0 about1 = true := code_word (m := ⟨12, 6⟩) (meth := k12m6) (c := k12c6) (by decide +kernel) rfl rfl rfl (by decide +kernel)
set_option maxRecDepth 65536 in
theorem w_c32 : (Jvm.Cond.code ({ cls := "java/lang/StringBuilder", name := "length", desc := "()I" } : Jvm.MethodName) jdk_67_method_93_code (1 : Nat) (Option.some Jvm.ClassFile.FieldType.int)).before args0 about1 = true := code_word (m := ⟨13, 6⟩) (meth := k13m6) (c := k13c6) (by decide +kernel) rfl rfl rfl (by decide +kernel)
set_option maxRecDepth 65536 in
theorem w_c33 : (Jvm.Cond.code ({ cls := "java/lang/AbstractStringBuilder", name := "length", desc := "()I" } : Jvm.MethodName) jdk_68_method_6_code (1 : Nat) (Option.some Jvm.ClassFile.FieldType.int)).before args0 about1 = true := code_word (m := ⟨12, 2⟩) (meth := k12m2) (c := k12c2) (by decide +kernel) rfl rfl rfl (by decide +kernel)
set_option maxRecDepth 65536 in
theorem w_c34 : (Jvm.Cond.code ({ cls := "java/util/Arrays", name := "copyOfRange", desc := "([BII)[B" } : Jvm.MethodName) jdk_65_method_132_code (3 : Nat) (Option.some (Jvm.ClassFile.FieldType.array Jvm.ClassFile.FieldType.byte))).before args0 about1 = true := code_word (m := ⟨15, 2⟩) (meth := k15m2) (c := k15c2) (by decide +kernel) rfl rfl rfl (by decide +kernel)
set_option maxRecDepth 65536 in
theorem w_c35 : (Jvm.Cond.code ({ cls := "java/util/Arrays", name := "copyOfRangeByte", desc := "([BII)[B" } : Jvm.MethodName) jdk_65_method_133_code (5 : Nat) (Option.some (Jvm.ClassFile.FieldType.array Jvm.ClassFile.FieldType.byte))).before args0 about1 = true := code_word (m := ⟨15, 3⟩) (meth := k15m3) (c := k15c3) (by decide +kernel) rfl rfl rfl (by decide +kernel)
set_option maxRecDepth 65536 in
theorem w_c36 : (Jvm.Cond.code ({ cls := "java/util/Arrays", name := "checkLength", desc := "(II)V" } : Jvm.MethodName) jdk_65_method_131_code (2 : Nat) (Option.none : Option Jvm.ClassFile.FieldType)).before args0 about1 = true := code_word (m := ⟨15, 1⟩) (meth := k15m1) (c := k15c1) (by decide +kernel) rfl rfl rfl (by decide +kernel)
set_option maxRecDepth 65536 in
theorem w_c37 : (Jvm.Cond.code ({ cls := "java/lang/Math", name := "min", desc := "(II)I" } : Jvm.MethodName) jdk_29_method_69_code (2 : Nat) (Option.some Jvm.ClassFile.FieldType.int)).before args0 about1 = true := code_word (m := ⟨16, 1⟩) (meth := k16m1) (c := k16c1) (by decide +kernel) rfl rfl rfl (by decide +kernel)
set_option maxRecDepth 65536 in
theorem w_c38 : (Jvm.Cond.code ({ cls := "java/lang/String", name := "equals", desc := "(Ljava/lang/Object;)Z" } : Jvm.MethodName) jdk_42_method_66_code (3 : Nat) (Option.some Jvm.ClassFile.FieldType.boolean)).before args0 about1 = true := code_word (m := ⟨7, 4⟩) (meth := k7m4) (c := k7c4) (by decide +kernel) rfl rfl rfl (by decide +kernel)
set_option maxRecDepth 65536 in
theorem w_c39 : (Jvm.Cond.code ({ cls := "java/lang/StringLatin1", name := "equals", desc := "([B[B)Z" } : Jvm.MethodName) jdk_43_method_13_code (3 : Nat) (Option.some Jvm.ClassFile.FieldType.boolean)).before args0 about1 = true := code_word (m := ⟨9, 2⟩) (meth := k9m2) (c := k9c2) (by decide +kernel) rfl rfl rfl (by decide +kernel)
def codes1 : List Jvm.Cond := [Jvm.Cond.code x code maxLocals ret, Jvm.Cond.code ({ cls := "java/lang/String", name := "<init>", desc := "([C)V" } : Jvm.MethodName) jdk_42_method_3_code (2 : Nat) (Option.none : Option Jvm.ClassFile.FieldType), Jvm.Cond.code ({ cls := "java/lang/String", name := "<init>", desc := "([CIILjava/lang/Void;)V" } : Jvm.MethodName) jdk_42_method_149_code (6 : Nat) (Option.none : Option Jvm.ClassFile.FieldType), Jvm.Cond.code ({ cls := "java/lang/Object", name := "<init>", desc := "()V" } : Jvm.MethodName) object_method_1_code (1 : Nat) (Option.none : Option Jvm.ClassFile.FieldType), Jvm.Cond.code ({ cls := "java/lang/StringUTF16", name := "compress", desc := "([CII)[B" } : Jvm.MethodName) jdk_52_method_16_code (6 : Nat) (Option.some (Jvm.ClassFile.FieldType.array Jvm.ClassFile.FieldType.byte)), Jvm.Cond.code ({ cls := "java/lang/StringUTF16", name := "compress", desc := "([CI[BII)I" } : Jvm.MethodName) jdk_52_method_21_code (7 : Nat) (Option.some Jvm.ClassFile.FieldType.int), Jvm.Cond.code ({ cls := "java/lang/StringUTF16", name := "coderFromArrayLen", desc := "([BI)B" } : Jvm.MethodName) jdk_52_method_15_code (2 : Nat) (Option.some Jvm.ClassFile.FieldType.byte), Jvm.Cond.code ({ cls := "java/lang/String", name := "valueOf", desc := "(C)Ljava/lang/String;" } : Jvm.MethodName) jdk_42_method_139_code (1 : Nat) (Option.some (Jvm.ClassFile.FieldType.object "java/lang/String")), Jvm.Cond.code ({ cls := "java/lang/StringLatin1", name := "canEncode", desc := "(C)Z" } : Jvm.MethodName) jdk_43_method_3_code (1 : Nat) (Option.some Jvm.ClassFile.FieldType.boolean), Jvm.Cond.code ({ cls := "java/lang/StringLatin1", name := "toBytes", desc := "(C)[B" } : Jvm.MethodName) jdk_43_method_46_code (1 : Nat) (Option.some (Jvm.ClassFile.FieldType.array Jvm.ClassFile.FieldType.byte)), Jvm.Cond.code ({ cls := "java/lang/String", name := "<init>", desc := "([BB)V" } : Jvm.MethodName) jdk_42_method_151_code (3 : Nat) (Option.none : Option Jvm.ClassFile.FieldType), Jvm.Cond.code ({ cls := "cordon/cli/ResultLine", name := "<init>", desc := "(Ljava/lang/String;)V" } : Jvm.MethodName) prog_18_method_1_code (2 : Nat) (Option.none : Option Jvm.ClassFile.FieldType), Jvm.Cond.code ({ cls := "java/lang/StringBuilder", name := "<init>", desc := "(Ljava/lang/String;)V" } : Jvm.MethodName) jdk_67_method_3_code (2 : Nat) (Option.none : Option Jvm.ClassFile.FieldType), Jvm.Cond.code ({ cls := "java/lang/AbstractStringBuilder", name := "<init>", desc := "(Ljava/lang/String;)V" } : Jvm.MethodName) jdk_68_method_3_code (5 : Nat) (Option.none : Option Jvm.ClassFile.FieldType), Jvm.Cond.code ({ cls := "java/lang/String", name := "length", desc := "()I" } : Jvm.MethodName) jdk_42_method_54_code (1 : Nat) (Option.some Jvm.ClassFile.FieldType.int), Jvm.Cond.code ({ cls := "java/lang/String", name := "coder", desc := "()B" } : Jvm.MethodName) jdk_42_method_152_code (1 : Nat) (Option.some Jvm.ClassFile.FieldType.byte), Jvm.Cond.code ({ cls := "java/lang/StringBuilder", name := "append", desc := "(Ljava/lang/String;)Ljava/lang/AbstractStringBuilder;" } : Jvm.MethodName) jdk_67_method_80_code (2 : Nat) (Option.some (Jvm.ClassFile.FieldType.object "java/lang/AbstractStringBuilder")), Jvm.Cond.code ({ cls := "java/lang/StringBuilder", name := "append", desc := "(Ljava/lang/String;)Ljava/lang/StringBuilder;" } : Jvm.MethodName) jdk_67_method_7_code (2 : Nat) (Option.some (Jvm.ClassFile.FieldType.object "java/lang/StringBuilder")), Jvm.Cond.code ({ cls := "java/lang/AbstractStringBuilder", name := "append", desc := "(Ljava/lang/String;)Ljava/lang/AbstractStringBuilder;" } : Jvm.MethodName) jdk_68_method_22_code (3 : Nat) (Option.some (Jvm.ClassFile.FieldType.object "java/lang/AbstractStringBuilder")), Jvm.Cond.code ({ cls := "java/lang/AbstractStringBuilder", name := "ensureCapacityInternal", desc := "(I)V" } : Jvm.MethodName) jdk_68_method_9_code (3 : Nat) (Option.none : Option Jvm.ClassFile.FieldType), Jvm.Cond.code ({ cls := "java/lang/AbstractStringBuilder", name := "putStringAt", desc := "(ILjava/lang/String;)V" } : Jvm.MethodName) jdk_68_method_73_code (3 : Nat) (Option.none : Option Jvm.ClassFile.FieldType), Jvm.Cond.code ({ cls := "java/lang/AbstractStringBuilder", name := "inflateIfNeededFor", desc := "(Ljava/lang/String;)V" } : Jvm.MethodName) jdk_68_method_71_code (2 : Nat) (Option.none : Option Jvm.ClassFile.FieldType), Jvm.Cond.code ({ cls := "java/lang/String", name := "getBytes", desc := "([BIB)V" } : Jvm.MethodName) jdk_42_method_147_code (4 : Nat) (Option.none : Option Jvm.ClassFile.FieldType), Jvm.Cond.code ({ cls := "cordon/cli/ResultLine", name := "add", desc := "(Ljava/lang/String;Ljava/lang/String;)Lcordon/cli/ResultLine;" } : Jvm.MethodName) prog_18_method_2_code (3 : Nat) (Option.some (Jvm.ClassFile.FieldType.object "cordon/cli/ResultLine")), Jvm.Cond.code ({ cls := "java/lang/StringBuilder", name := "append", desc := "(C)Ljava/lang/StringBuilder;" } : Jvm.MethodName) jdk_67_method_14_code (2 : Nat) (Option.some (Jvm.ClassFile.FieldType.object "java/lang/StringBuilder")), Jvm.Cond.code ({ cls := "java/lang/AbstractStringBuilder", name := "append", desc := "(C)Ljava/lang/AbstractStringBuilder;" } : Jvm.MethodName) jdk_68_method_31_code (2 : Nat) (Option.some (Jvm.ClassFile.FieldType.object "java/lang/AbstractStringBuilder")), Jvm.Cond.code ({ cls := "java/lang/AbstractStringBuilder", name := "isLatin1", desc := "()Z" } : Jvm.MethodName) jdk_68_method_68_code (1 : Nat) (Option.some Jvm.ClassFile.FieldType.boolean), Jvm.Cond.code ({ cls := "cordon/cli/ResultLine", name := "toString", desc := "()Ljava/lang/String;" } : Jvm.MethodName) prog_18_method_5_code (1 : Nat) (Option.some (Jvm.ClassFile.FieldType.object "java/lang/String")), Jvm.Cond.code ({ cls := "java/lang/StringBuilder", name := "toString", desc := "()Ljava/lang/String;" } : Jvm.MethodName) jdk_67_method_42_code (1 : Nat) (Option.some (Jvm.ClassFile.FieldType.object "java/lang/String")), Jvm.Cond.code ({ cls := "java/lang/String", name := "<init>", desc := "(Ljava/lang/StringBuilder;)V" } : Jvm.MethodName) jdk_42_method_53_code (2 : Nat) (Option.none : Option Jvm.ClassFile.FieldType), Jvm.Cond.code ({ cls := "java/lang/String", name := "<init>", desc := "(Ljava/lang/AbstractStringBuilder;Ljava/lang/Void;)V" } : Jvm.MethodName) jdk_42_method_150_code (5 : Nat) (Option.none : Option Jvm.ClassFile.FieldType), Jvm.Cond.code ({ cls := "java/lang/AbstractStringBuilder", name := "getValue", desc := "()[B" } : Jvm.MethodName) jdk_68_method_64_code (1 : Nat) (Option.some (Jvm.ClassFile.FieldType.array Jvm.ClassFile.FieldType.byte)), Jvm.Cond.code ({ cls := "java/lang/StringBuilder", name := "length", desc := "()I" } : Jvm.MethodName) jdk_67_method_93_code (1 : Nat) (Option.some Jvm.ClassFile.FieldType.int), Jvm.Cond.code ({ cls := "java/lang/AbstractStringBuilder", name := "length", desc := "()I" } : Jvm.MethodName) jdk_68_method_6_code (1 : Nat) (Option.some Jvm.ClassFile.FieldType.int), Jvm.Cond.code ({ cls := "java/util/Arrays", name := "copyOfRange", desc := "([BII)[B" } : Jvm.MethodName) jdk_65_method_132_code (3 : Nat) (Option.some (Jvm.ClassFile.FieldType.array Jvm.ClassFile.FieldType.byte)), Jvm.Cond.code ({ cls := "java/util/Arrays", name := "copyOfRangeByte", desc := "([BII)[B" } : Jvm.MethodName) jdk_65_method_133_code (5 : Nat) (Option.some (Jvm.ClassFile.FieldType.array Jvm.ClassFile.FieldType.byte)), Jvm.Cond.code ({ cls := "java/util/Arrays", name := "checkLength", desc := "(II)V" } : Jvm.MethodName) jdk_65_method_131_code (2 : Nat) (Option.none : Option Jvm.ClassFile.FieldType), Jvm.Cond.code ({ cls := "java/lang/Math", name := "min", desc := "(II)I" } : Jvm.MethodName) jdk_29_method_69_code (2 : Nat) (Option.some Jvm.ClassFile.FieldType.int), Jvm.Cond.code ({ cls := "java/lang/String", name := "equals", desc := "(Ljava/lang/Object;)Z" } : Jvm.MethodName) jdk_42_method_66_code (3 : Nat) (Option.some Jvm.ClassFile.FieldType.boolean), Jvm.Cond.code ({ cls := "java/lang/StringLatin1", name := "equals", desc := "([B[B)Z" } : Jvm.MethodName) jdk_43_method_13_code (3 : Nat) (Option.some Jvm.ClassFile.FieldType.boolean)]
set_option maxRecDepth 65536 in
theorem codes_eq : words1.filter isCode = codes1 := rfl
theorem w_codes : ∀ c ∈ words1.filter isCode, c.before args0 about1 = true := by
  rw [codes_eq]
  intro c hc
  simp only [codes1, List.mem_cons, List.not_mem_nil, or_false] at hc
  rcases hc with rfl | rfl | rfl | rfl | rfl | rfl | rfl | rfl | rfl | rfl | rfl | rfl | rfl | rfl | rfl | rfl | rfl | rfl | rfl | rfl | rfl | rfl | rfl | rfl | rfl | rfl | rfl | rfl | rfl | rfl | rfl | rfl | rfl | rfl | rfl | rfl | rfl | rfl | rfl | rfl
  · exact w_c0
  · exact w_c1
  · exact w_c2
  · exact w_c3
  · exact w_c4
  · exact w_c5
  · exact w_c6
  · exact w_c7
  · exact w_c8
  · exact w_c9
  · exact w_c10
  · exact w_c11
  · exact w_c12
  · exact w_c13
  · exact w_c14
  · exact w_c15
  · exact w_c16
  · exact w_c17
  · exact w_c18
  · exact w_c19
  · exact w_c20
  · exact w_c21
  · exact w_c22
  · exact w_c23
  · exact w_c24
  · exact w_c25
  · exact w_c26
  · exact w_c27
  · exact w_c28
  · exact w_c29
  · exact w_c30
  · exact w_c31
  · exact w_c32
  · exact w_c33
  · exact w_c34
  · exact w_c35
  · exact w_c36
  · exact w_c37
  · exact w_c38
  · exact w_c39
set_option maxRecDepth 65536 in
theorem w_t1 : (words1.take 24).all (fun c => isCode c || c.before args0 about1) = true := by decide +kernel
set_option maxRecDepth 65536 in
theorem w_t2 : ((words1.drop 24).take 24).all (fun c => isCode c || c.before args0 about1) = true := by decide +kernel
set_option maxRecDepth 65536 in
theorem w_t3 : (((words1.drop 24).drop 24).take 24).all (fun c => isCode c || c.before args0 about1) = true := by decide +kernel
set_option maxRecDepth 65536 in
theorem w_t4 : ((((words1.drop 24).drop 24).drop 24).take 24).all (fun c => isCode c || c.before args0 about1) = true := by decide +kernel
set_option maxRecDepth 65536 in
theorem w_t5 : (((((words1.drop 24).drop 24).drop 24).drop 24).take 24).all (fun c => isCode c || c.before args0 about1) = true := by decide +kernel
set_option maxRecDepth 65536 in
theorem w_t6 : ((((((words1.drop 24).drop 24).drop 24).drop 24).drop 24).take 24).all (fun c => isCode c || c.before args0 about1) = true := by decide +kernel
set_option maxRecDepth 65536 in
theorem w_t7 : (((((((words1.drop 24).drop 24).drop 24).drop 24).drop 24).drop 24).take 24).all (fun c => isCode c || c.before args0 about1) = true := by decide +kernel
set_option maxRecDepth 65536 in
theorem w_t8 : ((((((((words1.drop 24).drop 24).drop 24).drop 24).drop 24).drop 24).drop 24).take 24).all (fun c => isCode c || c.before args0 about1) = true := by decide +kernel
set_option maxRecDepth 65536 in
theorem w_t9 : ((((((((words1.drop 24).drop 24).drop 24).drop 24).drop 24).drop 24).drop 24).drop 24).all (fun c => isCode c || c.before args0 about1) = true := by decide +kernel
theorem w_tables : (allAtoms (Jvm.Cond.code x code maxLocals ret :: tables_1)).before args0 about1 = true := by
  rw [allAtoms_all]
  show words1.all (fun c => c.before args0 about1) = true
  refine all_split ?_ w_codes
  rw [← List.take_append_drop 24 words1, List.all_append, w_t1, ← List.take_append_drop 24 (words1.drop 24), List.all_append, w_t2, ← List.take_append_drop 24 ((words1.drop 24).drop 24), List.all_append, w_t3, ← List.take_append_drop 24 (((words1.drop 24).drop 24).drop 24), List.all_append, w_t4, ← List.take_append_drop 24 ((((words1.drop 24).drop 24).drop 24).drop 24), List.all_append, w_t5, ← List.take_append_drop 24 (((((words1.drop 24).drop 24).drop 24).drop 24).drop 24), List.all_append, w_t6, ← List.take_append_drop 24 ((((((words1.drop 24).drop 24).drop 24).drop 24).drop 24).drop 24), List.all_append, w_t7, ← List.take_append_drop 24 (((((((words1.drop 24).drop 24).drop 24).drop 24).drop 24).drop 24).drop 24), List.all_append, w_t8, w_t9]
  rfl
set_option maxRecDepth 65536 in
theorem w_rest : rest_1_c.before args0 about1 = true := by decide +kernel
set_option maxRecDepth 65536 in
theorem w_case : (Jvm.Cond.and given_1 narrow_1).before args0 about1 = true := by decide +kernel
theorem w_applies : (headSpec (Jvm.Cond.code x code maxLocals ret :: tables_1) room_1).applies x e0.platform about1 = true :=
  (Spec.applies_iff w_frames).mpr ⟨w_running, w_runnable, w_alone, w_named, w_hears, w_ripe, w_room, w_tables⟩
theorem atStart : AtStart classFile x code maxLocals ret World_1 tables_1 room_1 Calls_1 rest_1 Pre_1 launch0 p0 e0 about1 theMethod args0 below0 :=
  ⟨lists_1, trivial, launch0.admits_env _ _ _, launch0.least_env, fairChoices_fair.cas, fairChoices_fair.clock, w_frames, w_args, w_heap, w_applies, trivial, w_rest, w_case⟩
end start1
theorem witness_1 : WitnessClaimed_1 := ⟨start1.p0, start1.e0, start1.about1, start1.theMethod, start1.args0, start1.below0, start1.atStart⟩
end Jvm.Pilot.@@N@@
