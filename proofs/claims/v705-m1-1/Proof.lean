import JvmDerived
import JvmDerived.Pilot.@@N@@Statement
import JvmDerived.Pilot.@@N@@Code
set_option linter.unusedVariables false
set_option linter.unusedSimpArgs false
namespace Jvm.RoadKit
open Sem ClassFile Op Lib Jvm.Stand Jvm.Free Jvm.LawKit
section Own
variable {p : Program} {l : Launch} {e : Env} {R : Room} {s : State} {m : MethodId} {args : Array Value} {below : List Frame} {meth : Method} {c : Code} {T : State} {locs : List Loc} {cells slots : Nat} {Z : State} {a0 : Array Value} {h h' h2 : Heap}
/-- what is left to show of a walk that stands at S -/
def OEnds (p : Program) (e : Env) (below : List Frame) (s : State) (K N : Nat) (Qf : Option Value → Heap → List Loc → Prop) (S : State) : Prop :=
  ∃ s₂ o, Steps p.tables e below S s₂ ∧ s₂.status = .running ∧ Ended s₂ below o ∧ ∃ v L, o = .returned v ∧ Qf v s₂.heap L ∧ FrameEnd s o s₂ L K N
variable {K N : Nat} {Qf : Option Value → Heap → List Loc → Prop}
theorem OEnds.st {S S' : State} (k : ∀ t, Steps p.tables e below S' t → Steps p.tables e below S t) (h : OEnds p e below s K N Qf S') : OEnds p e below s K N Qf S := by
  obtain ⟨s2, o, h1, r⟩ := h
  exact ⟨s2, o, k _ h1, r⟩
theorem OEnds.cast {g g' : JFrame} (q : g = g') (k : OEnds p e below s K N Qf (T.setTop g')) : OEnds p e below s K N Qf (T.setTop g) := q ▸ k
theorem OEnds.ret (X : Stand p l e R s m args below meth c T locs cells slots) (hx : p.tables.exec = Jvm.exec) {pc : Nat} {Ls : Array Slot} {w : Value} {t : FieldType} {i : Instr} {rest : List Value} (hret : meth.sig.returnType = some t) (hlk : meth.locks = false) (hn : narrow t w = w)
    (hi : (i = .ireturn ∧ (t = .int ∨ t = .boolean ∨ t = .byte ∨ t = .char ∨ t = .short) ∧ ∃ z, w = .int z) ∨ (i = .lreturn ∧ t = .long ∧ ∃ z, w = .long z) ∨ (i = .dreturn ∧ t = .double ∧ ∃ z, w = .double z) ∨ (i = .freturn ∧ t = .float ∧ ∃ z, w = .float z) ∨ (i = .areturn ∧ t.isReference = true ∧ w.isRef = true))
    (hd : decode c.code pc = .ok (i, 1)) (hc : cells ≤ K) (hs : slots ≤ N) (q : Qf (some w) T.heap locs) : OEnds p e below s K N Qf (T.setTop (mkF m pc Ls (w :: rest))) := by
  obtain ⟨fs, hr, hrun, hended, hW, hsame⟩ := X.leave (v := some w) (fun h => by rw [hret] at h; cases h) hlk
  exact ⟨_, _, retOut X hx hret hn hi hd hr, hrun, hended, _, _, rfl, q, ⟨_, rfl⟩, hW, hsame.mono hc hs⟩
theorem OEnds.retV (X : Stand p l e R s m args below meth c T locs cells slots) (hx : p.tables.exec = Jvm.exec) {pc : Nat} {Ls : Array Slot} (hret : meth.sig.returnType = none) (hlk : meth.locks = false)
    (hd : decode c.code pc = .ok (.return_, 1)) (hc : cells ≤ K) (hs : slots ≤ N) (q : Qf none T.heap locs) : OEnds p e below s K N Qf (T.setTop (mkF m pc Ls [])) := by
  obtain ⟨fs, hr, hrun, hended, hW, hsame⟩ := X.leave (v := none) (fun _ => rfl) hlk
  exact ⟨_, _, X.returnOut hx hret hd hr, hrun, hended, _, _, rfl, q, ⟨_, rfl⟩, hW, hsame.mono hc hs⟩
/-- a contract -/
def Con (l : Launch) (Z : State) (y : MethodName) (bytes : ByteArray) (maxL : Nat) (ret : Option FieldType) (ws : List Cond) (rm : Room) (as' : Array Value) (h0 : Heap) (Q : Option Value → Heap → List Loc → Prop) : Prop :=
  MetFree l y (head1 (Cond.code y bytes maxL ret :: ws) rm) (fun a U => a = as' ∧ Z.Warmed39 U.vm ∧ U.heap = h0) (fun _ _ _ _ _ => True) (fun _ U o U' => ∃ v L, o = .returned v ∧ Q v U'.heap L ∧ FrameEnd U o U' L rm.cells rm.slots)
variable {y : MethodName} {bytes : ByteArray} {maxL : Nat} {ret : Option FieldType} {ws : List Cond} {rm : Room} {as' : Array Value} {h0 : Heap} {Q : Option Value → Heap → List Loc → Prop}
theorem Con.walk (hpl : plainFor y = true) (body : ∀ (p : Program) (e : Env) (s : State) (m : MethodId) (below : List Frame) (meth : Method) (c : Code) (T : State), Stand p l e rm s m as' below meth c T [] 0 0 → p.tables.exec = Jvm.exec → Z.Warmed39 s.vm → c.code = bytes → c.maxLocals = maxL →
      s.vm.findClass y.cls = some m.cls → meth.name = y.name → meth.sig.returnType = ret → meth.locks = false → T.heap = h0 → OEnds p e below s rm.cells rm.slots Q (T.setTop (entryFrame m as' maxL))) : Con l Z y bytes maxL ret ws rm as' h0 Q := by
  refine MetFree.of_bodySF hpl hisR ?_
  intro p e s m args below meth c s₁ Bd hml0 hP hK
  obtain ⟨rfl, hZ, hh⟩ := hP
  exact body p e s m below meth c s₁ (Stand.of_body Bd) Bd.exec hZ Bd.bytes hml0 (findClass_of_methodNamed Bd.named) (name_of_methodNamed Bd.named Bd.method).1 Bd.returns Bd.notSynchronized (by rw [← hh, Bd.state]; rfl)
/-- who pays a call, in the one form of this text -/
def SB (l : Launch) (R : Room) (p : Program) (e : Env) (below : List Frame) (s : State) (args : Array Value) (y : MethodName) (len W : Nat) (as' : Array Value) (h : Heap) (Q : Option Value → Heap → List Loc → Prop) (kc ks : Nat) : Prop :=
  Back l R p e below s args y len W (fun A a => a = as' ∧ A.U.heap = h ∧ A.cells + kc ≤ R.cells ∧ A.slots + ks ≤ R.slots) (fun A _ v B => ∃ L, Q v B.U.heap L ∧ B.locs = A.locs ++ L ∧ B.cells = A.cells + kc ∧ B.slots = A.slots + ks)
theorem Con.sb {len W : Nat} (hM : Con l Z y bytes maxL ret [] rm as' h Q) (hZ : Z.Warmed39 s.vm) (wc : (Cond.code y bytes maxL ret).before a0 Z = true) (wz : (Cond.initialized y.cls).before a0 Z = true) (hf : rm.frames + 1 ≤ R.frames) (hl : W + (maxL + 11) + rm.locals ≤ R.locals) :
    SB l R p e below s args y len W as' h Q rm.cells rm.slots := backOf hM hZ wc wz hf hl
theorem SB.of {len W kc ks : Nat} (hB : Back l R p e below s args y len W (fun A a => a = as' ∧ A.U.heap = h ∧ A.cells + kc ≤ R.cells ∧ A.slots + ks ≤ R.slots) (fun A _ v B => ∃ L, Q v B.U.heap L ∧ B.locs = A.locs ++ L ∧ B.cells = A.cells + kc ∧ B.slots = A.slots + ks)) : SB l R p e below s args y len W as' h Q kc ks := hB
theorem SB.mono {len W kc ks : Nat} {Q' : Option Value → Heap → List Loc → Prop} (hB : SB l R p e below s args y len W as' h Q kc ks) (f : ∀ v h' L, Q v h' L → Q' v h' L) : SB l R p e below s args y len W as' h Q' kc ks :=
  Back.mono hB (fun _ _ q => q) (fun _ _ _ _ _ ⟨L, q, r⟩ => ⟨L, f _ _ _ q, r⟩)
theorem callC (X : Stand p l e R s m args below meth c T locs cells slots) (hx : p.tables.exec = Jvm.exec) (hZ : Z.Warmed39 s.vm) {own : String} {index : Nat} {y : MethodName} {bytes : ByteArray} {maxL : Nat} {ret : Option FieldType}
    (hown : s.vm.findClass own = some m.cls) (w1 : (Cond.methodLink own index y).before a0 Z = true) (w2 : (Cond.static y).before a0 Z = true) (w3 : (Cond.initialized y.cls).before a0 Z = true)
    (w4 : (Cond.code y bytes maxL ret).before a0 Z = true) (hy : y.cls ≠ "java/lang/invoke/MethodHandle" ∧ y.cls ≠ "java/lang/invoke/VarHandle") {argsL rest : List Value} {W kc ks : Nat} (hK : SB l R p e below s args y 3 W argsL.toArray h Q kc ks) (eT : T.heap = h)
    {g : JFrame} (hg : g.method = m) (hsize : g.locals.size = c.maxLocals) (hlen : ∀ sig, parseMethodDescriptor y.desc = some sig → argsL.length = sig.parameters.length)
    (hstack : g.stack = argsL.reverse ++ rest) (hW : 2 * g.monitorRoom + (rest.map fun v => v.category).sum ≤ W) (hdg : decode c.code g.pc = .ok (.invokestatic index, 3)) (hc : cells + kc ≤ R.cells) (hs : slots + ks ≤ R.slots) :
    ∃ (v : Option Value) (T' : State) (h' : Heap) (L : List Loc), Stand p l e R s m args below meth c T' (locs ++ L) (cells + kc) (slots + ks) ∧ T'.heap = h' ∧ Q v h' L ∧
      ∀ target, Steps p.tables e below (T'.setTop { g with pc := g.pc + 3, stack := v.toList ++ rest }) target → Steps p.tables e below (T.setTop g) target := by
  obtain ⟨v, vm, ⟨T', L', k', n'⟩, -, X', ⟨L, hQ, l1, y1, z1⟩, st⟩ := Jvm.LawKit.callS X hx hown (mvT hZ w1) (mvT hZ w2) (mvT hZ w3) (mvT hZ w4) hy hK hg hsize hlen hstack hW hdg (fun _ _ => ⟨rfl, eT, hc, hs⟩)
  dsimp only [Pt.U, Pt.locs, Pt.cells, Pt.slots] at X' l1 y1 z1 st hQ
  subst l1 y1 z1
  exact ⟨v, T', _, L, X', rfl, hQ, st⟩
theorem specC (X : Stand p l e R s m args below meth c T locs cells slots) (hx : p.tables.exec = Jvm.exec) (hZ : Z.Warmed39 s.vm) {own : String} {index : Nat} {y : MethodName} {bytes : ByteArray} {maxL : Nat} (hy1 : y.name = "<init>")
    (hown : s.vm.findClass own = some m.cls) (w1 : (Cond.methodLink own index y).before a0 Z = true) (w2 : (Cond.instanceMethod y).before a0 Z = true)
    (w4 : (Cond.code y bytes maxL none).before a0 Z = true) (hy : y.cls ≠ "java/lang/invoke/MethodHandle" ∧ y.cls ≠ "java/lang/invoke/VarHandle") {a : Addr} {argsL rest : List Value} {W kc ks : Nat} (hK : SB l R p e below s args y 3 W (.ref a :: argsL).toArray h Q kc ks) (eT : T.heap = h)
    {g : JFrame} (hg : g.method = m) (hsize : g.locals.size = c.maxLocals) (hlen : ∀ sig, parseMethodDescriptor y.desc = some sig → argsL.length = sig.parameters.length)
    (hstack : g.stack = argsL.reverse ++ .ref a :: rest) (hW : 2 * g.monitorRoom + (rest.map fun v => v.category).sum ≤ W) (hdg : decode c.code g.pc = .ok (.invokespecial index, 3)) (hc : cells + kc ≤ R.cells) (hs : slots + ks ≤ R.slots) :
    ∃ (v : Option Value) (T' : State) (h' : Heap) (L : List Loc), Stand p l e R s m args below meth c T' (locs ++ L) (cells + kc) (slots + ks) ∧ T'.heap = h' ∧ Q v h' L ∧
      ∀ target, Steps p.tables e below (T'.setTop { g with pc := g.pc + 3, stack := v.toList ++ rest }) target → Steps p.tables e below (T.setTop g) target := by
  obtain ⟨v, vm, ⟨T', L', k', n'⟩, -, X', ⟨L, hQ, l1, y1, z1⟩, st⟩ := X.specialBack hx hy1 hown (mvT hZ w1) (mvT hZ w2) (mvT hZ w4) hy hK hg hsize (Steps.refl _) hlen hstack hW hdg (fun _ _ => ⟨rfl, eT, hc, hs⟩)
  dsimp only [Pt.U, Pt.locs, Pt.cells, Pt.slots] at X' l1 y1 z1 st hQ
  subst l1 y1 z1
  exact ⟨v, T', _, L, X', rfl, hQ, fun _ k => st.trans k⟩
theorem virtC (X : Stand p l e R s m args below meth c T locs cells slots) (hx : p.tables.exec = Jvm.exec) (hZ : Z.Warmed39 s.vm) {own C : String} {index : Nat} {y z : MethodName}
    (hown : s.vm.findClass own = some m.cls) (w1 : (Cond.methodLink own index y).before a0 Z = true) (w2 : (Cond.declares y).before a0 Z = true) (hnf : NotFace s y) (w3 : (Cond.selects C y z).before a0 Z = true) (w4 : (Cond.instanceMethod z).before a0 Z = true)
    (hy : y.cls ≠ "java/lang/invoke/MethodHandle" ∧ y.cls ≠ "java/lang/invoke/VarHandle") {a : Addr} {argsL rest : List Value} {W kc ks : Nat} (hK : SB l R p e below s args z 3 W (.ref a :: argsL).toArray h Q kc ks) (eT : T.heap = h) (E : Exa Z h a C)
    {g : JFrame} (hg : g.method = m) (hsize : g.locals.size = c.maxLocals) (hlen : ∀ sig, parseMethodDescriptor y.desc = some sig → argsL.length = sig.parameters.length)
    (hstack : g.stack = argsL.reverse ++ .ref a :: rest) (hW : 2 * g.monitorRoom + (rest.map fun v => v.category).sum ≤ W) (hdg : decode c.code g.pc = .ok (.invokevirtual index, 3)) (hc : cells + kc ≤ R.cells) (hs : slots + ks ≤ R.slots) :
    ∃ (v : Option Value) (T' : State) (h' : Heap) (L : List Loc), Stand p l e R s m args below meth c T' (locs ++ L) (cells + kc) (slots + ks) ∧ T'.heap = h' ∧ Q v h' L ∧
      ∀ target, Steps p.tables e below (T'.setTop { g with pc := g.pc + 3, stack := v.toList ++ rest }) target → Steps p.tables e below (T.setTop g) target := by
  obtain ⟨cq, kq, qa, qb, qc⟩ := isOf hZ eT E
  obtain ⟨v, vm, ⟨T', L', k', n'⟩, -, X', ⟨L, hQ, l1, y1, z1⟩, st⟩ := X.virtualBack hx hown (mvT hZ w1) (mvT hZ w2) hnf (mvT hZ w3) (mvT hZ w4) hy hK qa qc hg hsize (Steps.refl _) hlen hstack hW hdg (fun _ _ => ⟨rfl, eT, hc, hs⟩)
  dsimp only [Pt.U, Pt.locs, Pt.cells, Pt.slots] at X' l1 y1 z1 st hQ
  subst l1 y1 z1
  exact ⟨v, T', _, L, X', rfl, hQ, fun _ k => st.trans k⟩
theorem faceC (X : Stand p l e R s m args below meth c T locs cells slots) (hx : p.tables.exec = Jvm.exec) (hZ : Z.Warmed39 s.vm) {own C : String} {index count : Nat} {xi y : MethodName}
    (hown : s.vm.findClass own = some m.cls) (w1 : (Cond.methodLink own index xi).before a0 Z = true) (w2 : (Cond.declares xi).before a0 Z = true) (w3 : (Cond.interfaceMethod xi.cls xi.cls xi.name xi.desc).before a0 Z = true) (w4 : (Cond.selects C xi y).before a0 Z = true) (w5 : (Cond.instanceMethod y).before a0 Z = true)
    (w6 : (Cond.publicMethod y).before a0 Z = true) (w7 : (Cond.unhidden C xi.name xi.desc).before a0 Z = true) (w8 : (Cond.castable C xi.cls).before a0 Z = true)
    (hy : xi.cls ≠ "java/lang/invoke/MethodHandle" ∧ xi.cls ≠ "java/lang/invoke/VarHandle") {a : Addr} {argsL rest : List Value} {W kc ks : Nat} (hK : SB l R p e below s args y 5 W (.ref a :: argsL).toArray h Q kc ks) (eT : T.heap = h) (E : Exa Z h a C)
    {g : JFrame} (hg : g.method = m) (hsize : g.locals.size = c.maxLocals) (hlen : ∀ sig, parseMethodDescriptor xi.desc = some sig → argsL.length = sig.parameters.length)
    (hstack : g.stack = argsL.reverse ++ .ref a :: rest) (hW : 2 * g.monitorRoom + (rest.map fun v => v.category).sum ≤ W) (hdg : decode c.code g.pc = .ok (.invokeinterface index count, 5)) (hc : cells + kc ≤ R.cells) (hs : slots + ks ≤ R.slots) :
    ∃ (v : Option Value) (T' : State) (h' : Heap) (L : List Loc), Stand p l e R s m args below meth c T' (locs ++ L) (cells + kc) (slots + ks) ∧ T'.heap = h' ∧ Q v h' L ∧
      ∀ target, Steps p.tables e below (T'.setTop { g with pc := g.pc + 5, stack := v.toList ++ rest }) target → Steps p.tables e below (T.setTop g) target := by
  obtain ⟨cq, kq, qa, qb, qc⟩ := isOf hZ eT E
  obtain ⟨v, vm, ⟨T', L', k', n'⟩, -, X', ⟨L, hQ, l1, y1, z1⟩, st⟩ := X.interfaceBack hx hown (mvT hZ w1) (mvT hZ w2) (mvT hZ w3 (by simp [Cond.onTables, Cond.keepsFace, Cond.keeps, Cond.steady, Cond.faceAtom]; exact hy)) (mvT hZ w4) (mvT hZ w5) (mvT hZ w6) (mvT hZ w7) (mvT hZ w8) hy hK qa qb qc hg hsize (Steps.refl _) hlen hstack hW hdg (fun _ _ => ⟨rfl, eT, hc, hs⟩)
  dsimp only [Pt.U, Pt.locs, Pt.cells, Pt.slots] at X' l1 y1 z1 st hQ
  subst l1 y1 z1
  exact ⟨v, T', _, L, X', rfl, hQ, fun _ k => st.trans k⟩
theorem privC (X : Stand p l e R s m args below meth c T locs cells slots) (hx : p.tables.exec = Jvm.exec) (hZ : Z.Warmed39 s.vm) {own C : String} {index : Nat} {y : MethodName} {bytes : ByteArray} {maxL : Nat} {ret : Option FieldType}
    (hown : s.vm.findClass own = some m.cls) (w1 : (Cond.methodLink own index y).before a0 Z = true) (w2 : (Cond.instanceMethod y).before a0 Z = true) (w3 : (Cond.selects y.cls y y).before a0 Z = true) (w4 : (Cond.privateMethod y).before a0 Z = true) (w5 : (Cond.code y bytes maxL ret).before a0 Z = true)
    (hy : y.cls ≠ "java/lang/invoke/MethodHandle" ∧ y.cls ≠ "java/lang/invoke/VarHandle") {a : Addr} {argsL rest : List Value} {W kc ks : Nat} (hK : SB l R p e below s args y 3 W (.ref a :: argsL).toArray h Q kc ks) (eT : T.heap = h) (E : Exa Z h a C)
    {g : JFrame} (hg : g.method = m) (hsize : g.locals.size = c.maxLocals) (hlen : ∀ sig, parseMethodDescriptor y.desc = some sig → argsL.length = sig.parameters.length)
    (hstack : g.stack = argsL.reverse ++ .ref a :: rest) (hW : 2 * g.monitorRoom + (rest.map fun v => v.category).sum ≤ W) (hdg : decode c.code g.pc = .ok (.invokevirtual index, 3)) (hc : cells + kc ≤ R.cells) (hs : slots + ks ≤ R.slots) :
    ∃ (v : Option Value) (T' : State) (h' : Heap) (L : List Loc), Stand p l e R s m args below meth c T' (locs ++ L) (cells + kc) (slots + ks) ∧ T'.heap = h' ∧ Q v h' L ∧
      ∀ target, Steps p.tables e below (T'.setTop { g with pc := g.pc + 3, stack := v.toList ++ rest }) target → Steps p.tables e below (T.setTop g) target := by
  obtain ⟨cq, q1, q2⟩ := E.cell
  obtain ⟨v, vm, ⟨T', L', k', n'⟩, -, X', ⟨L, hQ, l1, y1, z1⟩, st⟩ := X.privateBack hx hown (mvT hZ w1) (mvT hZ w2) (mvT hZ w3) (Cond.privateMethod_at (mvP hZ w4 (args := #[]))) (mvT hZ w5) hy hK hg hsize (Steps.refl _) (by rw [eT]; exact q1) q2 hlen hstack hW hdg (fun _ _ => ⟨rfl, eT, hc, hs⟩)
  dsimp only [Pt.U, Pt.locs, Pt.cells, Pt.slots] at X' l1 y1 z1 st hQ
  subst l1 y1 z1
  exact ⟨v, T', _, L, X', rfl, hQ, fun _ k => st.trans k⟩
theorem ne_arv {a b : Addr} {C : String} {k : Nat} {kc : ClassId} {ty : FieldType} {z : Int32} {vs : List Value} {d : Value} (F : Exa Z h a C) (wi : (Cond.instantiable C k).before a0 Z = true) (G : Arv Z h b kc ty z vs d) : a ≠ b := by
  obtain ⟨cl, A, -⟩ := G
  exact ne_arr F wi A
theorem ext_refl (h : Heap) : Ext h h := ⟨Nat.le_refl _, fun _ _ q => q⟩
theorem ext_trans (A : Ext h h') (B : Ext h' h2) : Ext h h2 := ⟨Nat.le_trans A.1 B.1, fun a c q => B.2 a c (A.2 a c q)⟩
theorem ext_keep {ws : List Addr} (O : Ext h h') (Kp : Keep h' h2 ws) (q : ∀ x ∈ ws, h.size ≤ x) : Ext h h2 := ⟨Nat.le_trans O.1 Kp.1, fun a c r => Kp.2.1 a c (O.2 a c r) fun z => absurd (Array.getElem?_eq_some_iff.mp r).1 (Nat.not_lt.mpr (q a z))⟩
theorem ext_wr {a : Addr} {sl : Nat} {v : Value} (O : Ext h h') (W : Wr h' h2 a sl v) (q : h.size ≤ a) : Ext h h2 := ext_keep O (Keep.of_wr W) (allS q all0)
theorem fits_isRef {ty : FieldType} {v : Value} (ht : ty.isReference = true) (hv : v.isRef = true) : fits ty v = true := by
  rcases ref_cases hv with rfl | ⟨a, rfl⟩ <;> cases ty <;> first | rfl | cases ht
theorem narrow_isRef {ty : FieldType} {v : Value} (ht : ty.isReference = true) : narrow ty v = v := by cases ty <;> first | rfl | cases ht
theorem nf_sel {C : String} {y' z y : MethodName} {s : State} {args : Array Value} (w : (Cond.selects C y' z).before args s = true) (hz : z.cls = y.cls) : NotFace s y := fun r0 h0 => by
  obtain ⟨c2, r2, m2, q1, q2, q3, q4, kP, hkP, hkPi⟩ := Cond.selects_spec w
  have e1 := findClass_of_methodNamed h0
  have e2 := findClass_of_methodNamed q3
  rw [hz] at e2
  have e3 : m2.cls = r0.cls := Option.some.inj (e2.symm.trans e1)
  exact ⟨kP, e3 ▸ hkP, hkPi⟩
theorem shr0 (x : Int32) : x >>> ((0 : Int32) &&& 31) = x := by
  apply Int32.toBitVec_inj.mp
  rw [Int32.toBitVec_shiftRight]
  simp
theorem nar_char {x : Int32} (h : ¬ x < 0 ∧ ¬ (255 : Int32) < x) : nar .char x = x := by
  obtain ⟨h1, h2⟩ := h
  rw [Int32.lt_iff_toInt_lt] at h1 h2
  have e0 : (0 : Int32).toInt = 0 := rfl
  have e1 : (255 : Int32).toInt = 255 := rfl
  have q := c_i2c x
  show x.toUInt32.toUInt16.toUInt32.toInt32 = x
  apply Int32.toInt_inj.mp
  omega
theorem i2c255 {x : Int32} : ¬ (x &&& 255).toUInt32.toUInt16.toUInt32.toInt32 < 0 ∧ ¬ (255 : Int32) < (x &&& 255).toUInt32.toUInt16.toUInt32.toInt32 := by
  rw [i2c_mask]
  have q := c_and x 255 (by decide)
  have e0 : (0 : Int32).toInt = 0 := rfl
  have e1 : (255 : Int32).toInt = 255 := rfl
  rw [Int32.lt_iff_toInt_lt, Int32.lt_iff_toInt_lt]
  omega
end Own
end Jvm.RoadKit
namespace Jvm.RoadKit
open Sem ClassFile Op Lib Jvm.Stand Jvm.Free Jvm.LawKit
section Own2
variable {p : Program} {l : Launch} {e : Env} {R : Room} {s : State} {m : MethodId} {args : Array Value} {below : List Frame} {meth : Method} {c : Code} {T : State} {locs : List Loc} {cells slots : Nat} {Z : State} {a0 : Array Value} {h : Heap}
theorem arv_empty {a : Addr} {cl : Cell} {ty : FieldType} {t : Term} (hf : Fit s) (A : Arr s s.heap a cl ty) (ev : t.eval args s none [] s = some (.ref a)) (hl : (Term.length t).eval args s none [] s = some (.int 0)) {dv : Value} : Arv s s.heap a cl.cls ty (0 : Int32) [] dv := by
  obtain ⟨sd, SA, hev, harrAt, -⟩ := Term.length_spec hl
  have h31 := SBG.length_lt hev harrAt hl
  cases ev.symm.trans hev
  cases (A.fin (Vm.Alike.refl _)).symm.trans harrAt
  have e : (Term.length t).eval args s none [] s = some (.int cl.slots.size.toInt32) := len_f ev harrAt h31
  have e2 : cl.slots.size.toInt32 = 0 := by have := Option.some.inj (e.symm.trans hl); simpa using this
  exact Arv.start hf A h31 e2 (by decide) rfl trivial
variable {Q : Option Value → Heap → List Loc → Prop}
end Own2
end Jvm.RoadKit
namespace Jvm.RoadKit
open Sem ClassFile Op Lib Bundle Jvm.Stand Jvm.Free Jvm.LawKit
section OwnH
variable {p : Program} {l : Launch} {e : Env} {R : Room} {s : State} {m : MethodId} {args : Array Value} {below : List Frame} {meth : Method} {c : Code} {T : State} {locs : List Loc} {cells slots : Nat} {Z : State} {a0 : Array Value} {h h' h2 : Heap} {EL : List (String × Nat)} {vm0 vm1 : Vm}
/-- what is left to show of a walk that may intern String constants -/
def OEndsH (p : Program) (e : Env) (below : List Frame) (Z : State) (EL : List (String × Nat)) (s : State) (K N : Nat) (Qf : Option Value → Heap → List Loc → Prop) (S : State) : Prop :=
  ∃ s₂ o, Steps p.tables e below S s₂ ∧ s₂.status = .running ∧ Ended s₂ below o ∧ ∃ v L, o = .returned v ∧ Qf v s₂.heap L ∧ CHr Z EL s.vm s.heap s₂.vm s₂.heap ∧ ReturnedEndW s o s₂ L K N
variable {K N : Nat} {Qf : Option Value → Heap → List Loc → Prop}
theorem OEndsH.st {S S' : State} (k : ∀ t, Steps p.tables e below S' t → Steps p.tables e below S t) (h : OEndsH p e below Z EL s K N Qf S') : OEndsH p e below Z EL s K N Qf S := by
  obtain ⟨s2, o, h1, r⟩ := h
  exact ⟨s2, o, k _ h1, r⟩
theorem OEndsH.cast {g g' : JFrame} (q : g = g') (k : OEndsH p e below Z EL s K N Qf (T.setTop g')) : OEndsH p e below Z EL s K N Qf (T.setTop g) := q ▸ k
theorem OEndsH.ret (X : Stand p l e R (s.setVm vm0) m args below meth c T locs cells slots) (hx : p.tables.exec = Jvm.exec) (hZ : Z.Warmed39 vm0) (hEL : EW Z a0 EL) (eT : T.heap = h) {k0 : Nat} (hS : s.Since vm0 k0) (hk : k0 ≤ h.size) (A : CHr Z EL s.vm s.heap vm0 h)
    {pc : Nat} {Ls : Array Slot} {w : Value} {t : FieldType} {i : Instr} {rest : List Value} (hret : meth.sig.returnType = some t) (hlk : meth.locks = false) (hn : narrow t w = w)
    (hi : (i = .ireturn ∧ (t = .int ∨ t = .boolean ∨ t = .byte ∨ t = .char ∨ t = .short) ∧ ∃ z, w = .int z) ∨ (i = .lreturn ∧ t = .long ∧ ∃ z, w = .long z) ∨ (i = .dreturn ∧ t = .double ∧ ∃ z, w = .double z) ∨ (i = .freturn ∧ t = .float ∧ ∃ z, w = .float z) ∨ (i = .areturn ∧ t.isReference = true ∧ w.isRef = true))
    (hd : decode c.code pc = .ok (i, 1)) (hc : cells ≤ K) (hs : slots ≤ N) (q : Qf (some w) h locs) : OEndsH p e below Z EL s K N Qf (T.setTop (mkF m pc Ls (w :: rest))) := by
  obtain ⟨fs, hr, hrun, hended, hW, hsame⟩ := X.leave (v := some w) (fun h => by rw [hret] at h; cases h) hlk
  subst eT
  obtain ⟨q1, q2, q3⟩ := hS.ended hW hk hsame
  have B := A.trans (CHv.at X hZ hEL A.1)
  exact ⟨_, _, retOut X hx hret hn hi hd hr, hrun, hended, _, _, rfl, q, B, ⟨_, rfl⟩, q1, q2, q3.mono hc hs⟩
theorem OEndsH.retV (X : Stand p l e R (s.setVm vm0) m args below meth c T locs cells slots) (hx : p.tables.exec = Jvm.exec) (hZ : Z.Warmed39 vm0) (hEL : EW Z a0 EL) (eT : T.heap = h) {k0 : Nat} (hS : s.Since vm0 k0) (hk : k0 ≤ h.size) (A : CHr Z EL s.vm s.heap vm0 h)
    {pc : Nat} {Ls : Array Slot} (hret : meth.sig.returnType = none) (hlk : meth.locks = false)
    (hd : decode c.code pc = .ok (.return_, 1)) (hc : cells ≤ K) (hs : slots ≤ N) (q : Qf none h locs) : OEndsH p e below Z EL s K N Qf (T.setTop (mkF m pc Ls [])) := by
  obtain ⟨fs, hr, hrun, hended, hW, hsame⟩ := X.leave (v := none) (fun _ => rfl) hlk
  subst eT
  obtain ⟨q1, q2, q3⟩ := hS.ended hW hk hsame
  have B := A.trans (CHv.at X hZ hEL A.1)
  exact ⟨_, _, X.returnOut hx hret hd hr, hrun, hended, _, _, rfl, q, B, ⟨_, rfl⟩, q1, q2, q3.mono hc hs⟩
/-- a contract whose body may intern; ss: the objects that stand ahead of it and that it writes, none of them a constant's -/
def ConH (l : Launch) (Z : State) (EL : List (String × Nat)) (y : MethodName) (bytes : ByteArray) (maxL : Nat) (ret : Option FieldType) (ws : List Cond) (rm : Room) (as' : Array Value) (h0 : Heap) (ss : List Addr) (Q : Option Value → Heap → List Loc → Prop) : Prop :=
  MetFree l y (head1 (Cond.code y bytes maxL ret :: ws) rm) (fun a U => a = as' ∧ Z.Warmed39 U.vm ∧ U.heap = h0 ∧ CHv Z EL U.vm h0 ∧ ∀ x ∈ ss, Safe Z EL U.vm h0 x) (fun _ _ _ _ _ => True) (fun _ U o U' => ∃ v L, o = .returned v ∧ Q v U'.heap L ∧ CHr Z EL U.vm U.heap U'.vm U'.heap ∧ ReturnedEndW U o U' L rm.cells rm.slots)
variable {y : MethodName} {bytes : ByteArray} {maxL : Nat} {ret : Option FieldType} {ws : List Cond} {rm : Room} {as' : Array Value} {h0 : Heap} {ss : List Addr} {Q : Option Value → Heap → List Loc → Prop}
theorem ConH.walk (hpl : plainFor y = true) (body : ∀ (p : Program) (e : Env) (s : State) (vm0 : Vm) (k0 : Nat) (m : MethodId) (below : List Frame) (meth : Method) (c : Code) (T : State), Stand p l e rm (s.setVm vm0) m as' below meth c T [] 0 0 → s.Since vm0 k0 → k0 ≤ h0.size → p.tables.exec = Jvm.exec → Z.Warmed39 vm0 → c.code = bytes → c.maxLocals = maxL →
      vm0.findClass y.cls = some m.cls → meth.name = y.name → meth.sig.returnType = ret → meth.locks = false → T.heap = h0 → CHr Z EL s.vm s.heap vm0 h0 → (∀ x ∈ ss, Safe Z EL vm0 h0 x) → OEndsH p e below Z EL s rm.cells rm.slots Q (T.setTop (entryFrame m as' maxL))) : ConH l Z EL y bytes maxL ret ws rm as' h0 ss Q := by
  refine MetFree.of_bodySF hpl hisR ?_
  intro p e s m args below meth c s₁ Bd hml0 hP hK
  obtain ⟨rfl, hZ, hh, hC, hs⟩ := hP
  have e1 : s₁.heap = h0 := by rw [← hh, Bd.state]; rfl
  exact body p e s s.vm 0 m below meth c s₁ (Stand.of_body Bd) ((State.WarmedH.refl s).since 0) (Nat.zero_le _) Bd.exec hZ Bd.bytes hml0 (findClass_of_methodNamed Bd.named) (name_of_methodNamed Bd.named Bd.method).1 Bd.returns Bd.notSynchronized e1 (by rw [hh]; exact CHr.refl hC) hs
/-- who pays a call that may intern -/
def SBH (l : Launch) (Z : State) (EL : List (String × Nat)) (R : Room) (p : Program) (e : Env) (below : List Frame) (s : State) (vm0 : Vm) (args : Array Value) (y : MethodName) (len W : Nat) (as' : Array Value) (h : Heap) (Q : Option Value → Heap → List Loc → Prop) (kc ks : Nat) : Prop :=
  BackS l R p e below (s.setVm vm0) args y len W (fun A a => a = as' ∧ A.U.heap = h ∧ A.cells + kc ≤ R.cells ∧ A.slots + ks ≤ R.slots) (fun A _ v B => ∃ L, Q v B.U.heap L ∧ B.locs = A.locs ++ L ∧ B.cells = A.cells + kc ∧ B.slots = A.slots + ks ∧ CHr Z EL vm0 h B.U.vm B.U.heap)
theorem ConH.sb {len W : Nat} (hM : ConH l Z EL y bytes maxL ret [] rm as' h ss Q) (hZ : Z.Warmed39 vm0) (wc : (Cond.code y bytes maxL ret).before a0 Z = true) (wz : (Cond.initialized y.cls).before a0 Z = true) (hf : rm.frames + 1 ≤ R.frames) (hl : W + (maxL + 11) + rm.locals ≤ R.locals) (hEL : EW Z a0 EL) (H : CHv Z EL vm0 h) (hss : ∀ x ∈ ss, x < h.size ∧ Safe Z EL vm0 h x) :
    SBH l Z EL R p e below s vm0 args y len W as' h Q rm.cells rm.slots :=
  BackS.of_freeW (bytes := bytes) (maxL := maxL) (ret := ret) (E := fun _ first o t L k n => k = rm.cells ∧ n = rm.slots ∧ (∃ v, o = .returned v ∧ Q v t.heap L) ∧ CHr Z EL first.vm first.heap t.vm t.heap) hM hf hl
    (fun m meth c A a Y hp => have hU : Z.Warmed39 A.U.vm := wtrans (s := s.setVm vm0) hZ Y.warmed
      ⟨by show (Cond.and _ .tt).before a A.U = true; rw [Cond.before_and, mv hU wc]; rfl, mv hU wc, mv hU wz, hp.2.2.1, hp.2.2.2⟩)
    (fun m meth c A a g mk Y hp => ⟨hp.1, wtrans (s := s.setVm vm0) hZ Y.warmed, hp.2.1, (CHv.at Y hZ hEL H).1, fun x hx => (CHv.at Y hZ hEL H).safe (hss x hx).1 (hss x hx).2⟩) (fun _ _ _ _ _ _ _ _ _ => trivial)
    (fun _ _ _ _ ⟨v, L, h1, h2, h3, h4⟩ => ⟨L, _, _, h4, rfl, rfl, ⟨v, h1, h2⟩, h3⟩)
    (fun m meth c A a g mk v t L k n Y hp _ _ ⟨e1, e2, ⟨v', e3, e4⟩, e5⟩ => by
      cases e3; subst e1 e2
      refine ⟨L, e4, rfl, rfl, rfl, (CHv.at Y hZ hEL H).trans ?_⟩
      rw [← hp.2.1]; exact e5)
theorem callH (X : Stand p l e R (s.setVm vm0) m args below meth c T locs cells slots) (hx : p.tables.exec = Jvm.exec) (hZ : Z.Warmed39 vm0) {own : String} {index : Nat} {y : MethodName} {bytes : ByteArray} {maxL : Nat} {ret : Option FieldType}
    (hown : vm0.findClass own = some m.cls) (w1 : (Cond.methodLink own index y).before a0 Z = true) (w2 : (Cond.static y).before a0 Z = true) (w3 : (Cond.initialized y.cls).before a0 Z = true)
    (w4 : (Cond.code y bytes maxL ret).before a0 Z = true) (hy : y.cls ≠ "java/lang/invoke/MethodHandle" ∧ y.cls ≠ "java/lang/invoke/VarHandle") {argsL rest : List Value} {W kc ks : Nat} (hK : SBH l Z EL R p e below s vm0 args y 3 W argsL.toArray h Q kc ks) (eT : T.heap = h) {k0 : Nat} (hS : s.Since vm0 k0) (hk : k0 ≤ h.size)
    {g : JFrame} (hg : g.method = m) (hsize : g.locals.size = c.maxLocals) (hlen : ∀ sig, parseMethodDescriptor y.desc = some sig → argsL.length = sig.parameters.length)
    (hstack : g.stack = argsL.reverse ++ rest) (hW : 2 * g.monitorRoom + (rest.map fun v => v.category).sum ≤ W) (hdg : decode c.code g.pc = .ok (.invokestatic index, 3)) (hc : cells + kc ≤ R.cells) (hs : slots + ks ≤ R.slots) :
    ∃ (v : Option Value) (T' : State) (h' : Heap) (L : List Loc) (vm1 : Vm) (k1 : Nat), Stand p l e R (s.setVm vm1) m args below meth c T' (locs ++ L) (cells + kc) (slots + ks) ∧ T'.heap = h' ∧ Q v h' L ∧ s.Since vm1 k1 ∧ k1 ≤ h'.size ∧ Z.Warmed39 vm1 ∧ vm1.findClass own = some m.cls ∧ CHr Z EL vm0 h vm1 h' ∧
      ∀ target, Steps p.tables e below (T'.setTop { g with pc := g.pc + 3, stack := v.toList ++ rest }) target → Steps p.tables e below (T.setTop g) target := by
  obtain ⟨v, vm, ⟨T', L', k', n'⟩, -, X', hS', hgr, ⟨L, hQ, l1, y1, z1, A⟩, st⟩ := callSS X hx hown (mvT (s := s.setVm vm0) hZ w1) (mvT (s := s.setVm vm0) hZ w2) (mvT (s := s.setVm vm0) hZ w3) (mvT (s := s.setVm vm0) hZ w4) hy hK hg hsize hlen hstack hW hdg (fun _ _ => ⟨rfl, eT, hc, hs⟩)
  dsimp only [Pt.U, Pt.locs, Pt.cells, Pt.slots] at X' l1 y1 z1 st hQ hS' hgr A
  subst l1 y1 z1 eT
  exact ⟨v, T', _, L, T'.vm, _, X', rfl, hQ, hS.trans hS' (Nat.le_trans hk hgr), Nat.le_refl _, State.Warmed39.trans (t := s.setVm vm0) hZ hS'.1, by rw [hS'.1.alike.findClass]; exact hown, A, fun _ k => st.trans k⟩
theorem specH (X : Stand p l e R (s.setVm vm0) m args below meth c T locs cells slots) (hx : p.tables.exec = Jvm.exec) (hZ : Z.Warmed39 vm0) {own : String} {index : Nat} {y : MethodName} {bytes : ByteArray} {maxL : Nat} (hy1 : y.name = "<init>")
    (hown : vm0.findClass own = some m.cls) (w1 : (Cond.methodLink own index y).before a0 Z = true) (w2 : (Cond.instanceMethod y).before a0 Z = true)
    (w4 : (Cond.code y bytes maxL none).before a0 Z = true) (hy : y.cls ≠ "java/lang/invoke/MethodHandle" ∧ y.cls ≠ "java/lang/invoke/VarHandle") {a : Addr} {argsL rest : List Value} {W kc ks : Nat} (hK : SBH l Z EL R p e below s vm0 args y 3 W (.ref a :: argsL).toArray h Q kc ks) (eT : T.heap = h) {k0 : Nat} (hS : s.Since vm0 k0) (hk : k0 ≤ h.size)
    {g : JFrame} (hg : g.method = m) (hsize : g.locals.size = c.maxLocals) (hlen : ∀ sig, parseMethodDescriptor y.desc = some sig → argsL.length = sig.parameters.length)
    (hstack : g.stack = argsL.reverse ++ .ref a :: rest) (hW : 2 * g.monitorRoom + (rest.map fun v => v.category).sum ≤ W) (hdg : decode c.code g.pc = .ok (.invokespecial index, 3)) (hc : cells + kc ≤ R.cells) (hs : slots + ks ≤ R.slots) :
    ∃ (v : Option Value) (T' : State) (h' : Heap) (L : List Loc) (vm1 : Vm) (k1 : Nat), Stand p l e R (s.setVm vm1) m args below meth c T' (locs ++ L) (cells + kc) (slots + ks) ∧ T'.heap = h' ∧ Q v h' L ∧ s.Since vm1 k1 ∧ k1 ≤ h'.size ∧ Z.Warmed39 vm1 ∧ vm1.findClass own = some m.cls ∧ CHr Z EL vm0 h vm1 h' ∧
      ∀ target, Steps p.tables e below (T'.setTop { g with pc := g.pc + 3, stack := v.toList ++ rest }) target → Steps p.tables e below (T.setTop g) target := by
  obtain ⟨v, vm, ⟨T', L', k', n'⟩, -, X', hS', hgr, ⟨L, hQ, l1, y1, z1, A⟩, st⟩ := X.specialBackS hx hy1 hown (mvT (s := s.setVm vm0) hZ w1) (mvT (s := s.setVm vm0) hZ w2) (mvT (s := s.setVm vm0) hZ w4) hy hK hg hsize (Steps.refl _) hlen hstack hW hdg (fun _ _ => ⟨rfl, eT, hc, hs⟩)
  dsimp only [Pt.U, Pt.locs, Pt.cells, Pt.slots] at X' l1 y1 z1 st hQ hS' hgr A
  subst l1 y1 z1 eT
  exact ⟨v, T', _, L, T'.vm, _, X', rfl, hQ, hS.trans hS' (Nat.le_trans hk hgr), Nat.le_refl _, State.Warmed39.trans (t := s.setVm vm0) hZ hS'.1, by rw [hS'.1.alike.findClass]; exact hown, A, fun _ k => st.trans k⟩
theorem virtH (X : Stand p l e R (s.setVm vm0) m args below meth c T locs cells slots) (hx : p.tables.exec = Jvm.exec) (hZ : Z.Warmed39 vm0) {own C : String} {index : Nat} {y z : MethodName}
    (hown : vm0.findClass own = some m.cls) (w1 : (Cond.methodLink own index y).before a0 Z = true) (w2 : (Cond.declares y).before a0 Z = true) (hnf : NotFace (s.setVm vm0) y) (w3 : (Cond.selects C y z).before a0 Z = true) (w4 : (Cond.instanceMethod z).before a0 Z = true)
    (hy : y.cls ≠ "java/lang/invoke/MethodHandle" ∧ y.cls ≠ "java/lang/invoke/VarHandle") {a : Addr} {argsL rest : List Value} {W kc ks : Nat} (hK : SBH l Z EL R p e below s vm0 args z 3 W (.ref a :: argsL).toArray h Q kc ks) (eT : T.heap = h) {k0 : Nat} (hS : s.Since vm0 k0) (hk : k0 ≤ h.size) (E : Exa Z h a C)
    {g : JFrame} (hg : g.method = m) (hsize : g.locals.size = c.maxLocals) (hlen : ∀ sig, parseMethodDescriptor y.desc = some sig → argsL.length = sig.parameters.length)
    (hstack : g.stack = argsL.reverse ++ .ref a :: rest) (hW : 2 * g.monitorRoom + (rest.map fun v => v.category).sum ≤ W) (hdg : decode c.code g.pc = .ok (.invokevirtual index, 3)) (hc : cells + kc ≤ R.cells) (hs : slots + ks ≤ R.slots) :
    ∃ (v : Option Value) (T' : State) (h' : Heap) (L : List Loc) (vm1 : Vm) (k1 : Nat), Stand p l e R (s.setVm vm1) m args below meth c T' (locs ++ L) (cells + kc) (slots + ks) ∧ T'.heap = h' ∧ Q v h' L ∧ s.Since vm1 k1 ∧ k1 ≤ h'.size ∧ Z.Warmed39 vm1 ∧ vm1.findClass own = some m.cls ∧ CHr Z EL vm0 h vm1 h' ∧
      ∀ target, Steps p.tables e below (T'.setTop { g with pc := g.pc + 3, stack := v.toList ++ rest }) target → Steps p.tables e below (T.setTop g) target := by
  obtain ⟨cq, kq, qa, qb, qc⟩ := isOf (s := s.setVm vm0) hZ eT E
  obtain ⟨v, vm, ⟨T', L', k', n'⟩, -, X', hS', hgr, ⟨L, hQ, l1, y1, z1, A⟩, st⟩ := X.virtualBackS hx hown (mvT (s := s.setVm vm0) hZ w1) (mvT (s := s.setVm vm0) hZ w2) hnf (mvT (s := s.setVm vm0) hZ w3) (mvT (s := s.setVm vm0) hZ w4) hy hK qa qc hg hsize (Steps.refl _) hlen hstack hW hdg (fun _ _ => ⟨rfl, eT, hc, hs⟩)
  dsimp only [Pt.U, Pt.locs, Pt.cells, Pt.slots] at X' l1 y1 z1 st hQ hS' hgr A
  subst l1 y1 z1 eT
  exact ⟨v, T', _, L, T'.vm, _, X', rfl, hQ, hS.trans hS' (Nat.le_trans hk hgr), Nat.le_refl _, State.Warmed39.trans (t := s.setVm vm0) hZ hS'.1, by rw [hS'.1.alike.findClass]; exact hown, A, fun _ k => st.trans k⟩
end OwnH
end Jvm.RoadKit
namespace Jvm.RoadKit
open Sem ClassFile Op Lib Jvm.Stand Jvm.Free Jvm.LawKit
section OwnJ
variable {p : Program} {e : Env} {below : List Frame} {P : State → Prop} {S S' : State}
/-- the walk from S comes to a place where P stands (two roads may meet there) -/
def OJ (p : Program) (e : Env) (below : List Frame) (P : State → Prop) (S : State) : Prop := ∃ S', P S' ∧ ∀ t, Steps p.tables e below S' t → Steps p.tables e below S t
theorem OJ.st (k : ∀ t, Steps p.tables e below S' t → Steps p.tables e below S t) (h : OJ p e below P S') : OJ p e below P S := by
  obtain ⟨s2, h1, h2⟩ := h
  exact ⟨s2, h1, fun t q => k t (h2 t q)⟩
theorem OJ.here (h : P S) : OJ p e below P S := ⟨S, h, fun _ q => q⟩
end OwnJ
end Jvm.RoadKit
namespace Jvm.RoadKit
open Sem ClassFile Op Lib Bundle Jvm.Stand Jvm.Free Jvm.LawKit Jvm.Free.SB Jvm.Free.SBG
section OwnW
variable {p : Program} {l : Launch} {e : Env} {R : Room} {s : State} {m : MethodId} {args : Array Value} {below : List Frame} {meth : Method} {c : Code} {T : State} {locs : List Loc} {cells slots : Nat} {Z : State} {a0 : Array Value} {h h' : Heap} {EL : List (String × Nat)} {vm0 vm1 : Vm} {Q : Option Value → Heap → List Loc → Prop} {own text : String} {index : Nat}
theorem privH (X : Stand p l e R (s.setVm vm0) m args below meth c T locs cells slots) (hx : p.tables.exec = Jvm.exec) (hZ : Z.Warmed39 vm0) {own C : String} {index : Nat} {y : MethodName} {bytes : ByteArray} {maxL : Nat} {ret : Option FieldType}
    (hown : vm0.findClass own = some m.cls) (w1 : (Cond.methodLink own index y).before a0 Z = true) (w2 : (Cond.instanceMethod y).before a0 Z = true) (w3 : (Cond.selects y.cls y y).before a0 Z = true) (w4 : (Cond.privateMethod y).before a0 Z = true) (w5 : (Cond.code y bytes maxL ret).before a0 Z = true)
    (hy : y.cls ≠ "java/lang/invoke/MethodHandle" ∧ y.cls ≠ "java/lang/invoke/VarHandle") {a : Addr} {argsL rest : List Value} {W kc ks : Nat} (hK : SBH l Z EL R p e below s vm0 args y 3 W (.ref a :: argsL).toArray h Q kc ks) (eT : T.heap = h) {k0 : Nat} (hS : s.Since vm0 k0) (hk : k0 ≤ h.size) (E : Exa Z h a C)
    {g : JFrame} (hg : g.method = m) (hsize : g.locals.size = c.maxLocals) (hlen : ∀ sig, parseMethodDescriptor y.desc = some sig → argsL.length = sig.parameters.length)
    (hstack : g.stack = argsL.reverse ++ .ref a :: rest) (hW : 2 * g.monitorRoom + (rest.map fun v => v.category).sum ≤ W) (hdg : decode c.code g.pc = .ok (.invokevirtual index, 3)) (hc : cells + kc ≤ R.cells) (hs : slots + ks ≤ R.slots) :
    ∃ (v : Option Value) (T' : State) (h' : Heap) (L : List Loc) (vm1 : Vm) (k1 : Nat), Stand p l e R (s.setVm vm1) m args below meth c T' (locs ++ L) (cells + kc) (slots + ks) ∧ T'.heap = h' ∧ Q v h' L ∧ s.Since vm1 k1 ∧ k1 ≤ h'.size ∧ Z.Warmed39 vm1 ∧ vm1.findClass own = some m.cls ∧ CHr Z EL vm0 h vm1 h' ∧
      ∀ target, Steps p.tables e below (T'.setTop { g with pc := g.pc + 3, stack := v.toList ++ rest }) target → Steps p.tables e below (T.setTop g) target := by
  obtain ⟨cq, q1, q2⟩ := E.cell
  obtain ⟨v, vm, ⟨T', L', k', n'⟩, -, X', hS', hgr, ⟨L, hQ, l1, y1, z1, A⟩, st⟩ := X.privateBackS hx hown (mvT (s := s.setVm vm0) hZ w1) (mvT (s := s.setVm vm0) hZ w2) (mvT (s := s.setVm vm0) hZ w3) (Cond.privateMethod_at (mvP (s := s.setVm vm0) hZ w4 (args := #[]))) (mvT (s := s.setVm vm0) hZ w5) hy hK hg hsize (Steps.refl _) (by rw [eT]; exact q1) q2 hlen hstack hW hdg (fun _ _ => ⟨rfl, eT, hc, hs⟩)
  dsimp only [Pt.U, Pt.locs, Pt.cells, Pt.slots] at X' l1 y1 z1 st hQ hS' hgr A
  subst l1 y1 z1 eT
  exact ⟨v, T', _, L, T'.vm, _, X', rfl, hQ, hS.trans hS' (Nat.le_trans hk hgr), Nat.le_refl _, State.Warmed39.trans (t := s.setVm vm0) hZ hS'.1, by rw [hS'.1.alike.findClass]; exact hown, A, fun _ k => st.trans k⟩
/-- what ldc_w of a String constant comes to: its entry is settled, or its text is interned, or a String is made -/
theorem ldcw_out (X : Stand p l e R s m args below meth c T locs cells slots) (hx : p.tables.exec = Jvm.exec) (hown : s.vm.findClass own = some m.cls) (wl : (Cond.stringLink own index text).before args s = true) (wa : ∀ a ∈ Bundle.stringAtoms, a.before args s = true)
    {g : JFrame} (hg : g.method = m) (hd : decode c.code g.pc = .ok (.ldc_w index, 3)) {n : Nat} (hn : 4 * text.toList.length ≤ n) (hbig : n ≤ 536870912) (hc : cells + 2 ≤ R.cells) (hs : slots + (n + 4) ≤ R.slots) :
    ∃ (a : Addr) (T' : State), Stand p l e R (s.setVm T'.vm) m args below meth c T' locs (cells + 2) (slots + (n + 4)) ∧ s.Since T'.vm T'.heap.size ∧ Ext T.heap T'.heap ∧ T.Warmed39 T'.vm ∧ (∃ k, T'.vm.classes[m.cls]? = some k ∧ k.resolved[index]? = some (some (.string a))) ∧
      (T'.vm.interned = T.vm.interned ∨ ∃ us : Array UInt16, T'.vm.interned = T.vm.interned.push (us, a) ∧ T.vm.interned.find? (fun p => p.1 == us) = none ∧ (us.all (· < 256) = true → SlIn 0 T.heap.size T' a us)) ∧
      ∀ target, Steps p.tables e below (T'.setTop { g with pc := g.pc + 3, stack := .ref a :: g.stack }) target → Steps p.tables e below (T.setTop g) target := by
  subst hg
  obtain ⟨k, cf, i, us, hk, hcf, hci, hus, hnm, htx, hres⟩ := Cond.stringLink_spec hown wl
  obtain ⟨k', hk', ek⟩ := X.warmed.alike.2.2 _ _ hk
  have hcf' : k'.cf = some cf := by rw [ek]; exact hcf
  have names : ∀ q : Class, q.cf = some cf → q.cf.bind (namesOf? ·.constantPool index) = some (.string text) ∧ q.cf.bind (·.constantPool[index]?) = some (.string i) ∧ q.cf.bind (·.constantPool.utf8? i) = some us := fun q hq => by
    rw [hq]; exact ⟨hnm, hci, by simp [ConstantPool.utf8?, hus]⟩
  obtain ⟨nk1, nk2, nk3⟩ := names k hcf
  obtain ⟨nt1, nt2, nt3⟩ := names k' hcf'
  have state : (∃ a, k'.resolved[index]? = some (some (.string a))) ∨ (k'.resolved[index]? = some none ∧ k.resolved[index]? = some none) := by
    rcases X.warmed.wide.entry hk hk' index with q | ⟨_, r, q1, q2 | ⟨a, _, rfl, _⟩⟩
    · rcases hres with q0 | ⟨a, q0⟩
      · exact Or.inr ⟨q.trans q0, q0⟩
      · exact Or.inl ⟨a, q.trans q0⟩
    · exfalso; cases r <;> simp [State.rightAt, hk, hcf, hnm] at q2
    · exact Or.inl ⟨a, q1⟩
  rcases state with ⟨a, ha⟩ | ⟨ho, ho0⟩
  · refine ⟨a, T, (X.mono (by omega) (by omega)).retabled X.warmed.wide, X.warmed.since _, ⟨Nat.le_refl _, fun _ _ q => q⟩, State.Warmed39.refl T, ⟨k', hk', ha⟩, Or.inl rfl, fun target q => ?_⟩
    jvm_step X.here [hx, hd, ldc_w.wp_string (e := e) (s := T) (f := g) X.here.top hk' hcf' hci ha]
    exact q
  cases hfi : T.vm.interned.find? (fun p => p.1 == us) with
  | some pr =>
    obtain ⟨u2, a⟩ := pr
    obtain rfl : u2 = us := by simpa using Array.find?_some hfi
    have hW : s.Warmed39 (T.vm.noted g.method.cls index (.string a)) := X.warmed.wide.notedString hk (Or.inl ho0) nk1 nk2 nk3 hfi
    refine ⟨a, T.setVm (T.vm.noted g.method.cls index (.string a)), (X.mono (by omega) (by omega)).retabled hW, ⟨hW, State.Booked.step (T₂ := T.setVm (T.vm.noted g.method.cls index (.string a))) (X.warmed.no_new_pair _) X.same.2.1 ⟨Nat.le_refl _, Or.inl rfl⟩⟩, ⟨Nat.le_refl _, fun _ _ q => q⟩,
      (State.Warmed39.refl T).notedString hk' (Or.inl ho) nt1 nt2 nt3 hfi, ⟨_, Vm.classes_note_self index (.string a) hk', Class.resolved_note_self (.string a) ho⟩, Or.inl rfl, fun target q => ?_⟩
    jvm_step X.here [hx, hd, ldc_w.wp_string_found (e := e) (s := T) (f := g) X.here.top hk' hcf' hci hus ho hfi]
    exact q
  | none =>
    obtain ⟨Y, LY, y4, fitV, fitC⟩ := StringT.of_atoms (args := args) wa
    obtain ⟨kS, kB, LT, tyS⟩ := LY.warmer X.warmed.alike
    have hbytes : (stringBytes us).size ≤ n := Nat.le_trans (text_bytes_le htx) hn
    obtain ⟨a, ea⟩ : ∃ a, a = T.heap.size + 1 := ⟨_, rfl⟩
    obtain ⟨V, eV⟩ : ∃ V : Vm, V = { T.vm with interned := T.vm.interned.push (us, a) } := ⟨_, rfl⟩
    have hV : V.interned.find? (fun p => p.1 == us) = some (us, a) := by
      rw [eV]; show (T.vm.interned.push (us, a)).find? _ = _
      rw [Array.find?_push, hfi]; simp
    have hW : s.Warmed39 (V.noted g.method.cls index (.string a)) := by
      have q := X.warmed.wide.interns us a
      rw [← eV] at q
      exact q.notedString hk (Or.inl ho0) nk1 nk2 nk3 hV
    have hTW : T.Warmed39 (V.noted g.method.cls index (.string a)) := by
      have q := (State.Warmed39.refl T).interns us a
      rw [← eV] at q
      exact q.notedString hk' (Or.inl ho) nt1 nt2 nt3 hV
    obtain ⟨M, eM⟩ : ∃ M : State, M = withString T Y.cB Y.cS kS Y.fv Y.fc us := ⟨_, rfl⟩
    have hM : M.heap = (T.heap.push (bytesOf Y.cB us)).push (stringAt Y.cS kS Y.fv Y.fc us T.heap.size) := by rw [eM, withString_eq]; rfl
    have szM : M.heap.size = T.heap.size + 2 := by rw [hM]; simp
    have oldM : ∀ (b : Addr) (cl : Cell), T.heap[b]? = some cl → M.heap[b]? = some cl := fun b cl q => by
      have hb := (Array.getElem?_eq_some_iff.mp q).1
      rw [hM, Array.getElem?_push, if_neg (by rw [Array.size_push]; omega), Array.getElem?_push, if_neg (by omega)]; exact q
    have XM : Stand p l e R s g.method args below meth c M locs (cells + 2) (slots + (n + 4)) := by
      have q := (X.pushed (bytesOf Y.cB us)).pushed (stringAt Y.cS kS Y.fv Y.fc us T.heap.size)
      rw [← withString_eq, ← eM] at q
      have s1 : (bytesOf Y.cB us).slots.size = (stringBytes us).size := by rw [(Cell.writeAll_facts _ _).2.2]; simp [bytes0]
      have s2 : (stringAt Y.cS kS Y.fv Y.fc us T.heap.size).slots.size = 4 := by simp [string0, Cell.setSlot, tyS, y4]
      exact q.mono (by omega) (by rw [s1, s2]; omega)
    have one : T.Interned1 (M.setVm (V.noted g.method.cls index (.string a))) := ⟨by show T.heap.size ≤ M.heap.size; omega, Or.inr ⟨us, a, by show (V.noted g.method.cls index (.string a)).interned = _; rw [eV]; rfl, by omega, by show a < M.heap.size; omega⟩⟩
    refine ⟨a, M.setVm (V.noted g.method.cls index (.string a)), XM.retabled hW, ⟨hW, State.Booked.step (X.warmed.no_new_pair _) X.same.2.1 one⟩, ⟨by show T.heap.size ≤ M.heap.size; omega, oldM⟩, hTW,
      ⟨_, Vm.classes_note_self (vm := V) index (.string a) (by rw [eV]; exact hk'), Class.resolved_note_self (.string a) ho⟩, Or.inr ⟨us, by show (V.noted g.method.cls index (.string a)).interned = _; rw [eV]; rfl, hfi, fun hl => ?_⟩, fun target q => ?_⟩
    · rw [ea]
      exact made_sl wa LY y4 tyS (by rw [← ea]; exact hW.alike) (by show M.heap[T.heap.size]? = _; rw [hM, Array.getElem?_push, if_neg (by rw [Array.size_push]; omega), Array.getElem?_push, if_pos rfl]) (by show M.heap[T.heap.size + 1]? = _; rw [hM, Array.getElem?_push, if_pos (by rw [Array.size_push])]) hl (by omega) 0
    · have hfit : T.fitsSlot = s.fitsSlot := (show T.fitsSlot = (s.setVm T.vm).fitsSlot from rfl).trans (State.fitsSlot_setVm X.warmed.alike)
      refine Steps.instr (c := _) (by simpa using X.here) ?_
      simp [jvm, wpRun, exec, X.here.top, hx, hd]
      refine ldc_w.wp_string_new (e := e) (s := T) (f := g) X.here.top hk' hcf' hci hus ho hfi LT.found LT.cls LT.initialized LT.ordinary LT.foundB LT.clsB LT.kindB LT.value LT.coder (by rw [Launch.admits_arrayLengthLimit X.admits]; omega) (by rw [Launch.admits_maxHeapBytes X.admits]; simp only [componentBytes]; omega) (X.cellsAbove hc)
        (by have := X.slotsAbove hs; show T.slotsUsed + (stringBytes us).size + kS.instanceTypes.size ≤ _; rw [tyS, y4]; omega) (stringBytes_fit LT.clsB LT.kindB us) LT.valueSlot LT.coderSlot (by rw [hfit]; exact fitV _) (by rw [hfit]; exact fitC _) (fun d' acts' => ?_)
      rw [← ea, ← eV, ← eM]
      intro acts''
      have top1 : M.topJava?.isSome := by rw [eM]; simpa [withString] using X.here.top
      have top2 : (M.setVm (V.noted g.method.cls index (.string a))).topJava?.isSome := by simpa using top1
      simp [jvm, afterInstr, top1, top2]
      rw [State.modifyTopJava_setTop]
      exact q
/-- a booked String of a Latin-1 text, read -/
theorem sl_read {q : SQ} {us : Array UInt16} (F : SlB (Wst Z vm1 h) q us) (hal : Z.vm.Alike vm1) (htx : utf16ToString? us = some text) {vs : List Value} {z : Int32} (ht : (∀ c ∈ text.toList, c.toNat < 256) ∧ text.toList.map (fun c => Value.int (Jvm.Lit.byteI c.toNat.toUInt16)) = vs) (hz : ¬ z < 0) (hl : z.toNatClampNeg = vs.length) :
    Exa Z h q.sa "java/lang/String" ∧ Fld Z h q.sa "java/lang/String" "coder" "B" (.int 0) ∧ Fld Z h q.sa "java/lang/String" "value" "[B" (.ref q.sd) ∧ Arv Z h q.sd q.SA.cls .byte z vs (.int 0) := by
  obtain ⟨cS, ⟨L, fS, eS⟩, ⟨kS, c1, -, c3⟩, -, eb⟩ := F
  have back : (Wst Z vm1 h).vm.Alike Z.vm := hal.symm
  obtain ⟨s1, s2, s3, sV, sC, s6, s7, s8, s9, s10, s11, s12, -, -, -, s16⟩ := L
  obtain ⟨cv, kv, iv, v1, v2⟩ := Jvm.Free.SBG.found_asg (U' := Z) back sV
  obtain ⟨cc, kc, ic, w1, w2⟩ := Jvm.Free.SBG.found_asg (U' := Z) back sC
  have fZ : Z.vm.findClass "java/lang/String" = some q.sC.cls := by rw [back.findClass, eS]; exact fS
  obtain ⟨kz, z1, ez⟩ := back.2.2 _ _ (show (Wst Z vm1 h).vm.classes[q.sC.cls]? = some kS by rw [eS]; exact c1)
  have ev : vs = us.toList.map (fun u => Value.int (Jvm.Lit.byteI u)) := by rw [← ht.2, Jvm.ClassFile.units_of_text htx ht.1, List.map_map]; rfl
  have es : q.SA.slots = us.map (fun u => Value.int (Jvm.Lit.byteI u)) := by rw [eb, SBG.stringBytes_lat (Jvm.ClassFile.lat_of_text htx ht.1)]; rfl
  have sz : q.SA.slots.size = vs.length := by rw [es, ev]; simp
  have has : Has q.SA vs (.int 0) := fun j hj => by
    rw [sz, ev] at hj
    rw [es, ev]; simp at hj; simp [hj]
  refine ⟨⟨q.sC, kz, s1, fZ, z1, s3, fun _ => by rw [ez]; exact c3⟩, ⟨q.sC, cc, kc, ic, q.fSC, s1, w1, s7, s2, s3, w2, s9⟩, ⟨q.sC, cv, kv, iv, q.fSV, s1, v1, s6, s2, s3, v2, s8⟩,
    q.SA, ⟨s10, State.isArrayOf_alike back s11, s12⟩, rfl, by rw [sz, hl], hz, has, fun j hj => ?_⟩
  have r := s16 j hj
  rw [SBG.getD_of (has j hj)] at r
  exact r
theorem atoms_at (hZ : Z.Warmed39 s.vm) (wS : ∀ a ∈ Bundle.stringAtoms, a.before a0 Z = true) : ∀ a ∈ Bundle.stringAtoms, a.before args s = true := fun d hd => by
  have q := wS d hd
  simp only [Bundle.stringAtoms, List.mem_cons, List.not_mem_nil, or_false] at hd
  rcases hd with rfl | rfl | rfl | rfl | rfl | rfl | rfl
  case inr.inr.inl => exact mvA hZ q
  all_goals exact mv hZ q
/-- ldc_w of a String constant, its text read -/
theorem ldcWCH (X : Stand p l e R (s.setVm vm0) m args below meth c T locs cells slots) (hx : p.tables.exec = Jvm.exec) (hZ : Z.Warmed39 vm0) (hown : vm0.findClass own = some m.cls) (w : (Cond.stringLink own index text).before a0 Z = true) (wS : ∀ a ∈ Bundle.stringAtoms, a.before a0 Z = true)
    (eT : T.heap = h) {k0 : Nat} (hS : s.Since vm0 k0) (hk : k0 ≤ h.size) (hEL : EW Z a0 EL) (hmem : (own, index) ∈ EL) (H : CHv Z EL vm0 h)
    {vs : List Value} {z : Int32} (ht : (∀ c ∈ text.toList, c.toNat < 256) ∧ text.toList.map (fun c => Value.int (Jvm.Lit.byteI c.toNat.toUInt16)) = vs) (hz : ¬ z < 0) (hl : z.toNatClampNeg = vs.length)
    {g : JFrame} (hg : g.method = m) (hd : decode c.code g.pc = .ok (.ldc_w index, 3)) {n : Nat} (hn : 4 * text.toList.length ≤ n) (hbig : n ≤ 536870912) (hc : cells + 2 ≤ R.cells) (hl' : slots + (n + 4) ≤ R.slots) :
    ∃ (a : Addr) (T' : State) (h' : Heap) (k1 : Nat) (b : Addr) (k : ClassId), Stand p l e R (s.setVm T'.vm) m args below meth c T' locs (cells + 2) (slots + (n + 4)) ∧ T'.heap = h' ∧ Ext h h' ∧ s.Since T'.vm k1 ∧ k1 ≤ h'.size ∧ Z.Warmed39 (s.setVm T'.vm).vm ∧ (s.setVm T'.vm).vm.findClass own = some m.cls ∧
      Exa Z h' a "java/lang/String" ∧ Fld Z h' a "java/lang/String" "coder" "B" (.int 0) ∧ Fld Z h' a "java/lang/String" "value" "[B" (.ref b) ∧ Arv Z h' b k .byte z vs (.int 0) ∧ a < h'.size ∧ b < h'.size ∧ CHr Z EL vm0 h T'.vm h' ∧ True ∧ (∀ x, Safe Z EL T'.vm h' x → x ≠ a ∧ x ≠ b) ∧
      ∀ target, Steps p.tables e below (T'.setTop { g with pc := g.pc + 3, stack := .ref a :: g.stack }) target → Steps p.tables e below (T.setTop g) target := by
  obtain ⟨a, T', X', hS', E, hTW, ⟨k2, hk2, hr2⟩, hint, st⟩ := ldcw_out X hx hown (mvS hZ w) (atoms_at (s := s.setVm vm0) hZ wS) hg hd hn hbig hc hl'
  subst eT
  have A := CHv.at X hZ hEL H
  have B := CHv.later (vm := T.vm) (vm1 := T'.vm) (wtrans (s := s.setVm vm0) hZ X.warmed) (show (Wst Z T.vm T.heap).Warmed39 T'.vm from hTW) hEL E (hint.imp id fun ⟨us, q1, q2, q3⟩ => ⟨us, a, q1, q2, fun hl => by
    obtain ⟨q, cS, hq, r1, r2, r3, r4, r5⟩ := q3 hl
    have F : SlB T' q us := ⟨cS, r1, r2, r3, r4⟩
    exact ⟨q, hq, F.carry (V := Wst Z T'.vm T'.heap) (Vm.Alike.refl _) F.ha F.hd, r5.resolve_left (fun z => absurd z.1 (Nat.not_lt_zero _))⟩⟩) A.1
  have C : CHr Z EL vm0 T.heap T'.vm T'.heap := A.trans ⟨B.1, E.1, B.2⟩
  have hW : Z.Warmed39 T'.vm := State.Warmed39.trans (t := s.setVm vm0) hZ hS'.1
  have hf : T'.vm.findClass own = some m.cls := by rw [hS'.1.alike.findClass]; exact hown
  obtain ⟨k1, cf, i, us, q1, q2, q3, q4, -, htx, -⟩ := Cond.stringLink_spec (args := a0) (s := Wst Z T'.vm T'.heap) hf (mvS (s := { Z with heap := T'.heap }) hW w)
  have hB : Booksv T'.vm own index us a := ⟨m.cls, k1, cf, i, hf, q1, q2, q3, q4, Or.inl (by cases Option.some.inj (hk2.symm.trans q1); exact hr2)⟩
  obtain ⟨q, rfl, F⟩ := SlB.of (C.1 _ hmem us a hB)
  obtain ⟨r1, r2, r3, r4⟩ := sl_read F hW.alike htx ht hz hl
  exact ⟨q.sa, T', _, _, q.sd, q.SA.cls, X', rfl, E, hS.trans hS' (Nat.le_trans hk E.1), Nat.le_refl _, hW, hf, r1, r2, r3, r4, (Array.getElem?_eq_some_iff.mp F.ha).1, (Array.getElem?_eq_some_iff.mp F.hd).1, C, trivial,
    fun x S => ⟨fun e1 => S ⟨_, hmem, us, _, hB, q, rfl, F, Or.inl e1⟩, fun e1 => S ⟨_, hmem, us, _, hB, q, rfl, F, Or.inr e1⟩⟩, st⟩
end OwnW
end Jvm.RoadKit
/- laws to paste: Road.backV, Road.eqW (cut by pick.py; bodies as the Statement names them) -/
namespace Jvm.Pilot.@@N@@
namespace StrChars
open Jvm Sem ClassFile Op Lib Jvm.Stand Jvm.Free.XT Jvm.Free.ALB Jvm.Free.JM Jvm.Free
open Jvm.Lib.Cold (StaticIs)
/-- a char array whose places are chars -/
def Ch (a : Addr) (A : Cell) (U : State) : Prop := Arr .char a A U ∧ Typed .char A
theorem Ch.mv {a : Addr} {A : Cell} {U U' : State} (h : Ch a A U) (hal : U.vm.Alike U'.vm) (hh : U'.heap = U.heap) : Ch a A U' := ⟨h.1.mv hal hh, h.2⟩
theorem Ch.keep {a : Addr} {A : Cell} {U U' : State} (h : Ch a A U) (hal : U.vm.Alike U'.vm) (hk : U'.heap[a]? = some A) : Ch a A U' := ⟨h.1.keep hal hk, h.2⟩
/-- what place i of a char[]'s cell holds -/
def cv (A : Cell) (i : Nat) : Int32 := match A.slots[i]? with | some (.int x) => x | _ => 0
theorem Ch.get {a : Addr} {A : Cell} {U : State} (h : Ch a A U) {i : Nat} (hi : i < A.slots.size) : A.slots[i]? = some (.int (cv A i)) := by
  have e := Array.getElem?_eq_getElem hi
  have f := h.2 i _ e
  unfold cv; rw [e]
  generalize A.slots[i] = v at f
  cases v <;> simp [fits] at f ⊢
/-- the byte that i2b leaves of a char -/
def lo8 (x : Int32) : Int32 := x.toInt8.toInt32
theorem fits_lo8 (y : Int32) : fits .byte (.int (lo8 y)) = true := by
  have h1 := y.toInt8.le_toInt
  have h2 := y.toInt8.toInt_lt
  simp only [lo8, fits, Bool.and_eq_true, decide_eq_true_eq, Int32.le_iff_toInt_le, Int8.toInt_toInt32, show (-128 : Int32).toInt = -128 from by decide, show (127 : Int32).toInt = 127 from by decide]
  omega
/-- A' is A but that each place j of lo .. hi - 1 holds f j -/
def Laid (A A' : Cell) (lo hi : Nat) (f : Nat → Value) : Prop := A'.cls = A.cls ∧ A'.vm = A.vm ∧ A'.slots.size = A.slots.size ∧ ∀ i, A'.slots[i]? = if lo ≤ i ∧ i < hi then some (f i) else A.slots[i]?
theorem Laid.zero (A : Cell) (lo : Nat) (f : Nat → Value) : Laid A A lo (lo + 0) f := ⟨rfl, rfl, rfl, fun i => by rw [if_neg (by omega)]⟩
theorem Laid.step {A Ak : Cell} {lo k : Nat} {f : Nat → Value} {v : Value} (h : Laid A Ak lo k f) (hlo : lo ≤ k) (hk : k < Ak.slots.size) (hv : v = f k) : Laid A (Ak.setSlot k v) lo (k + 1) f := by
  refine ⟨h.1, h.2.1, by simpa [Cell.setSlot] using h.2.2.1, fun i => ?_⟩
  by_cases e : k = i
  · subst e; rw [Cell.slots_setSlot_self v hk, if_pos (by omega), hv]
  · rw [Cell.slots_setSlot_ne v e, h.2.2.2 i]
    by_cases q : lo ≤ i ∧ i < k
    · rw [if_pos q, if_pos (by omega)]
    · rw [if_neg q, if_neg (by omega)]
def U16 : String := "java/lang/StringUTF16"
namespace Cmp5
def yN : MethodName := ⟨"java/lang/StringUTF16", "compress", "([CI[BII)I"⟩
abbrev yB : ByteArray := jdk_52_method_21_code
theorem d0 : decode yB 0 = .ok (.iconst 0, 1) := by decide +kernel
theorem d1 : decode yB 1 = .ok (.istore 5, 2) := by decide +kernel
theorem d3 : decode yB 3 = .ok (.iload 5, 2) := by decide +kernel
theorem d5 : decode yB 5 = .ok (.iload 4, 2) := by decide +kernel
theorem d7 : decode yB 7 = .ok (.if_icmp (.ge) 37, 3) := by decide +kernel
theorem d10 : decode yB 10 = .ok (.aload_n 0, 1) := by decide +kernel
theorem d11 : decode yB 11 = .ok (.iload_n 1, 1) := by decide +kernel
theorem d12 : decode yB 12 = .ok (.caload, 1) := by decide +kernel
theorem d13 : decode yB 13 = .ok (.istore 6, 2) := by decide +kernel
theorem d15 : decode yB 15 = .ok (.iload 6, 2) := by decide +kernel
theorem d17 : decode yB 17 = .ok (.sipush 255, 3) := by decide +kernel
theorem d20 : decode yB 20 = .ok (.if_icmp (.le) 6, 3) := by decide +kernel
theorem d26 : decode yB 26 = .ok (.aload_n 2, 1) := by decide +kernel
theorem d27 : decode yB 27 = .ok (.iload_n 3, 1) := by decide +kernel
theorem d28 : decode yB 28 = .ok (.iload 6, 2) := by decide +kernel
theorem d30 : decode yB 30 = .ok (.i2b, 1) := by decide +kernel
theorem d31 : decode yB 31 = .ok (.bastore, 1) := by decide +kernel
theorem d32 : decode yB 32 = .ok (.iinc 1 1, 3) := by decide +kernel
theorem d35 : decode yB 35 = .ok (.iinc 3 1, 3) := by decide +kernel
theorem d38 : decode yB 38 = .ok (.iinc 5 1, 3) := by decide +kernel
theorem d41 : decode yB 41 = .ok (.goto (-38), 3) := by decide +kernel
theorem d44 : decode yB 44 = .ok (.iload 4, 2) := by decide +kernel
theorem d46 : decode yB 46 = .ok (.ireturn, 1) := by decide +kernel
def site : List Cond := []
def tab : Cond := tabOf yN yB 7 (some .int) site
def P (b : Addr) (A : Cell) (d : Addr) (B : Cell) (o q len : Nat) (args : Array Value) (s : State) : Prop := args = #[.ref b, .int (Int32.ofNat o), .ref d, .int (Int32.ofNat q), .int (Int32.ofNat len)] ∧ Ch b A s ∧ Arr .byte d B s ∧ b ≠ d ∧ o + len ≤ A.slots.size ∧ q + len ≤ B.slots.size ∧ ∀ i, i < len → ¬ 255 < cv A (o + i)
def E (b : Addr) (A : Cell) (d : Addr) (B : Cell) (o q len : Nat) (r : Option Value) (s u : State) : Prop := r = some (.int (Int32.ofNat len)) ∧ ∃ B', Put d B' s u ∧ Laid B B' q (q + len) (fun j => Value.int (lo8 (cv A (o + (j - q)))))
/-- no char of the range above 255: len; the places written hold each char's low byte -/
theorem law (l : Launch) (b : Addr) (A : Cell) (d : Addr) (B : Cell) (o q len : Nat) : Law l yN 5 5 0 0 yB 7 (some .int) site (P b A d B o q len) (E b A d B o q len) (copyLocs d q len) 0 0 := by
  refine Law.of_walk (plainFor_of_name (by decide +kernel)) (by decide +kernel) (by decide +kernel) (by decide) (fun _ _ h => by rw [h.1]; rfl) (fun _ U U' hal hh h => ⟨h.1, h.2.1.mv hal hh, h.2.2.1.mv hal hh, h.2.2.2⟩) (fun r U U' V V' h1 hal h2 h => ⟨h.1, h.2.elim fun B' q => ⟨B', q.1.mv h1 h2, q.2⟩⟩) ?_
  intro p e s m args below meth c s₁ X0 hexec hbytes hml hret hlk hnm hown hh0 W hP
  obtain ⟨rfl, hA, hB, hne, l1, l2, hp⟩ := hP
  have c1 : Steps p.tables e below (s₁.setTop (entryFrame m #[.ref b, .int (Int32.ofNat o), .ref d, .int (Int32.ofNat q), .int (Int32.ofNat len)] 7)) (s₁.setTop (mkF m 0 #[.val (.ref b), .val (.int (Int32.ofNat o)), .val (.ref d), .val (.int (Int32.ofNat q)), .val (.int (Int32.ofNat len)), .unset, .unset] [])) := entry rfl
  have hA0 := hA.1.mv X0.warmed.alike hh0
  have hB0 := hB.mv X0.warmed.alike hh0
  have a31 := hA.1.2.2.2
  have c2 : Steps p.tables e below (s₁.setTop (entryFrame m #[.ref b, .int (Int32.ofNat o), .ref d, .int (Int32.ofNat q), .int (Int32.ofNat len)] 7)) (s₁.setTop (mkF m 3 #[.val (.ref b), .val (.int (Int32.ofNat o)), .val (.ref d), .val (.int (Int32.ofNat q)), .val (.int (Int32.ofNat len)), .val (.int 0), .unset] [])) := c1.trans (by
    refine iconstV X0.here hexec rfl 0 (hb hbytes d0) (by decide) ?_
    refine XS.istore X0.here hexec rfl (hb hbytes d1) rfl rfl ?_
    exact Steps.refl _)
  have loop : ∀ (r i : Nat), i + r = len → ∀ (z : Slot), (z = .unset ∨ ∃ w, z = .val w ∧ w.category = 1) → ∀ (Tl : State) (Bk : Cell), Stand p l e { frames := 0, locals := 0, cells := 0, slots := 0 } s m #[.ref b, .int (Int32.ofNat o), .ref d, .int (Int32.ofNat q), .int (Int32.ofNat len)] below meth c Tl ([] ++ copyLocs d q i) 0 0 → Put d Bk s₁ Tl → Laid B Bk q (q + i) (fun j => Value.int (lo8 (cv A (o + (j - q))))) →
      Steps p.tables e below (s₁.setTop (entryFrame m #[.ref b, .int (Int32.ofNat o), .ref d, .int (Int32.ofNat q), .int (Int32.ofNat len)] 7)) (Tl.setTop (mkF m 3 #[.val (.ref b), .val (.int (Int32.ofNat (o + i))), .val (.ref d), .val (.int (Int32.ofNat (q + i))), .val (.int (Int32.ofNat len)), .val (.int (Int32.ofNat i)), z] [])) → ∃ (T' : State) (B' : Cell) (z' : Slot), Stand p l e { frames := 0, locals := 0, cells := 0, slots := 0 } s m #[.ref b, .int (Int32.ofNat o), .ref d, .int (Int32.ofNat q), .int (Int32.ofNat len)] below meth c T' ([] ++ copyLocs d q len) 0 0 ∧ Put d B' s₁ T' ∧ Laid B B' q (q + len) (fun j => Value.int (lo8 (cv A (o + (j - q))))) ∧
      Steps p.tables e below (s₁.setTop (entryFrame m #[.ref b, .int (Int32.ofNat o), .ref d, .int (Int32.ofNat q), .int (Int32.ofNat len)] 7)) (T'.setTop (mkF m 3 #[.val (.ref b), .val (.int (Int32.ofNat (o + len))), .val (.ref d), .val (.int (Int32.ofNat (q + len))), .val (.int (Int32.ofNat len)), .val (.int (Int32.ofNat len)), z'] [])) := by
    intro r
    induction r with
    | zero =>
      intro i hi z hz Tl Bk Xl pl fl cl
      have hil : i = len := by omega
      rw [hil] at Xl fl cl
      exact ⟨Tl, Bk, z, Xl, pl, fl, cl⟩
    | succ r ih =>
      intro i hi z hz Tl Bk Xl pl fl cl
      have all := X0.warmed.alike.symm.trans Xl.warmed.alike
      have hAl := hA0.keep all (pl.other hne hA0.1)
      have hBk := hB0.like all pl.1 fl.1 fl.2.1 fl.2.2.1
      have hlt : q + i < Bk.slots.size := by rw [fl.2.2.1]; omega
      have c3 : Steps p.tables e below (s₁.setTop (entryFrame m #[.ref b, .int (Int32.ofNat o), .ref d, .int (Int32.ofNat q), .int (Int32.ofNat len)] 7)) (Tl.setTop (mkF m 12 #[.val (.ref b), .val (.int (Int32.ofNat (o + i))), .val (.ref d), .val (.int (Int32.ofNat (q + i))), .val (.int (Int32.ofNat len)), .val (.int (Int32.ofNat i)), z] [.int (Int32.ofNat (o + i)), .ref b])) := cl.trans (by
        refine XS.iload Xl.here hexec rfl (hb hbytes d3) rfl ?_
        refine XS.iload Xl.here hexec rfl (hb hbytes d5) rfl ?_
        refine XS.icmpNo Xl.here hexec rfl (hb hbytes d7) rfl (ii_ge_f (lt32 (by omega) (by omega))) ?_
        refine XS.aloadN Xl.here hexec rfl (hb hbytes d10) rfl rfl ?_
        refine XS.iloadN Xl.here hexec rfl (hb hbytes d11) rfl ?_
        exact Steps.refl _)
      have c4 : Steps p.tables e below (s₁.setTop (entryFrame m #[.ref b, .int (Int32.ofNat o), .ref d, .int (Int32.ofNat q), .int (Int32.ofNat len)] 7)) (Tl.setTop (mkF m 13 #[.val (.ref b), .val (.int (Int32.ofNat (o + i))), .val (.ref d), .val (.int (Int32.ofNat (q + i))), .val (.int (Int32.ofNat len)), .val (.int (Int32.ofNat i)), z] [.int (cv A (o + i))])) := c3.trans (by
        refine Xl.aget hexec hAl rfl (hA.get (i := o + i) (by omega)) rfl rfl (hb hbytes d12) ?_
        exact Steps.refl _)
      have c5 : Steps p.tables e below (s₁.setTop (entryFrame m #[.ref b, .int (Int32.ofNat o), .ref d, .int (Int32.ofNat q), .int (Int32.ofNat len)] 7)) (Tl.setTop (mkF m 15 #[.val (.ref b), .val (.int (Int32.ofNat (o + i))), .val (.ref d), .val (.int (Int32.ofNat (q + i))), .val (.int (Int32.ofNat len)), .val (.int (Int32.ofNat i)), .val (.int (cv A (o + i)))] [])) := c4.trans (by
        refine XS.istoreS Xl.here hexec rfl (hb hbytes d13) rfl rfl hz ?_
        exact Steps.refl _)
      have c6 : Steps p.tables e below (s₁.setTop (entryFrame m #[.ref b, .int (Int32.ofNat o), .ref d, .int (Int32.ofNat q), .int (Int32.ofNat len)] 7)) (Tl.setTop (mkF m 31 #[.val (.ref b), .val (.int (Int32.ofNat (o + i))), .val (.ref d), .val (.int (Int32.ofNat (q + i))), .val (.int (Int32.ofNat len)), .val (.int (Int32.ofNat i)), .val (.int (cv A (o + i)))] [.int (lo8 (cv A (o + i))), .int (Int32.ofNat (q + i)), .ref d])) := c5.trans (by
        refine XS.iload Xl.here hexec rfl (hb hbytes d15) rfl ?_
        refine sipushV Xl.here hexec rfl 255 (hb hbytes d17) (by decide) ?_
        refine XS.icmpYes Xl.here hexec rfl (pc0 := 20) rfl (hb hbytes d20) rfl (ii_le_t (hp i (by omega))) (by decide) rfl ?_
        refine XS.aloadN Xl.here hexec rfl (hb hbytes d26) rfl rfl ?_
        refine XS.iloadN Xl.here hexec rfl (hb hbytes d27) rfl ?_
        refine XS.iload Xl.here hexec rfl (hb hbytes d28) rfl ?_
        refine i2b Xl.here hexec rfl (hb hbytes d30) rfl ?_
        exact Steps.refl _)
      obtain ⟨T7, X7, p7, st7⟩ := Xl.aput hexec hBk rfl hlt rfl (fits_lo8 (cv A (o + i))) (g := (mkF m 31 #[.val (.ref b), .val (.int (Int32.ofNat (o + i))), .val (.ref d), .val (.int (Int32.ofNat (q + i))), .val (.int (Int32.ofNat len)), .val (.int (Int32.ofNat i)), .val (.int (cv A (o + i)))] [.int (lo8 (cv A (o + i))), .int (Int32.ofNat (q + i)), .ref d])) rfl (rest := []) rfl (hb hbytes d31)
      have c8 : Steps p.tables e below (s₁.setTop (entryFrame m #[.ref b, .int (Int32.ofNat o), .ref d, .int (Int32.ofNat q), .int (Int32.ofNat len)] 7)) (T7.setTop (mkF m 32 #[.val (.ref b), .val (.int (Int32.ofNat (o + i))), .val (.ref d), .val (.int (Int32.ofNat (q + i))), .val (.int (Int32.ofNat len)), .val (.int (Int32.ofNat i)), .val (.int (cv A (o + i)))] [])) := c6.trans (st7 _ (Steps.refl _))
      have c9 : Steps p.tables e below (s₁.setTop (entryFrame m #[.ref b, .int (Int32.ofNat o), .ref d, .int (Int32.ofNat q), .int (Int32.ofNat len)] 7)) (T7.setTop (mkF m 3 #[.val (.ref b), .val (.int (Int32.ofNat (o + i) + 1)), .val (.ref d), .val (.int (Int32.ofNat (q + i) + 1)), .val (.int (Int32.ofNat len)), .val (.int (Int32.ofNat i + 1)), .val (.int (cv A (o + i)))] [])) := c8.trans (by
        refine iincV X7.here hexec rfl 1 (hb hbytes d32) (by decide) rfl rfl ?_
        refine iincV X7.here hexec rfl 1 (hb hbytes d35) (by decide) rfl rfl ?_
        refine iincV X7.here hexec rfl 1 (hb hbytes d38) (by decide) rfl rfl ?_
        refine XS.goto X7.here hexec rfl (pc0 := 41) rfl (hb hbytes d41) (by decide) rfl ?_
        exact Steps.refl _)
      have c10 : Steps p.tables e below (s₁.setTop (entryFrame m #[.ref b, .int (Int32.ofNat o), .ref d, .int (Int32.ofNat q), .int (Int32.ofNat len)] 7)) (T7.setTop (mkF m 3 #[.val (.ref b), .val (.int (Int32.ofNat (o + (i + 1)))), .val (.ref d), .val (.int (Int32.ofNat (q + (i + 1)))), .val (.int (Int32.ofNat len)), .val (.int (Int32.ofNat (i + 1))), .val (.int (cv A (o + i)))] [])) := by
        have := c9
        rw [succ32, succ32, succ32] at this
        exact this
      exact ih (i + 1) (by omega) _ (Or.inr ⟨_, rfl, rfl⟩) T7 _ (by rw [copyLocs_step, ← List.append_assoc]; exact X7) (pl.trans p7) (fl.step (by omega) hlt (by simp)) c10
  obtain ⟨T9, B9, z9, X9, p9, f9, g9⟩ := loop len 0 (by omega) .unset (Or.inl rfl) s₁ B (by simpa [copyLocs] using X0) ⟨hB0.1, fun _ _ => rfl, rfl⟩ (Laid.zero _ _ _) c2
  have c11 : Steps p.tables e below (s₁.setTop (entryFrame m #[.ref b, .int (Int32.ofNat o), .ref d, .int (Int32.ofNat q), .int (Int32.ofNat len)] 7)) (T9.setTop (mkF m 46 #[.val (.ref b), .val (.int (Int32.ofNat (o + len))), .val (.ref d), .val (.int (Int32.ofNat (q + len))), .val (.int (Int32.ofNat len)), .val (.int (Int32.ofNat len)), z9] [.int (Int32.ofNat len)])) := g9.trans (by
    refine XS.iload X9.here hexec rfl (hb hbytes d3) rfl ?_
    refine XS.iload X9.here hexec rfl (hb hbytes d5) rfl ?_
    refine XS.icmpYes X9.here hexec rfl (pc0 := 7) rfl (hb hbytes d7) rfl (ii_ge_t (nlt32 (by omega) (Nat.le_refl _))) (by decide) rfl ?_
    refine XS.iload X9.here hexec rfl (hb hbytes d44) rfl ?_
    exact Steps.refl _)
  exact ⟨T9, some (.int (Int32.ofNat len)), _, _, _, X9, by simp, rfl, rfl, (fun h => by cases h), ⟨rfl, B9, p9.from hh0, f9⟩, fun fs hl => c11.trans (X9.ireturnOut hexec hret rfl (Or.inl rfl) (hb hbytes d46) hl)⟩
end Cmp5
namespace Cmp3
def yN : MethodName := ⟨"java/lang/StringUTF16", "compress", "([CII)[B"⟩
abbrev yB : ByteArray := jdk_52_method_16_code
theorem d0 : decode yB 0 = .ok (.iload_n 2, 1) := by decide +kernel
theorem d1 : decode yB 1 = .ok (.newarray .byte, 2) := by decide +kernel
theorem d3 : decode yB 3 = .ok (.astore_n 3, 1) := by decide +kernel
theorem d4 : decode yB 4 = .ok (.aload_n 0, 1) := by decide +kernel
theorem d5 : decode yB 5 = .ok (.iload_n 1, 1) := by decide +kernel
theorem d6 : decode yB 6 = .ok (.aload_n 3, 1) := by decide +kernel
theorem d7 : decode yB 7 = .ok (.iconst 0, 1) := by decide +kernel
theorem d8 : decode yB 8 = .ok (.iload_n 2, 1) := by decide +kernel
theorem d9 : decode yB 9 = .ok (.invokestatic 115, 3) := by decide +kernel
theorem d12 : decode yB 12 = .ok (.istore 4, 2) := by decide +kernel
theorem d14 : decode yB 14 = .ok (.iload 4, 2) := by decide +kernel
theorem d16 : decode yB 16 = .ok (.iload_n 2, 1) := by decide +kernel
theorem d17 : decode yB 17 = .ok (.if_icmp (.eq) 40, 3) := by decide +kernel
theorem d57 : decode yB 57 = .ok (.aload_n 3, 1) := by decide +kernel
theorem d58 : decode yB 58 = .ok (.areturn, 1) := by decide +kernel
def site : List Cond := [.arrayClass .byte, Cmp5.tab] ++ staticW U16 115 Cmp5.yN
def tab : Cond := tabOf yN yB 6 (some (.array .byte)) site
def P (b : Addr) (A : Cell) (o len : Nat) (args : Array Value) (s : State) : Prop := args = #[.ref b, .int (Int32.ofNat o), .int (Int32.ofNat len)] ∧ Ch b A s ∧ o + len ≤ A.slots.size ∧ len ≤ 536870912 ∧ ∀ i, i < len → ¬ 255 < cv A (o + i)
def E (b : Addr) (A : Cell) (o len : Nat) (r : Option Value) (s u : State) : Prop := NewArr .byte "[B" len (fun j => .int (lo8 (cv A (o + j)))) r s u ∧ u.heap.size = s.heap.size + 1
/-- no char of the range above 255: a new byte[] of their low bytes -/
theorem law (l : Launch) (b : Addr) (A : Cell) (o len : Nat) : Law l yN 3 3 1 18 yB 6 (some (.array .byte)) site (P b A o len) (E b A o len) [] 1 len := by
  refine Law.of_walk (plainFor_of_name (by decide +kernel)) (by decide +kernel) (by decide +kernel) (by decide) (fun _ _ h => by rw [h.1]; rfl) (fun _ U U' hal hh h => ⟨h.1, h.2.1.mv hal hh, h.2.2⟩) (fun r U U' V V' h1 hal h2 h => ⟨NewArr.mv r U U' V V' h1 hal h2 h.1, by rw [h1, h2]; exact h.2⟩) ?_
  intro p e s m args below meth c s₁ X0 hexec hbytes hml hret hlk hnm hown hh0 W hP
  obtain ⟨rfl, hA, l1, l2, hp⟩ := hP
  have a31 := hA.1.2.2.2
  have c1 : Steps p.tables e below (s₁.setTop (entryFrame m #[.ref b, .int (Int32.ofNat o), .int (Int32.ofNat len)] 6)) (s₁.setTop (mkF m 0 #[.val (.ref b), .val (.int (Int32.ofNat o)), .val (.int (Int32.ofNat len)), .unset, .unset, .unset] [])) := entry rfl
  have c2 : Steps p.tables e below (s₁.setTop (entryFrame m #[.ref b, .int (Int32.ofNat o), .int (Int32.ofNat len)] 6)) (s₁.setTop (mkF m 1 #[.val (.ref b), .val (.int (Int32.ofNat o)), .val (.int (Int32.ofNat len)), .unset, .unset, .unset] [.int (Int32.ofNat len)])) := c1.trans (by
    refine XS.iloadN X0.here hexec rfl (hb hbytes d0) rfl ?_
    exact Steps.refl _)
  obtain ⟨T3, B3, X3, ba3, bs3, bv3, bh3, bf3, st3⟩ := X0.anew hexec (atype := .byte) (wk W (.arrayClass .byte)) rfl (by show len * 1 ≤ _; omega) (by omega) (g := (mkF m 1 #[.val (.ref b), .val (.int (Int32.ofNat o)), .val (.int (Int32.ofNat len)), .unset, .unset, .unset] [.int (Int32.ofNat len)])) rfl (hb hbytes d1) (rest := []) rfl (Nat.le_refl _) (by show 0 + len ≤ len; omega)
  rw [hh0] at ba3 st3
  have kp3 : XT.Kept s T3 := (XT.Kept.of_eq hh0).push bh3
  have hA3 := hA.keep X3.warmed.alike (kp3 _ _ hA.1.1)
  have hne : b ≠ s.heap.size := hA.1.ne
  have c4 : Steps p.tables e below (s₁.setTop (entryFrame m #[.ref b, .int (Int32.ofNat o), .int (Int32.ofNat len)] 6)) (T3.setTop (mkF m 3 #[.val (.ref b), .val (.int (Int32.ofNat o)), .val (.int (Int32.ofNat len)), .unset, .unset, .unset] [.ref s.heap.size])) := c2.trans (st3 _ (Steps.refl _))
  have c5 : Steps p.tables e below (s₁.setTop (entryFrame m #[.ref b, .int (Int32.ofNat o), .int (Int32.ofNat len)] 6)) (T3.setTop (mkF m 9 #[.val (.ref b), .val (.int (Int32.ofNat o)), .val (.int (Int32.ofNat len)), .val (.ref s.heap.size), .unset, .unset] [.int (Int32.ofNat len), .int 0, .ref s.heap.size, .int (Int32.ofNat o), .ref b])) := c4.trans (by
    refine XS.astoreN X3.here hexec rfl (hb hbytes d3) rfl rfl rfl ?_
    refine XS.aloadN X3.here hexec rfl (hb hbytes d4) rfl rfl ?_
    refine XS.iloadN X3.here hexec rfl (hb hbytes d5) rfl ?_
    refine XS.aloadN X3.here hexec rfl (hb hbytes d6) rfl rfl ?_
    refine iconstV X3.here hexec rfl 0 (hb hbytes d7) (by decide) ?_
    refine XS.iloadN X3.here hexec rfl (hb hbytes d8) rfl ?_
    exact Steps.refl _)
  obtain ⟨v6, T6, X6, E6, g6⟩ := X3.callS hexec (Cmp5.law l b A s.heap.size B3 o 0 len) hown (wks W (staticW U16 115 Cmp5.yN)) (wk W Cmp5.tab) (W := 0) (Nat.le_of_ble_eq_true rfl) (Nat.le_of_ble_eq_true rfl) (Nat.le_refl _) (by show 0 + len + 0 ≤ len; omega) (g := (mkF m 9 #[.val (.ref b), .val (.int (Int32.ofNat o)), .val (.int (Int32.ofNat len)), .val (.ref s.heap.size), .unset, .unset] [.int (Int32.ofNat len), .int (Int32.ofNat 0), .ref s.heap.size, .int (Int32.ofNat o), .ref b])) rfl (by rw [hml]; rfl) c5 (argsL := [.ref b, .int (Int32.ofNat o), .ref s.heap.size, .int (Int32.ofNat 0), .int (Int32.ofNat len)]) (rest := []) rfl rfl (by show 2 * 0 + 0 ≤ _; decide) (hb hbytes d9) (⟨rfl, hA3, ba3, hne, l1, by rw [bs3]; simp, hp⟩)
  obtain ⟨rfl, B6, p6, f6⟩ := E6
  have c7 : Steps p.tables e below (s₁.setTop (entryFrame m #[.ref b, .int (Int32.ofNat o), .int (Int32.ofNat len)] 6)) (T6.setTop (mkF m 12 #[.val (.ref b), .val (.int (Int32.ofNat o)), .val (.int (Int32.ofNat len)), .val (.ref s.heap.size), .unset, .unset] [.int (Int32.ofNat len)])) := g6
  have c8 : Steps p.tables e below (s₁.setTop (entryFrame m #[.ref b, .int (Int32.ofNat o), .int (Int32.ofNat len)] 6)) (T6.setTop (mkF m 58 #[.val (.ref b), .val (.int (Int32.ofNat o)), .val (.int (Int32.ofNat len)), .val (.ref s.heap.size), .val (.int (Int32.ofNat len)), .unset] [.ref s.heap.size])) := c7.trans (by
    refine XS.istore X6.here hexec rfl (hb hbytes d12) rfl rfl ?_
    refine XS.iload X6.here hexec rfl (hb hbytes d14) rfl ?_
    refine XS.iloadN X6.here hexec rfl (hb hbytes d16) rfl ?_
    refine XS.icmpYes X6.here hexec rfl (pc0 := 17) rfl (hb hbytes d17) rfl (ii_eq_t rfl) (by decide) rfl ?_
    refine XS.aloadN X6.here hexec rfl (hb hbytes d57) rfl rfl ?_
    exact Steps.refl _)
  have X8 := X6.wide (L' := []) (cells' := 1) (slots' := len) (fun x hx hlt => by
    simp only [List.nil_append, copyLocs, List.mem_map, List.mem_range] at hx
    obtain ⟨i, -, rfl⟩ := hx
    exact absurd hlt (Nat.lt_irrefl _)) (Nat.le_refl _) (by omega)
  exact ⟨T6, some (.ref s.heap.size), _, _, _, X8, rfl, rfl, rfl, (fun h => by cases h), ⟨⟨rfl, B6, ba3.like (X3.warmed.alike.symm.trans X6.warmed.alike) p6.1 f6.1 f6.2.1 f6.2.2.1, f6.2.1.trans bv3, by rw [X6.warmed.alike.findClass, f6.1]; exact bf3, by rw [f6.2.2.1, bs3]; simp, fun j hj => by rw [f6.2.2.2 j, if_pos (by omega)]; rfl, kp3.put p6 (Nat.le_refl _)⟩, by rw [p6.2.2, bh3, hh0]; simp⟩, fun fs hl => c8.trans (X8.areturnOut hexec rfl hret rfl (hb hbytes d58) hl)⟩
end Cmp3
namespace CodL
def yN : MethodName := ⟨"java/lang/StringUTF16", "coderFromArrayLen", "([BI)B"⟩
abbrev yB : ByteArray := jdk_52_method_15_code
theorem d0 : decode yB 0 = .ok (.iload_n 1, 1) := by decide +kernel
theorem d1 : decode yB 1 = .ok (.aload_n 0, 1) := by decide +kernel
theorem d2 : decode yB 2 = .ok (.arraylength, 1) := by decide +kernel
theorem d3 : decode yB 3 = .ok (.isub, 1) := by decide +kernel
theorem d4 : decode yB 4 = .ok (.bipush 31, 2) := by decide +kernel
theorem d6 : decode yB 6 = .ok (.iushr, 1) := by decide +kernel
theorem d7 : decode yB 7 = .ok (.i2b, 1) := by decide +kernel
theorem d8 : decode yB 8 = .ok (.ireturn, 1) := by decide +kernel
def site : List Cond := []
def tab : Cond := tabOf yN yB 2 (some .byte) site
def P (d : Addr) (B : Cell) (args : Array Value) (s : State) : Prop := args = #[.ref d, .int (Int32.ofNat B.slots.size)] ∧ Arr .byte d B s
def E (r : Option Value) (s u : State) : Prop := XT.PureE (some (.int 0)) r s u
/-- an array as long as the number of chars: LATIN1 -/
theorem law (l : Launch) (d : Addr) (B : Cell) : Law l yN 2 2 0 0 yB 2 (some .byte) site (P d B) E [] 0 0 := by
  refine Law.of_walk (plainFor_of_name (by decide +kernel)) (by decide +kernel) (by decide +kernel) (by decide) (fun _ _ h => by rw [h.1]; rfl) (fun _ U U' hal hh h => ⟨h.1, h.2.mv hal hh⟩) (fun r U U' V V' h1 hal h2 h => XT.PureE.mv r U U' V V' h1 hal h2 h) ?_
  intro p e s m args below meth c s₁ X0 hexec hbytes hml hret hlk hnm hown hh0 W hP
  obtain ⟨rfl, hB⟩ := hP
  have hB0 := hB.mv X0.warmed.alike hh0
  have c1 : Steps p.tables e below (s₁.setTop (entryFrame m #[.ref d, .int (Int32.ofNat B.slots.size)] 2)) (s₁.setTop (mkF m 0 #[.val (.ref d), .val (.int (Int32.ofNat B.slots.size))] [])) := entry rfl
  have c2 : Steps p.tables e below (s₁.setTop (entryFrame m #[.ref d, .int (Int32.ofNat B.slots.size)] 2)) (s₁.setTop (mkF m 2 #[.val (.ref d), .val (.int (Int32.ofNat B.slots.size))] [.ref d, .int (Int32.ofNat B.slots.size)])) := c1.trans (by
    refine XS.iloadN X0.here hexec rfl (hb hbytes d0) rfl ?_
    refine XS.aloadN X0.here hexec rfl (hb hbytes d1) rfl rfl ?_
    exact Steps.refl _)
  have c3 : Steps p.tables e below (s₁.setTop (entryFrame m #[.ref d, .int (Int32.ofNat B.slots.size)] 2)) (s₁.setTop (mkF m 8 #[.val (.ref d), .val (.int (Int32.ofNat B.slots.size))] [.int (lo8 (ushr (Int32.ofNat B.slots.size - Int32.ofNat B.slots.size) 31))])) := c2.trans (by
    refine X0.alen hexec hB0 rfl rfl (hb hbytes d2) ?_
    refine XS.isub X0.here hexec rfl (hb hbytes d3) rfl ?_
    refine bipushV X0.here hexec rfl 31 (hb hbytes d4) (by decide) ?_
    refine iushr X0.here hexec rfl (hb hbytes d6) rfl ?_
    refine i2b X0.here hexec rfl (hb hbytes d7) rfl ?_
    exact Steps.refl _)
  have e0 : lo8 (ushr (Int32.ofNat B.slots.size - Int32.ofNat B.slots.size) 31) = 0 := by rw [Int32.sub_self]; decide
  rw [e0] at c3
  exact ⟨s₁, some (.int 0), _, _, _, X0, rfl, rfl, rfl, (fun h => by cases h), ⟨rfl, hh0⟩, fun fs hl => c3.trans (X0.ireturnOut hexec hret rfl (Or.inr (Or.inr (Or.inl rfl))) (hb hbytes d8) hl)⟩
end CodL
/-- the String at a is Latin-1 over a new byte[] (the heap's one new cell): the low bytes of the len chars of A from o on; every cell but a is kept -/
def Got (a : Addr) (D : Cell) (fV fC : Field) (A : Cell) (o len : Nat) (r : Option Value) (s u : State) : Prop := r = none ∧ ∃ D' V : Cell, Blank "java/lang/String" a D' u ∧ Same D D' [fV.slot, fC.slot] ∧ D'.slots[fV.slot]? = some (.ref s.heap.size) ∧ D'.slots[fC.slot]? = some (.int 0) ∧ Arr .byte s.heap.size V u ∧ V.vm = .none ∧ u.vm.findClass "[B" = some V.cls ∧ V.slots.size = len ∧ (∀ j, j < len → V.slots[j]? = some (.int (lo8 (cv A (o + j))))) ∧ (∀ (y : Addr) (c : Cell), y ≠ a → s.heap[y]? = some c → u.heap[y]? = some c) ∧ u.heap.size = s.heap.size + 1
theorem Got.mv {a : Addr} {D A : Cell} {fV fC : Field} {o len : Nat} : ∀ r (U U' V V' : State), U'.heap = U.heap → V.vm.Alike V'.vm → V'.heap = V.heap → Got a D fV fC A o len r U V → Got a D fV fC A o len r U' V' :=
  fun r U U' V V' h1 hal h2 ⟨e0, D', X, a1, a2, a3, a4, a5, a6, a7, a8, a9, a10, a11⟩ => ⟨e0, D', X, a1.mv hal h2, a2, by rw [h1]; exact a3, a4, by rw [h1]; exact a5.mv hal h2, a6, by rw [hal.findClass]; exact a7, a8, a9, by rw [h1, h2]; exact a10, by rw [h1, h2]; exact a11⟩
namespace New4
def yN : MethodName := ⟨"java/lang/String", "<init>", "([CIILjava/lang/Void;)V"⟩
abbrev yB : ByteArray := jdk_42_method_149_code
theorem d0 : decode yB 0 = .ok (.aload_n 0, 1) := by decide +kernel
theorem d1 : decode yB 1 = .ok (.invokespecial 1, 3) := by decide +kernel
theorem d4 : decode yB 4 = .ok (.iload_n 3, 1) := by decide +kernel
theorem d5 : decode yB 5 = .ok (.ifCond (.ne) 22, 3) := by decide +kernel
theorem d27 : decode yB 27 = .ok (.getstatic 38, 3) := by decide +kernel
theorem d30 : decode yB 30 = .ok (.ifCond (.eq) 28, 3) := by decide +kernel
theorem d33 : decode yB 33 = .ok (.aload_n 1, 1) := by decide +kernel
theorem d34 : decode yB 34 = .ok (.iload_n 2, 1) := by decide +kernel
theorem d35 : decode yB 35 = .ok (.iload_n 3, 1) := by decide +kernel
theorem d36 : decode yB 36 = .ok (.invokestatic 177, 3) := by decide +kernel
theorem d39 : decode yB 39 = .ok (.astore 5, 2) := by decide +kernel
theorem d41 : decode yB 41 = .ok (.aload_n 0, 1) := by decide +kernel
theorem d42 : decode yB 42 = .ok (.aload 5, 2) := by decide +kernel
theorem d44 : decode yB 44 = .ok (.iload_n 3, 1) := by decide +kernel
theorem d45 : decode yB 45 = .ok (.invokestatic 47, 3) := by decide +kernel
theorem d48 : decode yB 48 = .ok (.putfield 15, 3) := by decide +kernel
theorem d51 : decode yB 51 = .ok (.aload_n 0, 1) := by decide +kernel
theorem d52 : decode yB 52 = .ok (.aload 5, 2) := by decide +kernel
theorem d54 : decode yB 54 = .ok (.putfield 9, 3) := by decide +kernel
theorem d57 : decode yB 57 = .ok (.return_, 1) := by decide +kernel
def site : List Cond := [.fieldLink "java/lang/String" 38 "java/lang/String" "COMPACT_STRINGS" "Z", Cmp3.tab, CodL.tab, .laysFinal "java/lang/String" "java/lang/String" "value" "[B", .fieldLink "java/lang/String" 9 "java/lang/String" "value" "[B", .laysFinal "java/lang/String" "java/lang/String" "coder" "B", .fieldLink "java/lang/String" 15 "java/lang/String" "coder" "B"] ++ objW "java/lang/String" 1 ++ staticW "java/lang/String" 177 Cmp3.yN ++ staticW "java/lang/String" 47 CodL.yN
def tab : Cond := tabOf yN yB 6 none site
def P (a : Addr) (D : Cell) (fV fC : Field) (b : Addr) (A : Cell) (z : Int32) (o len : Nat) (args : Array Value) (s : State) : Prop := args = #[.ref a, .ref b, .int (Int32.ofNat o), .int (Int32.ofNat len), .null] ∧ Blank "java/lang/String" a D s ∧ Found "java/lang/String" "value" "[B" fV s ∧ Found "java/lang/String" "coder" "B" fC s ∧ Ch b A s ∧ StaticIs s "java/lang/String" "COMPACT_STRINGS" "Z" (.int z) ∧ ¬ z = 0 ∧ 0 < len ∧ o + len ≤ A.slots.size ∧ len ≤ 536870912 ∧ ∀ i, i < len → ¬ 255 < cv A (o + i)
def E (a : Addr) (D : Cell) (fV fC : Field) (A : Cell) (o len : Nat) (r : Option Value) (s u : State) : Prop := Got a D fV fC A o len r s u
/-- len > 0, no char of the range above 255: a Latin-1 String of their low bytes -/
theorem law (l : Launch) (a : Addr) (D : Cell) (fV fC : Field) (b : Addr) (A : Cell) (z : Int32) (o len : Nat) : Law l yN 5 4 2 35 yB 6 none site (P a D fV fC b A z o len) (E a D fV fC A o len) [⟨a, fC.slot⟩, ⟨a, fV.slot⟩] 1 len := by
  refine Law.of_walk (plainFor_of_name (by decide +kernel)) (by decide +kernel) (by decide +kernel) (by decide) (fun _ _ h => by rw [h.1]; rfl) (fun _ U U' hal hh h => ⟨h.1, h.2.1.mv hal hh, h.2.2.1.al hal, h.2.2.2.1.al hal, h.2.2.2.2.1.mv hal hh, h.2.2.2.2.2.1.there hal hh, h.2.2.2.2.2.2⟩) (fun r U U' V V' h1 hal h2 h => Got.mv r U U' V V' h1 hal h2 h) ?_
  intro p e s m args below meth c s₁ X0 hexec hbytes hml hret hlk hnm hown hh0 W hP
  obtain ⟨rfl, hB, f1, f2, hA, s1, hz, l0, l1, l2, hp⟩ := hP
  have a31 := hA.1.2.2.2
  have c1 : Steps p.tables e below (s₁.setTop (entryFrame m #[.ref a, .ref b, .int (Int32.ofNat o), .int (Int32.ofNat len), .null] 6)) (s₁.setTop (mkF m 0 #[.val (.ref a), .val (.ref b), .val (.int (Int32.ofNat o)), .val (.int (Int32.ofNat len)), .val .null, .unset] [])) := entry rfl
  have c2 : Steps p.tables e below (s₁.setTop (entryFrame m #[.ref a, .ref b, .int (Int32.ofNat o), .int (Int32.ofNat len), .null] 6)) (s₁.setTop (mkF m 1 #[.val (.ref a), .val (.ref b), .val (.int (Int32.ofNat o)), .val (.int (Int32.ofNat len)), .val .null, .unset] [.ref a])) := c1.trans (by
    refine XS.aloadN X0.here hexec rfl (hb hbytes d0) rfl rfl ?_
    exact Steps.refl _)
  obtain ⟨T3, X3, q3, st3⟩ := X0.oinit hexec hown (wks W (objW "java/lang/String" 1)) (g := (mkF m 1 #[.val (.ref a), .val (.ref b), .val (.int (Int32.ofNat o)), .val (.int (Int32.ofNat len)), .val .null, .unset] [.ref a])) rfl (by rw [hml]; rfl) (rest := []) rfl (hb hbytes d1) (W := 0) (by show 2 * 0 + 0 ≤ _; decide) (Nat.le_of_ble_eq_true rfl) (Nat.le_of_ble_eq_true rfl)
  have hh3 := q3.trans hh0
  have c4 : Steps p.tables e below (s₁.setTop (entryFrame m #[.ref a, .ref b, .int (Int32.ofNat o), .int (Int32.ofNat len), .null] 6)) (T3.setTop (mkF m 27 #[.val (.ref a), .val (.ref b), .val (.int (Int32.ofNat o)), .val (.int (Int32.ofNat len)), .val .null, .unset] [])) := (c2.trans (st3 _ (Steps.refl _))).trans (by
    refine XS.iloadN X3.here hexec rfl (hb hbytes d4) rfl ?_
    refine XS.ifYes X3.here hexec rfl (pc0 := 5) rfl (hb hbytes d5) rfl (i0_ne_t (nz32 (by omega) l0)) (by decide) rfl ?_
    exact Steps.refl _)
  obtain ⟨T5, X5, q5, st5⟩ := X3.sget hexec hown (wk W (.fieldLink "java/lang/String" 38 "java/lang/String" "COMPACT_STRINGS" "Z")) s1 (fun _ _ h => by rw [hh3]; exact h) (g := (mkF m 27 #[.val (.ref a), .val (.ref b), .val (.int (Int32.ofNat o)), .val (.int (Int32.ofNat len)), .val .null, .unset] [])) rfl (hb hbytes d27)
  have hh5 := q5.trans hh3
  have c6 : Steps p.tables e below (s₁.setTop (entryFrame m #[.ref a, .ref b, .int (Int32.ofNat o), .int (Int32.ofNat len), .null] 6)) (T5.setTop (mkF m 30 #[.val (.ref a), .val (.ref b), .val (.int (Int32.ofNat o)), .val (.int (Int32.ofNat len)), .val .null, .unset] [.int z])) := c4.trans (st5 _ (Steps.refl _))
  have c7 : Steps p.tables e below (s₁.setTop (entryFrame m #[.ref a, .ref b, .int (Int32.ofNat o), .int (Int32.ofNat len), .null] 6)) (T5.setTop (mkF m 36 #[.val (.ref a), .val (.ref b), .val (.int (Int32.ofNat o)), .val (.int (Int32.ofNat len)), .val .null, .unset] [.int (Int32.ofNat len), .int (Int32.ofNat o), .ref b])) := c6.trans (by
    refine XS.ifNo X5.here hexec rfl (hb hbytes d30) rfl (i0_eq_f hz) ?_
    refine XS.aloadN X5.here hexec rfl (hb hbytes d33) rfl rfl ?_
    refine XS.iloadN X5.here hexec rfl (hb hbytes d34) rfl ?_
    refine XS.iloadN X5.here hexec rfl (hb hbytes d35) rfl ?_
    exact Steps.refl _)
  obtain ⟨v8, T8, X8, E8, g8⟩ := X5.callS hexec (Cmp3.law l b A o len) hown (wks W (staticW "java/lang/String" 177 Cmp3.yN)) (wk W Cmp3.tab) (W := 0) (Nat.le_of_ble_eq_true rfl) (Nat.le_of_ble_eq_true rfl) (Nat.le_refl _) (by show 0 + len ≤ len; omega) (g := (mkF m 36 #[.val (.ref a), .val (.ref b), .val (.int (Int32.ofNat o)), .val (.int (Int32.ofNat len)), .val .null, .unset] [.int (Int32.ofNat len), .int (Int32.ofNat o), .ref b])) rfl (by rw [hml]; rfl) c7 (argsL := [.ref b, .int (Int32.ofNat o), .int (Int32.ofNat len)]) (rest := []) rfl rfl (by show 2 * 0 + 0 ≤ _; decide) (hb hbytes d36) (⟨rfl, hA.mv X5.warmed.alike hh5, l1, l2, hp⟩)
  obtain ⟨e8, z8⟩ := E8
  obtain ⟨rfl, N, n1, n2, n3, n4, n5, n6⟩ := NewArr.mv _ T5 s _ _ hh5.symm (Vm.Alike.refl _) rfl e8
  rw [hh5] at z8
  have hB1 := hB.keep X8.warmed.alike (n6 _ _ hB.1)
  have hne : s.heap.size ≠ a := (Nat.ne_of_lt (Array.getElem?_eq_some_iff.mp hB.1).1).symm
  have c9 : Steps p.tables e below (s₁.setTop (entryFrame m #[.ref a, .ref b, .int (Int32.ofNat o), .int (Int32.ofNat len), .null] 6)) (T8.setTop (mkF m 39 #[.val (.ref a), .val (.ref b), .val (.int (Int32.ofNat o)), .val (.int (Int32.ofNat len)), .val .null, .unset] [.ref s.heap.size])) := g8
  have c10 : Steps p.tables e below (s₁.setTop (entryFrame m #[.ref a, .ref b, .int (Int32.ofNat o), .int (Int32.ofNat len), .null] 6)) (T8.setTop (mkF m 45 #[.val (.ref a), .val (.ref b), .val (.int (Int32.ofNat o)), .val (.int (Int32.ofNat len)), .val .null, .val (.ref s.heap.size)] [.int (Int32.ofNat N.slots.size), .ref s.heap.size, .ref a])) := by
    have hc : Steps p.tables e below (s₁.setTop (entryFrame m #[.ref a, .ref b, .int (Int32.ofNat o), .int (Int32.ofNat len), .null] 6)) (T8.setTop (mkF m 45 #[.val (.ref a), .val (.ref b), .val (.int (Int32.ofNat o)), .val (.int (Int32.ofNat len)), .val .null, .val (.ref s.heap.size)] [.int (Int32.ofNat len), .ref s.heap.size, .ref a])) := c9.trans (by
      refine XS.astore X8.here hexec rfl (hb hbytes d39) rfl rfl rfl ?_
      refine XS.aloadN X8.here hexec rfl (hb hbytes d41) rfl rfl ?_
      refine XS.aload X8.here hexec rfl (hb hbytes d42) rfl rfl ?_
      refine XS.iloadN X8.here hexec rfl (hb hbytes d44) rfl ?_
      exact Steps.refl _)
    rw [n4]; exact hc
  obtain ⟨v11, T11, X11, E11, g11⟩ := X8.callS hexec (CodL.law l s.heap.size N) hown (wks W (staticW "java/lang/String" 47 CodL.yN)) (wk W CodL.tab) (W := 1) (Nat.le_of_ble_eq_true rfl) (Nat.le_of_ble_eq_true rfl) (Nat.le_refl _) (by show 0 + len + 0 ≤ len; omega) (g := (mkF m 45 #[.val (.ref a), .val (.ref b), .val (.int (Int32.ofNat o)), .val (.int (Int32.ofNat len)), .val .null, .val (.ref s.heap.size)] [.int (Int32.ofNat N.slots.size), .ref s.heap.size, .ref a])) rfl (by rw [hml]; rfl) c10 (argsL := [.ref s.heap.size, .int (Int32.ofNat N.slots.size)]) (rest := [.ref a]) rfl rfl (by show 2 * 0 + (1 + 0) ≤ _; decide) (hb hbytes d45) (⟨rfl, n1⟩)
  obtain ⟨rfl, q11⟩ := E11
  have hB11 := hB1.mv (X8.warmed.alike.symm.trans X11.warmed.alike) q11
  have c12 : Steps p.tables e below (s₁.setTop (entryFrame m #[.ref a, .ref b, .int (Int32.ofNat o), .int (Int32.ofNat len), .null] 6)) (T11.setTop (mkF m 48 #[.val (.ref a), .val (.ref b), .val (.int (Int32.ofNat o)), .val (.int (Int32.ofNat len)), .val .null, .val (.ref s.heap.size)] [.int 0, .ref a])) := g11
  obtain ⟨T13, X13, p13, bl13, sl13, st13⟩ := X11.finit hexec hown (wk W (.fieldLink "java/lang/String" 15 "java/lang/String" "coder" "B")) (Or.inr ⟨_, (wk W (.laysFinal "java/lang/String" "java/lang/String" "coder" "B"))⟩) (Or.inl ⟨rfl, hnm⟩) f2 (Or.inl rfl) hB11 (t := .byte) (by decide +kernel) rfl (g := (mkF m 48 #[.val (.ref a), .val (.ref b), .val (.int (Int32.ofNat o)), .val (.int (Int32.ofNat len)), .val .null, .val (.ref s.heap.size)] [.int 0, .ref a])) rfl (rest := []) rfl (hb hbytes d48)
  have c14 : Steps p.tables e below (s₁.setTop (entryFrame m #[.ref a, .ref b, .int (Int32.ofNat o), .int (Int32.ofNat len), .null] 6)) (T13.setTop (mkF m 54 #[.val (.ref a), .val (.ref b), .val (.int (Int32.ofNat o)), .val (.int (Int32.ofNat len)), .val .null, .val (.ref s.heap.size)] [.ref s.heap.size, .ref a])) := (c12.trans (st13 _ (Steps.refl _))).trans (by
    refine XS.aloadN X13.here hexec rfl (hb hbytes d51) rfl rfl ?_
    refine XS.aload X13.here hexec rfl (hb hbytes d52) rfl rfl ?_
    exact Steps.refl _)
  obtain ⟨T15, X15, p15, bl15, sl15, st15⟩ := X13.finit hexec hown (wk W (.fieldLink "java/lang/String" 9 "java/lang/String" "value" "[B")) (Or.inr ⟨_, (wk W (.laysFinal "java/lang/String" "java/lang/String" "value" "[B"))⟩) (Or.inl ⟨rfl, hnm⟩) f1 (Or.inl rfl) bl13 (t := (.array .byte)) (by decide +kernel) rfl (g := (mkF m 54 #[.val (.ref a), .val (.ref b), .val (.int (Int32.ofNat o)), .val (.int (Int32.ofNat len)), .val .null, .val (.ref s.heap.size)] [.ref s.heap.size, .ref a])) rfl (rest := []) rfl (hb hbytes d54)
  have c16 : Steps p.tables e below (s₁.setTop (entryFrame m #[.ref a, .ref b, .int (Int32.ofNat o), .int (Int32.ofNat len), .null] 6)) (T15.setTop (mkF m 57 #[.val (.ref a), .val (.ref b), .val (.int (Int32.ofNat o)), .val (.int (Int32.ofNat len)), .val .null, .val (.ref s.heap.size)] [])) := c14.trans (st15 _ (Steps.refl _))
  have ap := apart (Or.inr ⟨_, (wk W (.laysFinal "java/lang/String" "java/lang/String" "value" "[B"))⟩) (Or.inr ⟨_, (wk W (.laysFinal "java/lang/String" "java/lang/String" "coder" "B"))⟩) f1 f2 (t₁ := .array .byte) (t₂ := .byte) (by decide +kernel) (by decide +kernel) (by decide)
  have al := X8.warmed.alike.symm.trans X15.warmed.alike
  have n7 : T11.heap[s.heap.size]? = some N := by rw [q11]; exact n1.1
  exact ⟨T15, none, _, _, _, X15, by simp, rfl, by omega, (fun _ => rfl), ⟨rfl, _, N, bl15, ((Same.refl D _).set _ (by simp)).set _ (by simp), sl15, (Cell.slots_setSlot_ne _ ap).trans sl13, n1.keep al (p15.other hne (p13.other hne n7)), n2, by rw [al.findClass]; exact n3, n4, n5, fun y c h1 h2 => p15.other h1 (p13.other h1 (by rw [q11]; exact n6 y c h2)), by rw [p15.2.2, p13.2.2, q11]; exact z8⟩, fun fs hl => c16.trans (X15.returnOut hexec hret (hb hbytes d57) hl)⟩
end New4
namespace New1
def yN : MethodName := ⟨"java/lang/String", "<init>", "([C)V"⟩
abbrev yB : ByteArray := jdk_42_method_3_code
theorem d0 : decode yB 0 = .ok (.aload_n 0, 1) := by decide +kernel
theorem d1 : decode yB 1 = .ok (.aload_n 1, 1) := by decide +kernel
theorem d2 : decode yB 2 = .ok (.iconst 0, 1) := by decide +kernel
theorem d3 : decode yB 3 = .ok (.aload_n 1, 1) := by decide +kernel
theorem d4 : decode yB 4 = .ok (.arraylength, 1) := by decide +kernel
theorem d5 : decode yB 5 = .ok (.aconst_null, 1) := by decide +kernel
theorem d6 : decode yB 6 = .ok (.invokespecial 27, 3) := by decide +kernel
theorem d9 : decode yB 9 = .ok (.return_, 1) := by decide +kernel
def site : List Cond := [New4.tab] ++ initW "java/lang/String" 27 New4.yN
def tab : Cond := tabOf yN yB 2 none site
def P (a : Addr) (D : Cell) (fV fC : Field) (b : Addr) (A : Cell) (z : Int32) (args : Array Value) (s : State) : Prop := args = #[.ref a, .ref b] ∧ Blank "java/lang/String" a D s ∧ Found "java/lang/String" "value" "[B" fV s ∧ Found "java/lang/String" "coder" "B" fC s ∧ Ch b A s ∧ StaticIs s "java/lang/String" "COMPACT_STRINGS" "Z" (.int z) ∧ ¬ z = 0 ∧ 0 < A.slots.size ∧ A.slots.size ≤ 536870912 ∧ ∀ i, i < A.slots.size → ¬ 255 < cv A i
def E (a : Addr) (D : Cell) (fV fC : Field) (A : Cell) (r : Option Value) (s u : State) : Prop := Got a D fV fC A 0 A.slots.size r s u
/-- new String(chars), not empty, no char above 255: a Latin-1 String of their low bytes -/
theorem law (l : Launch) (a : Addr) (D : Cell) (fV fC : Field) (b : Addr) (A : Cell) (z : Int32) : Law l yN 2 1 3 52 yB 2 none site (P a D fV fC b A z) (E a D fV fC A) [⟨a, fC.slot⟩, ⟨a, fV.slot⟩] 1 A.slots.size := by
  refine Law.of_walk (plainFor_of_name (by decide +kernel)) (by decide +kernel) (by decide +kernel) (by decide) (fun _ _ h => by rw [h.1]; rfl) (fun _ U U' hal hh h => ⟨h.1, h.2.1.mv hal hh, h.2.2.1.al hal, h.2.2.2.1.al hal, h.2.2.2.2.1.mv hal hh, h.2.2.2.2.2.1.there hal hh, h.2.2.2.2.2.2⟩) (fun r U U' V V' h1 hal h2 h => Got.mv r U U' V V' h1 hal h2 h) ?_
  intro p e s m args below meth c s₁ X0 hexec hbytes hml hret hlk hnm hown hh0 W hP
  obtain ⟨rfl, hB, f1, f2, hA, s1, hz, l0, l2, hp⟩ := hP
  have c1 : Steps p.tables e below (s₁.setTop (entryFrame m #[.ref a, .ref b] 2)) (s₁.setTop (mkF m 0 #[.val (.ref a), .val (.ref b)] [])) := entry rfl
  have c2 : Steps p.tables e below (s₁.setTop (entryFrame m #[.ref a, .ref b] 2)) (s₁.setTop (mkF m 6 #[.val (.ref a), .val (.ref b)] [.null, .int (Int32.ofNat A.slots.size), .int 0, .ref b, .ref a])) := c1.trans (by
    refine XS.aloadN X0.here hexec rfl (hb hbytes d0) rfl rfl ?_
    refine XS.aloadN X0.here hexec rfl (hb hbytes d1) rfl rfl ?_
    refine iconstV X0.here hexec rfl 0 (hb hbytes d2) (by decide) ?_
    refine XS.aloadN X0.here hexec rfl (hb hbytes d3) rfl rfl ?_
    refine X0.alen hexec (hA.1.mv X0.warmed.alike hh0) rfl rfl (hb hbytes d4) ?_
    refine XS.aconstNull X0.here hexec rfl (hb hbytes d5) ?_
    exact Steps.refl _)
  obtain ⟨v3, T3, X3, E3, g3⟩ := X0.callN hexec (New4.law l a D fV fC b A z 0 A.slots.size) rfl hown (wks W (initW "java/lang/String" 27 New4.yN)) (W New4.tab (by simp only [site, List.mem_cons, List.mem_append, true_or, or_true])) (W := 0) (Nat.le_of_ble_eq_true rfl) (Nat.le_of_ble_eq_true rfl) (Nat.le_refl _) (by show 0 + A.slots.size ≤ A.slots.size; omega) (g := (mkF m 6 #[.val (.ref a), .val (.ref b)] [.null, .int (Int32.ofNat A.slots.size), .int (Int32.ofNat 0), .ref b, .ref a])) rfl (by rw [hml]; rfl) c2 (argsL := [.ref b, .int (Int32.ofNat 0), .int (Int32.ofNat A.slots.size), .null]) (rest := []) rfl rfl (by show 2 * 0 + 0 ≤ _; decide) (hb hbytes d6) (⟨rfl, hB.mv X0.warmed.alike hh0, f1.al X0.warmed.alike, f2.al X0.warmed.alike, hA.mv X0.warmed.alike hh0, s1.there X0.warmed.alike hh0, hz, l0, by omega, l2, fun i hi => by rw [Nat.zero_add]; exact hp i hi⟩)
  have e0 := Got.mv _ s₁ s _ _ hh0.symm (Vm.Alike.refl _) rfl E3
  obtain rfl := e0.1
  have c4 : Steps p.tables e below (s₁.setTop (entryFrame m #[.ref a, .ref b] 2)) (T3.setTop (mkF m 9 #[.val (.ref a), .val (.ref b)] [])) := g3
  exact ⟨T3, none, _, _, _, X3, by simp, rfl, by omega, (fun _ => rfl), e0, fun fs hl => c4.trans (X3.returnOut hexec hret (hb hbytes d9) hl)⟩
theorem pays {l : Launch} {R : Room} {p : Program} {e : Env} {below : List Frame} {s : State} {sargs : Array Value} {len W : Nat} (a : Addr) (D : Cell) (fV fC : Field) (b : Addr) (A : Cell) (z : Int32) (htab : tab.before sargs s = true) (hfr : 4 ≤ R.frames) (hlo : W + 65 ≤ R.locals) :
    Back l R p e below s sargs yN len W (fun A₁ a₁ => A₁.cells + 1 ≤ R.cells ∧ A₁.slots + A.slots.size ≤ R.slots ∧ P a D fV fC b A z a₁ A₁.U) (fun A₁ _ v₁ B₁ => E a D fV fC A v₁ A₁.U B₁.U ∧ B₁.locs = A₁.locs ++ [⟨a, fC.slot⟩, ⟨a, fV.slot⟩] ∧ B₁.cells = A₁.cells + 1 ∧ B₁.slots = A₁.slots + A.slots.size) :=
  (law l a D fV fC b A z).pays htab hfr (by omega)
end New1
/-- the byte, read back as charAt reads it, is the char -/
theorem lo8_mask {x : Int32} (h0 : ¬ x < 0) (h1 : ¬ 255 < x) : lo8 x &&& 255 = x := by
  have t : ∀ k : Fin 256, lo8 (Int32.ofNat k.val) &&& 255 = Int32.ofNat k.val := by decide +kernel
  rw [Int32.lt_iff_toInt_lt] at h0 h1
  have e0 : (0 : Int32).toInt = 0 := rfl
  have e1 : (255 : Int32).toInt = 255 := rfl
  obtain ⟨k, hk⟩ : ∃ k : Nat, x.toInt = k := ⟨x.toInt.toNat, by omega⟩
  have hx : x = Int32.ofNat k := Int32.toInt_inj.mp (by rw [hk, Int32.toInt_ofNat_small (by omega)])
  rw [hx]
  exact t ⟨k, by omega⟩
end StrChars
namespace StrChars.Road
open Jvm Sem ClassFile Op Lib Jvm.Stand Jvm.Free Jvm.Free.XT
open Jvm.Lib.Cold (StaticIs)
abbrev ST : String := "java/lang/String"
/-- every table word that New1's law asks, flat -/
abbrev words : List Jvm.Cond := [.code New1.yN New1.yB 2 none, .initialized ST, .methodLink ST 27 New4.yN, .instanceMethod New4.yN,
  .code New4.yN New4.yB 6 none, .fieldLink ST 38 ST "COMPACT_STRINGS" "Z", .laysFinal ST ST "value" "[B", .fieldLink ST 9 ST "value" "[B", .laysFinal ST ST "coder" "B", .fieldLink ST 15 ST "coder" "B",
  .methodLink ST 1 Lib.objectInit, .instanceMethod Lib.objectInit, .code Lib.objectInit ⟨#[0xb1]⟩ 1 none, .methodLink ST 177 Cmp3.yN, .static Cmp3.yN, .methodLink ST 47 CodL.yN, .static CodL.yN,
  .code Cmp3.yN Cmp3.yB 6 (some (.array .byte)), .initialized U16, .arrayClass .byte, .methodLink U16 115 Cmp5.yN, .static Cmp5.yN, .code Cmp5.yN Cmp5.yB 7 (some .int), .code CodL.yN CodL.yB 2 (some .byte)]
theorem tab_of {a : Array Value} {s : State} (h : ∀ w ∈ words, w.before a s = true) : New1.tab.before a s = true := by
  have h5 : Cmp5.tab.before a s = true := unparts (wk h (.code Cmp5.yN Cmp5.yB 7 (some .int))) (wks h (.initialized Cmp5.yN.cls :: Cmp5.site))
  have hc : CodL.tab.before a s = true := unparts (wk h (.code CodL.yN CodL.yB 2 (some .byte))) (wks h (.initialized CodL.yN.cls :: CodL.site))
  have q5 : ∀ w ∈ Cmp5.tab :: words, w.before a s = true := fun w hw => (List.mem_cons.mp hw).elim (fun e => e ▸ h5) (h w)
  have h3 : Cmp3.tab.before a s = true := unparts (wk q5 (.code Cmp3.yN Cmp3.yB 6 (some (.array .byte)))) (wks q5 (.initialized Cmp3.yN.cls :: Cmp3.site))
  have q3 : ∀ w ∈ Cmp3.tab :: CodL.tab :: words, w.before a s = true := fun w hw => (List.mem_cons.mp hw).elim (fun e => e ▸ h3) fun hw => (List.mem_cons.mp hw).elim (fun e => e ▸ hc) (h w)
  have h4 : New4.tab.before a s = true := unparts (wk q3 (.code New4.yN New4.yB 6 none)) (wks q3 (.initialized New4.yN.cls :: New4.site))
  have q4 : ∀ w ∈ New4.tab :: words, w.before a s = true := fun w hw => (List.mem_cons.mp hw).elim (fun e => e ▸ h4) (h w)
  exact unparts (wk q4 (.code New1.yN New1.yB 2 none)) (wks q4 (.initialized New1.yN.cls :: New1.site))
/-- the words ride from the start Z to the walk's own state -/
theorem moved {Z s : State} {a0 args : Array Value} (hZ : Z.Warmed39 s.vm) (hw : ∀ d ∈ words, d.before a0 Z = true) : ∀ d ∈ words, d.before args s = true := fun d hd => by
  have q := hw d hd
  have t : ∀ d ∈ words, d = .arrayClass .byte ∨ (d.onTables && d.keepsFace) = true := by decide +kernel
  rcases t d hd with rfl | t
  · exact RoadKit.mvA hZ q
  · exact RoadKit.mv hZ q t
/-- WHAT COMES BACK, over the tables of the start Z: h the heap at the call, h' behind it -/
def Q (Z : State) (x : Addr) (A : Cell) (h : Heap) (v : Option Value) (h' : Heap) (L : List Loc) : Prop := v = none ∧ (∀ y ∈ L, y.base = x) ∧ RoadKit.Keep h h' [x] ∧ h'.size = h.size + 1 ∧ RoadKit.Exa Z h' x ST ∧ RoadKit.Fld Z h' x ST "value" "[B" (.ref h.size) ∧ RoadKit.Fld Z h' x ST "coder" "B" (.int 0) ∧
  (∃ V : Cell, RoadKit.Arr Z h' h.size V .byte ∧ V.vm = .none ∧ Z.vm.findClass "[B" = some V.cls ∧ V.slots.size = A.slots.size ∧ ∀ j, j < A.slots.size → V.slots[j]? = some (.int (lo8 (cv A j)))) ∧
  ∀ (O n d : String) (w : Value), RoadKit.Fld Z h x O n d w → RoadKit.slotOf Z O n d ≠ RoadKit.slotOf Z ST "value" "[B" → RoadKit.slotOf Z O n d ≠ RoadKit.slotOf Z ST "coder" "B" → RoadKit.Fld Z h' x O n d w
/-- **new String(chars) AT A CALL, IN THE ROAD'S FORM**: for specialBack behind newO: x the fresh String, b the char[] with the cell A -/
theorem back {p : Program} {l : Launch} {e : Env} {R : Room} {s : State} {args : Array Value} {below : List Frame} {len W : Nat} {Z : State} {a0 : Array Value} {h : Heap} (hZ : Z.Warmed39 s.vm) (hw : ∀ d ∈ words, d.before a0 Z = true) {kI : Nat} (wi : (Jvm.Cond.instantiable ST kI).before a0 Z = true)
    {x b : Addr} {A : Cell} {z : Int32} {v0 c0 : Value} (E : RoadKit.Exa Z h x ST) (V : RoadKit.Fld Z h x ST "value" "[B" v0) (C : RoadKit.Fld Z h x ST "coder" "B" c0) (K : RoadKit.Arr Z h b A .char) (hty : Typed .char A) (S : RoadKit.Sta Z h ST "COMPACT_STRINGS" "Z" (.int z)) (hz : ¬ z = 0)
    (l0 : 0 < A.slots.size) (l2 : A.slots.size ≤ 536870912) (hp : ∀ i, i < A.slots.size → ¬ 255 < cv A i) (hfr : 4 ≤ R.frames) (hlo : W + 65 ≤ R.locals) :
    Back l R p e below s args New1.yN len W (fun P a => a = #[.ref x, .ref b] ∧ P.U.heap = h ∧ P.cells + 1 ≤ R.cells ∧ P.slots + A.slots.size ≤ R.slots)
      (fun P _ v B => ∃ L, Q Z x A h v B.U.heap L ∧ B.locs = P.locs ++ L ∧ B.cells = P.cells + 1 ∧ B.slots = P.slots + A.slots.size) := by
  intro m meth c P g ig mk a X hg hsize hdg hW hn hp'
  obtain ⟨rfl, rfl, r1, r2⟩ := hp'
  have al : Z.vm.Alike P.U.vm := hZ.alike.trans X.warmed.alike
  obtain ⟨D, cfV, kV, iV, fV, hD, gV, stV, knV, obV, asV, slV⟩ := id V
  obtain ⟨D', cfC, kC, iC, fC, hD', gC, stC, -, -, asC, slC⟩ := id C
  cases hD.symm.trans hD'
  obtain ⟨D2, kD, e1, e2, e3, e4, e5⟩ := id E
  cases hD.symm.trans e1
  obtain ⟨c2, k2, i1, i2, i3, -⟩ := Cond.instantiable_spec wi
  cases e2.symm.trans i1
  cases e3.symm.trans i2
  obtain ⟨kU, u1, u2⟩ := al.2.2 _ _ e3
  have hB : Blank ST x D P.U := ⟨hD, ⟨knV, fun q hq => by rw [hq] at obV; cases obV⟩, by rw [al.findClass]; exact e2, kU, u1, by rw [u2]; exact i3, by rw [u2]; exact e5 i3⟩
  have F1 : Found ST "value" "[B" fV P.U := ⟨SBG.found_only al ⟨cfV, kV, iV, gV⟩, stV⟩
  have F2 : Found ST "coder" "B" fC P.U := ⟨SBG.found_only al ⟨cfC, kC, iC, gC⟩, stC⟩
  have hA : Ch b A P.U := ⟨⟨K.1, State.isArrayOf_alike al K.2.1, K.2.2, by omega⟩, hty⟩
  have hS : StaticIs P.U ST "COMPACT_STRINGS" "Z" (.int z) := by
    obtain ⟨cfS, iS, kS, fS, st, cS, t1, t2, t3, t4, t5, t6, t7⟩ := S
    exact StaticIs.there (s := { Z with heap := P.U.heap }) ⟨cfS, iS, kS, fS, st, cS, t1, t2, t3, t4, t5, (fun q => by rw [q] at t6; cases t6), t7⟩ al rfl
  obtain ⟨v, B, X', ⟨⟨hv, E', V', q1, q2, q3, q4, q5, q6, q7, q8, q9, q10, q11⟩, hl, hc, hs⟩, st⟩ := New1.pays x D fV fC b A z (tab_of (moved hZ hw)) hfr hlo m meth c P g ig mk _ X hg hsize hdg hW hn ⟨r1, r2, rfl, hB, F1, F2, hA, hS, hz, l0, l2, hp⟩
  have al' : Z.vm.Alike B.U.vm := hZ.alike.trans X'.warmed.alike
  have hsz : E'.slots.size = D.slots.size := by
    obtain ⟨-, -, -, kB, w1, w2, w3⟩ := q1
    obtain ⟨kB', y1, y2⟩ := al'.2.2 _ _ e3
    rw [q2.2.1] at w1
    cases w1.symm.trans y1
    rw [w3, e5 i3, y2]
  refine ⟨v, B, X', ⟨_, ⟨hv, ?_, ⟨by omega, fun y cy hy hn' => q10 y cy (by simpa using hn') hy, fun y cy hy => ?_⟩, q11, ⟨E', _, q1.1, by rw [q2.2.1]; exact e2, by rw [q2.2.1]; exact e3, by rw [q2.1]; exact obV, fun _ => by rw [hsz]; exact e5 i3⟩,
    ⟨E', cfV, kV, iV, fV, q1.1, gV, stV, by rw [q2.1]; exact knV, by rw [q2.1]; exact obV, by rw [q2.2.1]; exact asV, q3⟩, ⟨E', cfC, kC, iC, fC, q1.1, gC, stC, by rw [q2.1]; exact knV, by rw [q2.1]; exact obV, by rw [q2.2.1]; exact asC, q4⟩,
    ⟨V', ⟨q5.1, State.isArrayOf_alike al'.symm q5.2.1, q5.2.2.1⟩, q6, by rw [← al'.findClass]; exact q7, q8, fun j hj => by have := q9 j hj; rwa [Nat.zero_add] at this⟩, fun O n d w F n1 n2 => ?_⟩, hl, hc, hs⟩, st⟩
  · intro y hy
    simp only [List.mem_cons, List.not_mem_nil, or_false] at hy
    rcases hy with rfl | rfl <;> rfl
  · by_cases q : y = x
    · subst q
      cases hD.symm.trans hy
      exact ⟨E', q1.1, q2.2.1, q2.1, hsz⟩
    · exact ⟨cy, q10 y cy q hy, rfl, rfl, rfl⟩
  · obtain ⟨D3, cf, k, i, f, g1, g2, g3, g4, g5, g6, g7⟩ := F
    cases hD.symm.trans g1
    simp only [RoadKit.slotOf, g2, gV, gC, Option.map_some, Option.getD_some] at n1 n2
    exact ⟨E', cf, k, i, f, q1.1, g2, g3, by rw [q2.1]; exact g4, by rw [q2.1]; exact g5, by rw [q2.2.1]; exact g6, by rw [q2.2.2 f.slot (by simp [n1, n2])]; exact g7⟩
end StrChars.Road
namespace StrChars.Road
open Jvm Sem ClassFile Op Lib Jvm.Stand Jvm.Free Jvm.Free.XT
/-- WHAT COMES BACK, the byte[] as a list of values -/
def QA (Z : State) (x : Addr) (zn : Int32) (cs : List Int32) (h : Heap) (v : Option Value) (h' : Heap) (L : List Loc) : Prop := v = none ∧ (∀ y ∈ L, y.base = x) ∧ RoadKit.Keep h h' [x] ∧ h'.size = h.size + 1 ∧ RoadKit.Exa Z h' x ST ∧ RoadKit.Fld Z h' x ST "value" "[B" (.ref h.size) ∧ RoadKit.Fld Z h' x ST "coder" "B" (.int 0) ∧
  (∃ kb, Z.vm.findClass "[B" = some kb ∧ RoadKit.Arv Z h' h.size kb .byte zn (cs.map fun c => .int (lo8 c)) (.int 0)) ∧
  ∀ (O n d : String) (w : Value), RoadKit.Fld Z h x O n d w → RoadKit.slotOf Z O n d ≠ RoadKit.slotOf Z ST "value" "[B" → RoadKit.slotOf Z O n d ≠ RoadKit.slotOf Z ST "coder" "B" → RoadKit.Fld Z h' x O n d w
/-- **new String(chars) AT A CALL, THE ARRAYS AS LISTS**: the char[] at b holds cs, not empty, no char above 255 -/
theorem backArv {p : Program} {l : Launch} {e : Env} {R : Room} {s : State} {args : Array Value} {below : List Frame} {len W : Nat} {Z : State} {a0 : Array Value} {h : Heap} (hZ : Z.Warmed39 s.vm) (hw : ∀ d ∈ words, d.before a0 Z = true) {kI : Nat} (wi : (Jvm.Cond.instantiable ST kI).before a0 Z = true)
    {x b : Addr} {k : ClassId} {zn z : Int32} {cs : List Int32} {dv v0 c0 : Value} (E : RoadKit.Exa Z h x ST) (V : RoadKit.Fld Z h x ST "value" "[B" v0) (C : RoadKit.Fld Z h x ST "coder" "B" c0) (K : RoadKit.Arv Z h b k .char zn (cs.map Value.int) dv) (S : RoadKit.Sta Z h ST "COMPACT_STRINGS" "Z" (.int z)) (hz : ¬ z = 0)
    (hlen : zn.toNatClampNeg = cs.length) (h0 : 0 < cs.length) (hbig : cs.length ≤ 536870912) (hall : ∀ c ∈ cs, ¬ 255 < c) (hfr : 4 ≤ R.frames) (hlo : W + 65 ≤ R.locals) :
    Back l R p e below s args New1.yN len W (fun P a => a = #[.ref x, .ref b] ∧ P.U.heap = h ∧ P.cells + 1 ≤ R.cells ∧ P.slots + cs.length ≤ R.slots)
      (fun P _ v B => ∃ L, QA Z x zn cs h v B.U.heap L ∧ B.locs = P.locs ++ L ∧ B.cells = P.cells + 1 ∧ B.slots = P.slots + cs.length) := by
  obtain ⟨A, K1, K2, K3, K4, K5, K6⟩ := K
  have e : A.slots.size = cs.length := K3.trans hlen
  have hat : ∀ (i : Nat) (hi : i < cs.length), A.slots[i]? = some (.int cs[i]) := fun i hi => by rw [K5 i (by omega)]; simp [List.getD_eq_getElem?_getD, hi]
  have hcv : ∀ (i : Nat) (hi : i < cs.length), cv A i = cs[i] := fun i hi => by unfold cv; rw [hat i hi]
  have hty : Typed .char A := fun i v hv => by
    have hi : i < A.slots.size := (Array.getElem?_eq_some_iff.mp hv).1
    have q := K5 i hi
    rw [hv] at q
    rw [Option.some.inj q]
    exact K6 i hi
  refine Back.mono (back hZ hw wi E V C K1 hty S hz (by omega) (by omega) (fun i hi => by rw [hcv i (by omega)]; exact hall _ (List.getElem_mem _)) hfr hlo) (fun P a hp => ⟨hp.1, hp.2.1, hp.2.2.1, by rw [e]; exact hp.2.2.2⟩) (fun P a v B hp hq => ?_)
  obtain ⟨L, ⟨q1, q2, q3, q4, q5, q6, q7, ⟨V', v1, v2, v3, v4, v5⟩, q9⟩, hl, hc, hs⟩ := hq
  refine ⟨L, ⟨q1, q2, q3, q4, q5, q6, q7, ⟨V'.cls, v3, V', v1, rfl, by rw [v4, e, hlen], K4, fun i hi => ?_, fun i hi => ?_⟩, q9⟩, hl, hc, by rw [hs, e]⟩
  · have hi' : i < cs.length := by omega
    rw [v5 i (by omega), hcv i hi']; simp [List.getD_eq_getElem?_getD, hi']
  · have hi' : i < cs.length := by omega
    simp only [List.getD_eq_getElem?_getD, List.getElem?_map, List.getElem?_eq_getElem hi', Option.map_some, Option.getD_some]
    exact fits_lo8 _
end StrChars.Road
namespace StrChars.Road
open Jvm Sem ClassFile Op Lib Jvm.Stand Jvm.Free Jvm.Free.XT
/-- WHAT COMES BACK, in the writer's own shape -/
def QV (Z : State) (x : Addr) (N : Int32) (bs : List Int32) (h : Heap) (n0 : Nat) (v : Option Value) (h' : Heap) (L : List Loc) : Prop := v = none ∧ RoadKit.Fr n0 L ∧ RoadKit.Keep h h' [x] ∧ RoadKit.Exa Z h' x ST ∧ RoadKit.Fld Z h' x ST "coder" "B" (.int 0) ∧
  ∃ (t : Addr) (kb : ClassId), n0 ≤ t ∧ h.size ≤ t ∧ ¬ t = x ∧ RoadKit.Fld Z h' x ST "value" "[B" (.ref t) ∧ RoadKit.Arv Z h' t kb .byte N (bs.map Value.int) (.int 0)
/-- **new String(chars) AT A CALL, FOR THE WRITER**: a char[] of n known ints, each 0 to 255 -/
theorem backV {p : Program} {l : Launch} {e : Env} {R : Room} {s : State} {args : Array Value} {below : List Frame} {len W : Nat} {Z : State} {a0 : Array Value} {h : Heap} (hZ : Z.Warmed39 s.vm) (hw : ∀ d ∈ words, d.before a0 Z = true) {kI : Nat} (wi : (Jvm.Cond.instantiable ST kI).before a0 Z = true)
    {x b : Addr} {kC : ClassId} {cs bs : List Int32} {d v0 c0 : Value} {z N : Int32} {n n0 : Nat} (hx0 : n0 ≤ x) (hh0 : n0 ≤ h.size) (E : RoadKit.Exa Z h x ST) (V : RoadKit.Fld Z h x ST "value" "[B" v0) (C : RoadKit.Fld Z h x ST "coder" "B" c0) (K : RoadKit.Arv Z h b kC .char N (cs.map Value.int) d) (S : RoadKit.Sta Z h ST "COMPACT_STRINGS" "Z" (.int z)) (hz : ¬ z = 0)
    (hn : cs.length = n) (hN : N = Int32.ofNat n) (l0 : 0 < n) (l2 : n ≤ 4000) (hp : ∀ c ∈ cs, ¬ c < 0 ∧ ¬ (255 : Int32) < c) (hb : bs = cs.map (fun c => c.toInt8.toInt32)) (hfr : 4 ≤ R.frames) (hlo : W + 65 ≤ R.locals) :
    Back l R p e below s args (⟨"java/lang/String", "<init>", "([C)V"⟩ : MethodName) len W (fun P a => a = #[.ref x, .ref b] ∧ P.U.heap = h ∧ P.cells + 1 ≤ R.cells ∧ P.slots + n ≤ R.slots)
      (fun P _ v B => ∃ L, QV Z x N bs h n0 v B.U.heap L ∧ B.locs = P.locs ++ L ∧ B.cells = P.cells + 1 ∧ B.slots = P.slots + n) := by
  subst hn hN hb
  refine Back.mono (backArv hZ hw wi E V C K S hz (n32 (by omega)) l0 (by omega) (fun c hc => (hp c hc).2) hfr hlo) (fun P a hp => hp) (fun P a v B hp hq => ?_)
  obtain ⟨L, ⟨q1, q2, q3, q4, q5, q6, q7, ⟨kb, v1, v2⟩, q9⟩, hl, hc, hs⟩ := hq
  exact ⟨L, ⟨q1, fun y hy => by rw [q2 y hy]; exact hx0, q3, q5, q7, h.size, kb, hh0, Nat.le_refl _, Nat.ne_of_gt E.lt, q6, by rw [List.map_map]; exact v2⟩, hl, hc, hs⟩
end StrChars.Road
namespace StrChars
open Jvm Sem ClassFile Op Lib Jvm.Stand Jvm.Free.XT Jvm.Free.ALB Jvm.Free.JM Jvm.Free
open Jvm.Lib.Cold (StaticIs)
def hi8 (x : Int32) : Int32 := lo8 (x >>> ((8 : Int32) &&& 31))
/-- what StringUTF16.getChar makes of two bytes -/
def pairCh (u v : Int32) : Int32 := (((u &&& 255) <<< ((0 : Int32) &&& 31)) ||| ((v &&& 255) <<< ((8 : Int32) &&& 31))).toUInt32.toUInt16.toUInt32.toInt32
theorem lo8_and (x : Int32) : (lo8 x &&& 255).toBitVec.toNat = x.toBitVec.toNat % 256 := by
  have h : (lo8 x).toBitVec = (x.toBitVec.signExtend 8).signExtend 32 := by rw [lo8, Int8.toBitVec_toInt32, Int32.toBitVec_toInt8]
  rw [Int32.toBitVec_and, BitVec.toNat_and, h]
  have e : ((x.toBitVec.signExtend 8).signExtend 32).toNat % 256 = x.toBitVec.toNat % 256 := by
    rw [BitVec.toNat_signExtend]
    have hlt := x.toBitVec.isLt
    simp only [BitVec.toNat_setWidth, BitVec.toNat_signExtend]
    split <;> split <;> omega
  rw [← e]
  exact Nat.and_two_pow_sub_one_eq_mod _ 8
theorem pair_says {c : Int32} (h0 : ¬ c < 0) (h1 : ¬ 65535 < c) : pairCh (lo8 c) (hi8 c) = c := by
  rw [Int32.lt_iff_toInt_lt] at h0 h1
  have e0 : (0 : Int32).toInt = 0 := rfl
  have e1 : (65535 : Int32).toInt = 65535 := rfl
  have hc : c.toInt = c.toBitVec.toNat := by
    have := c.toBitVec.isLt
    have e : c.toInt = c.toBitVec.toInt := rfl
    rw [e] at h0 h1
    rw [e]
    rw [BitVec.toInt_eq_toNat_cond] at h0 h1 ⊢
    split at h0 <;> split <;> omega
  have hn : c.toBitVec.toNat < 65536 := by omega
  have a1 := lo8_and c
  have a2 : (hi8 c &&& 255).toBitVec.toNat = c.toBitVec.toNat / 256 := by
    rw [hi8, lo8_and]
    have e : ((8 : Int32) &&& 31) = 8 := by decide
    rw [e, Int32.toBitVec_shiftRight]
    have e2 : ((8 : Int32).toBitVec.smod 32) = 8#32 := by decide
    rw [e2, BitVec.sshiftRight_eq', BitVec.toNat_sshiftRight_of_msb_false (by rw [BitVec.msb_eq_false_iff_two_mul_lt]; omega)]
    show c.toBitVec.toNat >>> 8 % 256 = _
    rw [Nat.shiftRight_eq_div_pow]
    omega
  unfold pairCh
  apply Int32.toBitVec_inj.mp
  apply BitVec.eq_of_toNat_eq
  have f0 : ((0 : Int32) &&& 31) = 0 := by decide
  have f8 : ((8 : Int32) &&& 31) = 8 := by decide
  rw [f0, f8]
  have g : (((lo8 c &&& 255) <<< (0 : Int32)) ||| ((hi8 c &&& 255) <<< (8 : Int32))).toBitVec.toNat = c.toBitVec.toNat := by
    rw [Int32.toBitVec_or, Int32.toBitVec_shiftLeft, Int32.toBitVec_shiftLeft]
    have s0 : ((0 : Int32).toBitVec.smod 32) = 0#32 := by decide
    have s8 : ((8 : Int32).toBitVec.smod 32) = 8#32 := by decide
    rw [s0, s8, BitVec.toNat_or]
    simp only [BitVec.shiftLeft_eq', BitVec.toNat_shiftLeft, a1, a2]
    show (c.toBitVec.toNat % 256) <<< 0 % 2 ^ 32 ||| (c.toBitVec.toNat / 256) <<< 8 % 2 ^ 32 = _
    rw [Nat.shiftLeft_zero, Nat.mod_eq_of_lt (show c.toBitVec.toNat % 256 < 2 ^ 32 by omega), Nat.mod_eq_of_lt (show (c.toBitVec.toNat / 256) <<< 8 < 2 ^ 32 by rw [Nat.shiftLeft_eq]; omega), Nat.or_comm, ← Nat.shiftLeft_add_eq_or_of_lt (by omega), Nat.shiftLeft_eq]
    omega
  show BitVec.toNat (((((lo8 c &&& 255) <<< (0 : Int32)) ||| ((hi8 c &&& 255) <<< (8 : Int32))).toBitVec.setWidth 16).setWidth 32) = _
  rw [BitVec.toNat_setWidth, BitVec.toNat_setWidth, g]
  omega
end StrChars
namespace StrChars
open Jvm Sem ClassFile Op Lib Jvm.Stand Jvm.Free.XT Jvm.Free.ALB Jvm.Free.JM Jvm.Free
open Jvm.Lib.Cold (StaticIs)
/-- the array's cell V codes the n chars f 0 .. f (n - 1) by the coder cd, as the JDK does: coder 1 just where some char is above 255 -/
def Cod (cd : Int32) (n : Nat) (f : Nat → Int32) (V : Cell) : Prop := (cd = 0 ∧ V.slots.size = n ∧ ∀ j, j < n → V.slots[j]? = some (.int (lo8 (f j))) ∧ ¬ 255 < f j) ∨ (cd = 1 ∧ V.slots.size = 2 * n ∧ (∀ j, j < n → V.slots[2 * j]? = some (.int (lo8 (f j))) ∧ V.slots[2 * j + 1]? = some (.int (hi8 (f j)))) ∧ ∃ j, j < n ∧ 255 < f j)
/-- **x is a String of the n chars f 0 .. f (n - 1)**, Latin-1 or UTF-16; its array at t has the cell V -/
def Txt (x t : Addr) (V : Cell) (cd : Int32) (n : Nat) (f : Nat → Int32) (U : State) : Prop := Exact "java/lang/String" x U ∧ Has x "java/lang/String" "value" "[B" (.ref t) U ∧ Has x "java/lang/String" "coder" "B" (.int cd) U ∧ XT.Arr .byte t V U ∧ Cod cd n f V ∧ ∀ j, j < n → ¬ f j < 0 ∧ ¬ 65535 < f j
theorem Txt.mv {x t : Addr} {V : Cell} {cd : Int32} {n : Nat} {f : Nat → Int32} {U U' : State} (h : Txt x t V cd n f U) (hal : U.vm.Alike U'.vm) (hh : U'.heap = U.heap) : Txt x t V cd n f U' := ⟨h.1.mv hal hh, h.2.1.mv hal hh, h.2.2.1.mv hal hh, h.2.2.2.1.mv hal hh, h.2.2.2.2⟩
end StrChars
namespace StrChars.Road
open Jvm Sem ClassFile Op Lib Jvm.Stand Jvm.Free Jvm.Free.XT
open Jvm.Lib.Cold (StaticIs)
theorem consq {a : Array Value} {s : State} {c : Jvm.Cond} {L : List Jvm.Cond} (h0 : c.before a s = true) (h : ∀ w ∈ L, w.before a s = true) : ∀ w ∈ c :: L, w.before a s = true := fun w hw => (List.mem_cons.mp hw).elim (fun e => e ▸ h0) (h w)
/-- the bytes of the chars cs, low before high -/
def wideBytes : List Int32 → List Value
  | [] => []
  | c :: cs => .int (lo8 c) :: .int (hi8 c) :: wideBytes cs
theorem wide_lo (d : Value) : ∀ (cs : List Int32) (j : Nat), j < cs.length → (wideBytes cs).getD (2 * j) d = .int (lo8 (cs.getD j 0))
  | [], j, h => absurd h (Nat.not_lt_zero j)
  | c :: cs, 0, _ => rfl
  | c :: cs, j + 1, h => by
    have q := wide_lo d cs j (by simpa using h)
    rw [show 2 * (j + 1) = 2 * j + 1 + 1 from by omega]
    simpa [wideBytes] using q
theorem wide_hi (d : Value) : ∀ (cs : List Int32) (j : Nat), j < cs.length → (wideBytes cs).getD (2 * j + 1) d = .int (hi8 (cs.getD j 0))
  | [], j, h => absurd h (Nat.not_lt_zero j)
  | c :: cs, 0, _ => rfl
  | c :: cs, j + 1, h => by
    have q := wide_hi d cs j (by simpa using h)
    rw [show 2 * (j + 1) + 1 = 2 * j + 1 + 1 + 1 from by omega]
    simpa [wideBytes] using q
theorem low_at (d : Value) (cs : List Int32) (j : Nat) (h : j < cs.length) : (cs.map fun c => Value.int (lo8 c)).getD j d = .int (lo8 (cs.getD j 0)) := by
  simp [List.getD_eq_getElem?_getD, h]
/-- an array of N2 bytes vs codes the chars cs by the coder cd -/
def CodA (cs : List Int32) (cd N2 : Int32) (vs : List Value) : Prop := (cd = 0 ∧ N2 = Int32.ofNat cs.length ∧ vs = (cs.map fun c => Value.int (lo8 c)) ∧ ∀ c ∈ cs, ¬ 255 < c) ∨ (cd = 1 ∧ N2 = Int32.ofNat (2 * cs.length) ∧ vs = wideBytes cs ∧ ∃ c ∈ cs, 255 < c)
theorem CodA.cod {cs : List Int32} {cd N2 : Int32} {vs : List Value} {V : Cell} (h : CodA cs cd N2 vs) (hn : 2 * cs.length < 2 ^ 31) (hs : V.slots.size = N2.toNatClampNeg) (hv : RoadKit.Has V vs (.int 0)) : Cod cd cs.length (fun j => cs.getD j 0) V := by
  rcases h with ⟨rfl, rfl, rfl, h⟩ | ⟨rfl, rfl, rfl, c, hc, hw⟩
  · rw [n32 (by omega)] at hs
    exact Or.inl ⟨rfl, hs, fun j hj => ⟨by rw [hv j (by omega), low_at _ _ _ hj], by
      have e : cs.getD j 0 = cs[j] := by simp [List.getD_eq_getElem?_getD, hj]
      show ¬ 255 < cs.getD j 0
      rw [e]; exact h _ (List.getElem_mem _)⟩⟩
  · rw [n32 (by omega)] at hs
    obtain ⟨j, hj, rfl⟩ := List.getElem_of_mem hc
    exact Or.inr ⟨rfl, hs, fun j hj => ⟨by rw [hv _ (by omega), wide_lo _ _ _ hj], by rw [hv _ (by omega), wide_hi _ _ _ hj]⟩, j, hj, by
      have e : cs.getD j 0 = cs[j] := by simp [List.getD_eq_getElem?_getD, hj]
      show 255 < cs.getD j 0
      rw [e]; exact hw⟩
/-- an object of exactly java/lang/String, its two fields found: as the laws ask it -/
theorem strObj {Z U : State} {a0 : Array Value} {kI : Nat} (wi : (Jvm.Cond.instantiable ST kI).before a0 Z = true) (al : Z.vm.Alike U.vm) {x : Addr} {v0 c0 : Value} (E : RoadKit.Exa Z U.heap x ST) (V : RoadKit.Fld Z U.heap x ST "value" "[B" v0) (C : RoadKit.Fld Z U.heap x ST "coder" "B" c0) :
    ∃ (D : Cell) (fV fC : Field), Blank ST x D U ∧ Found ST "value" "[B" fV U ∧ Found ST "coder" "B" fC U ∧ D.slots[fV.slot]? = some v0 ∧ D.slots[fC.slot]? = some c0 ∧ RoadKit.slotOf Z ST "value" "[B" = fV.slot ∧ RoadKit.slotOf Z ST "coder" "B" = fC.slot := by
  obtain ⟨D, cfV, kV, iV, fV, hD, gV, stV, knV, obV, asV, slV⟩ := V
  obtain ⟨D', cfC, kC, iC, fC, hD', gC, stC, -, -, asC, slC⟩ := C
  cases hD.symm.trans hD'
  obtain ⟨D2, kD, e1, e2, e3, e4, e5⟩ := E
  cases hD.symm.trans e1
  obtain ⟨c2, k2, i1, i2, i3, -⟩ := Cond.instantiable_spec wi
  cases e2.symm.trans i1
  cases e3.symm.trans i2
  obtain ⟨kU, u1, u2⟩ := al.2.2 _ _ e3
  exact ⟨D, fV, fC, ⟨hD, ⟨knV, fun q hq => by rw [hq] at obV; cases obV⟩, by rw [al.findClass]; exact e2, kU, u1, by rw [u2]; exact i3, by rw [u2]; exact e5 i3⟩, ⟨SBG.found_only al ⟨cfV, kV, iV, gV⟩, stV⟩, ⟨SBG.found_only al ⟨cfC, kC, iC, gC⟩, stC⟩, slV, slC, by simp [RoadKit.slotOf, gV], by simp [RoadKit.slotOf, gC]⟩
theorem sta_is {Z U : State} (al : Z.vm.Alike U.vm) {C n d : String} {v : Value} (S : RoadKit.Sta Z U.heap C n d v) : StaticIs U C n d v := by
  obtain ⟨cfS, iS, kS, fS, st, cS, t1, t2, t3, t4, t5, t6, t7⟩ := S
  exact StaticIs.there (s := { Z with heap := U.heap }) ⟨cfS, iS, kS, fS, st, cS, t1, t2, t3, t4, t5, (fun q => by rw [q] at t6; cases t6), t7⟩ al rfl
end StrChars.Road
namespace StrChars
open Jvm Sem ClassFile Op Lib Jvm.Stand Jvm.Free.XT Jvm.Free.ALB Jvm.Free.JM Jvm.Free
open Jvm.Lib.Cold (StaticIs)
/-- what place i of a byte[]'s cell holds -/
def yv (A : Cell) (i : Nat) : Int32 := match A.slots[i]? with | some (.int x) => x | _ => 0
theorem yv_get {a : Addr} {A : Cell} {U : State} (h : XT.Arr .byte a A U) (ht : Typed .byte A) {i : Nat} (hi : i < A.slots.size) : A.slots[i]? = some (.int (yv A i)) := by
  have e := Array.getElem?_eq_getElem hi
  have f := ht i _ e
  unfold yv; rw [e]
  generalize A.slots[i] = v at f
  cases v <;> simp [fits] at f ⊢
/-- the two arrays are equal, place for place -/
def EqC (A B : Cell) : Prop := A.slots.size = B.slots.size ∧ ∀ i, i < A.slots.size → yv A i = yv B i
/-- a boolean that says whether p -/
def Says01 (q : Prop) (r : Option Value) (s u : State) : Prop := ∃ v : Int32, r = some (.int v) ∧ u.heap = s.heap ∧ ((v = 1 ∧ q) ∨ (v = 0 ∧ ¬ q))
theorem Says01.mv {q : Prop} : ∀ r (U U' V V' : State), U'.heap = U.heap → V.vm.Alike V'.vm → V'.heap = V.heap → Says01 q r U V → Says01 q r U' V' :=
  fun r U U' V V' h1 _ h2 ⟨v, a, b, c⟩ => ⟨v, a, by rw [h1, h2]; exact b, c⟩
namespace LEq
def yN : MethodName := ⟨"java/lang/StringLatin1", "equals", "([B[B)Z"⟩
abbrev yB : ByteArray := jdk_43_method_13_code
theorem d0 : decode yB 0 = .ok (.aload_n 0, 1) := by decide +kernel
theorem d1 : decode yB 1 = .ok (.arraylength, 1) := by decide +kernel
theorem d2 : decode yB 2 = .ok (.aload_n 1, 1) := by decide +kernel
theorem d3 : decode yB 3 = .ok (.arraylength, 1) := by decide +kernel
theorem d4 : decode yB 4 = .ok (.if_icmp (.ne) 30, 3) := by decide +kernel
theorem d7 : decode yB 7 = .ok (.iconst 0, 1) := by decide +kernel
theorem d8 : decode yB 8 = .ok (.istore_n 2, 1) := by decide +kernel
theorem d9 : decode yB 9 = .ok (.iload_n 2, 1) := by decide +kernel
theorem d10 : decode yB 10 = .ok (.aload_n 0, 1) := by decide +kernel
theorem d11 : decode yB 11 = .ok (.arraylength, 1) := by decide +kernel
theorem d12 : decode yB 12 = .ok (.if_icmp (.ge) 20, 3) := by decide +kernel
theorem d15 : decode yB 15 = .ok (.aload_n 0, 1) := by decide +kernel
theorem d16 : decode yB 16 = .ok (.iload_n 2, 1) := by decide +kernel
theorem d17 : decode yB 17 = .ok (.baload, 1) := by decide +kernel
theorem d18 : decode yB 18 = .ok (.aload_n 1, 1) := by decide +kernel
theorem d19 : decode yB 19 = .ok (.iload_n 2, 1) := by decide +kernel
theorem d20 : decode yB 20 = .ok (.baload, 1) := by decide +kernel
theorem d21 : decode yB 21 = .ok (.if_icmp (.eq) 5, 3) := by decide +kernel
theorem d24 : decode yB 24 = .ok (.iconst 0, 1) := by decide +kernel
theorem d25 : decode yB 25 = .ok (.ireturn, 1) := by decide +kernel
theorem d26 : decode yB 26 = .ok (.iinc 2 1, 3) := by decide +kernel
theorem d29 : decode yB 29 = .ok (.goto (-20), 3) := by decide +kernel
theorem d32 : decode yB 32 = .ok (.iconst 1, 1) := by decide +kernel
theorem d33 : decode yB 33 = .ok (.ireturn, 1) := by decide +kernel
theorem d34 : decode yB 34 = .ok (.iconst 0, 1) := by decide +kernel
theorem d35 : decode yB 35 = .ok (.ireturn, 1) := by decide +kernel
def site : List Cond := []
def tab : Cond := tabOf yN yB 3 (some .boolean) site
def P (a : Addr) (A : Cell) (b : Addr) (B : Cell) (args : Array Value) (s : State) : Prop := args = #[.ref a, .ref b] ∧ XT.Arr .byte a A s ∧ Typed .byte A ∧ XT.Arr .byte b B s ∧ Typed .byte B
/-- whether two byte[] are equal, place for place -/
theorem law (l : Launch) (a : Addr) (A : Cell) (b : Addr) (B : Cell) : Law l yN 2 2 0 0 yB 3 (some .boolean) site (P a A b B) (Says01 (EqC A B)) [] 0 0 := by
  refine Law.of_walk (plainFor_of_name (by decide +kernel)) (by decide +kernel) (by decide +kernel) (by decide) (fun _ _ h => by rw [h.1]; rfl) (fun _ U U' hal hh h => ⟨h.1, h.2.1.mv hal hh, h.2.2.1, h.2.2.2.1.mv hal hh, h.2.2.2.2⟩) (fun r U U' V V' h1 hal h2 h => Says01.mv r U U' V V' h1 hal h2 h) ?_
  intro p e s m args below meth c s₁ X0 hexec hbytes hml hret hlk hnm hown hh0 W hP
  obtain ⟨rfl, hA, tA, hB, tB⟩ := hP
  have a31 := hA.2.2.2
  have b31 := hB.2.2.2
  have hA0 := hA.mv X0.warmed.alike hh0
  have hB0 := hB.mv X0.warmed.alike hh0
  have c1 : Steps p.tables e below (s₁.setTop (entryFrame m #[.ref a, .ref b] 3)) (s₁.setTop (mkF m 0 #[.val (.ref a), .val (.ref b), .unset] [])) := entry rfl
  have c2 : Steps p.tables e below (s₁.setTop (entryFrame m #[.ref a, .ref b] 3)) (s₁.setTop (mkF m 4 #[.val (.ref a), .val (.ref b), .unset] [.int (Int32.ofNat B.slots.size), .int (Int32.ofNat A.slots.size)])) := c1.trans (by
    refine XS.aloadN X0.here hexec rfl (hb hbytes d0) rfl rfl ?_
    refine X0.alen hexec hA0 rfl rfl (hb hbytes d1) ?_
    refine XS.aloadN X0.here hexec rfl (hb hbytes d2) rfl rfl ?_
    refine X0.alen hexec hB0 rfl rfl (hb hbytes d3) ?_
    exact Steps.refl _)
  by_cases hs : A.slots.size = B.slots.size
  · have c3 : Steps p.tables e below (s₁.setTop (entryFrame m #[.ref a, .ref b] 3)) (s₁.setTop (mkF m 9 #[.val (.ref a), .val (.ref b), .val (.int 0)] [])) := c2.trans (by
      refine XS.icmpNo X0.here hexec rfl (hb hbytes d4) rfl (ii_ne_f (by rw [hs])) ?_
      refine iconstV X0.here hexec rfl 0 (hb hbytes d7) (by decide) ?_
      refine XS.istoreN X0.here hexec rfl (hb hbytes d8) rfl rfl ?_
      exact Steps.refl _)
    have loop : ∀ (r i : Nat), i + r = A.slots.size → (∀ j, j < i → yv A j = yv B j) → Steps p.tables e below (s₁.setTop (entryFrame m #[.ref a, .ref b] 3)) (s₁.setTop (mkF m 9 #[.val (.ref a), .val (.ref b), .val (.int (Int32.ofNat i))] [])) → ∃ (pc : Nat) (Ls : Array Slot) (v : Int32), (pc = 25 ∨ pc = 33) ∧ ((v = 1 ∧ EqC A B) ∨ (v = 0 ∧ ¬ EqC A B)) ∧ Steps p.tables e below (s₁.setTop (entryFrame m #[.ref a, .ref b] 3)) (s₁.setTop (mkF m pc Ls [.int v])) := by
      intro r
      induction r with
      | zero =>
        intro i hi he cl
        exact ⟨33, _, 1, Or.inr rfl, Or.inl ⟨rfl, hs, fun j hj => he j (by omega)⟩, cl.trans (by
          refine XS.iloadN X0.here hexec rfl (hb hbytes d9) rfl ?_
          refine XS.aloadN X0.here hexec rfl (hb hbytes d10) rfl rfl ?_
          refine X0.alen hexec hA0 rfl rfl (hb hbytes d11) ?_
          refine XS.icmpYes X0.here hexec rfl (pc0 := 12) rfl (hb hbytes d12) rfl (ii_ge_t (nlt32 (by omega) (by omega))) (by decide) rfl ?_
          refine iconstV X0.here hexec rfl 1 (hb hbytes d32) (by decide) ?_
          exact Steps.refl _)⟩
      | succ r ih =>
        intro i hi he cl
        have c4 : Steps p.tables e below (s₁.setTop (entryFrame m #[.ref a, .ref b] 3)) (s₁.setTop (mkF m 21 #[.val (.ref a), .val (.ref b), .val (.int (Int32.ofNat i))] [.int (yv B i), .int (yv A i)])) := cl.trans (by
          refine XS.iloadN X0.here hexec rfl (hb hbytes d9) rfl ?_
          refine XS.aloadN X0.here hexec rfl (hb hbytes d10) rfl rfl ?_
          refine X0.alen hexec hA0 rfl rfl (hb hbytes d11) ?_
          refine XS.icmpNo X0.here hexec rfl (hb hbytes d12) rfl (ii_ge_f (lt32 (by omega) (by omega))) ?_
          refine XS.aloadN X0.here hexec rfl (hb hbytes d15) rfl rfl ?_
          refine XS.iloadN X0.here hexec rfl (hb hbytes d16) rfl ?_
          refine X0.aget hexec hA0 rfl (yv_get hA tA (i := i) (by omega)) rfl rfl (hb hbytes d17) ?_
          refine XS.aloadN X0.here hexec rfl (hb hbytes d18) rfl rfl ?_
          refine XS.iloadN X0.here hexec rfl (hb hbytes d19) rfl ?_
          refine X0.aget hexec hB0 rfl (yv_get hB tB (i := i) (by omega)) rfl rfl (hb hbytes d20) ?_
          exact Steps.refl _)
        by_cases hv : yv A i = yv B i
        · have c5 : Steps p.tables e below (s₁.setTop (entryFrame m #[.ref a, .ref b] 3)) (s₁.setTop (mkF m 9 #[.val (.ref a), .val (.ref b), .val (.int (Int32.ofNat i + 1))] [])) := c4.trans (by
            refine XS.icmpYes X0.here hexec rfl (pc0 := 21) rfl (hb hbytes d21) rfl (ii_eq_t hv) (by decide) rfl ?_
            refine iincV X0.here hexec rfl 1 (hb hbytes d26) (by decide) rfl rfl ?_
            refine XS.goto X0.here hexec rfl (pc0 := 29) rfl (hb hbytes d29) (by decide) rfl ?_
            exact Steps.refl _)
          rw [succ32] at c5
          exact ih (i + 1) (by omega) (fun j hj => by
            by_cases e : j = i
            · rw [e]; exact hv
            · exact he j (by omega)) c5
        · exact ⟨25, _, 0, Or.inl rfl, Or.inr ⟨rfl, fun q => hv (q.2 i (by omega))⟩, c4.trans (by
            refine XS.icmpNo X0.here hexec rfl (hb hbytes d21) rfl (ii_eq_f hv) ?_
            refine iconstV X0.here hexec rfl 0 (hb hbytes d24) (by decide) ?_
            exact Steps.refl _)⟩
    obtain ⟨pc, Ls, v, hpc, hv, cz⟩ := loop A.slots.size 0 (by omega) (fun j hj => absurd hj (Nat.not_lt_zero j)) c3
    have nv : narrow .boolean (.int v) = .int v := by rcases hv with ⟨rfl, -⟩ | ⟨rfl, -⟩ <;> rfl
    rcases hpc with rfl | rfl
    · exact ⟨s₁, some (.int v), _, _, _, X0, rfl, rfl, rfl, (fun h => by cases h), ⟨v, rfl, hh0, hv⟩, fun fs hl => cz.trans (X0.ireturnOut hexec hret nv (Or.inr (Or.inl rfl)) (hb hbytes d25) hl)⟩
    · exact ⟨s₁, some (.int v), _, _, _, X0, rfl, rfl, rfl, (fun h => by cases h), ⟨v, rfl, hh0, hv⟩, fun fs hl => cz.trans (X0.ireturnOut hexec hret nv (Or.inr (Or.inl rfl)) (hb hbytes d33) hl)⟩
  · have c3 : Steps p.tables e below (s₁.setTop (entryFrame m #[.ref a, .ref b] 3)) (s₁.setTop (mkF m 35 #[.val (.ref a), .val (.ref b), .unset] [.int 0])) := c2.trans (by
      refine XS.icmpYes X0.here hexec rfl (pc0 := 4) rfl (hb hbytes d4) rfl (ii_ne_t (ne32 a31 b31 hs)) (by decide) rfl ?_
      refine iconstV X0.here hexec rfl 0 (hb hbytes d34) (by decide) ?_
      exact Steps.refl _)
    exact ⟨s₁, some (.int 0), _, _, _, X0, rfl, rfl, rfl, (fun h => by cases h), ⟨0, rfl, hh0, Or.inr ⟨rfl, fun q => hs q.1⟩⟩, fun fs hl => c3.trans (X0.ireturnOut hexec hret rfl (Or.inr (Or.inl rfl)) (hb hbytes d35) hl)⟩
end LEq
theorem Cod.ty {cd : Int32} {n : Nat} {f : Nat → Int32} {V : Cell} (h : Cod cd n f V) : Typed .byte V := fun i v hv => by
  have hi : i < V.slots.size := (Array.getElem?_eq_some_iff.mp hv).1
  rcases h with ⟨-, k1, k2⟩ | ⟨-, k1, k2, -⟩
  · rw [(k2 i (by omega)).1] at hv; cases hv; exact fits_lo8 _
  · rcases Nat.mod_two_eq_zero_or_one i with e | e
    · obtain ⟨j, rfl⟩ : ∃ j, i = 2 * j := ⟨i / 2, by omega⟩
      rw [(k2 j (by omega)).1] at hv; cases hv; exact fits_lo8 _
    · obtain ⟨j, rfl⟩ : ∃ j, i = 2 * j + 1 := ⟨i / 2, by omega⟩
      rw [(k2 j (by omega)).2] at hv; cases hv; exact fits_lo8 _
/-- the same text -/
def SameT (n : Nat) (f : Nat → Int32) (k : Nat) (g : Nat → Int32) : Prop := n = k ∧ ∀ j, j < n → f j = g j
theorem lo8_inj {x y : Int32} (h0 : ¬ x < 0) (h1 : ¬ 255 < x) (k0 : ¬ y < 0) (k1 : ¬ 255 < y) (h : lo8 x = lo8 y) : x = y := by
  rw [← lo8_mask h0 h1, ← lo8_mask k0 k1, h]
/-- arrays coded by one coder are equal just where the texts are -/
theorem Cod.eqv {cd : Int32} {n k : Nat} {f g : Nat → Int32} {V V' : Cell} (h : Cod cd n f V) (h' : Cod cd k g V') (hf : ∀ j, j < n → ¬ f j < 0 ∧ ¬ 65535 < f j) (hg : ∀ j, j < k → ¬ g j < 0 ∧ ¬ 65535 < g j) : EqC V V' ↔ SameT n f k g := by
  have yvv : ∀ {W : Cell} {i : Nat} {x : Int32}, W.slots[i]? = some (.int x) → yv W i = x := fun q => by unfold yv; rw [q]
  rcases h with ⟨rfl, k1, k2⟩ | ⟨rfl, k1, k2, -⟩
  · rcases h' with ⟨-, m1, m2⟩ | ⟨e, -⟩
    · constructor
      · rintro ⟨e1, e2⟩
        refine ⟨by omega, fun j hj => ?_⟩
        have q := e2 j (by omega)
        rw [yvv (k2 j hj).1, yvv (m2 j (by omega)).1] at q
        exact lo8_inj (hf j hj).1 (k2 j hj).2 (hg j (by omega)).1 (m2 j (by omega)).2 q
      · rintro ⟨rfl, e2⟩
        refine ⟨by omega, fun j hj => ?_⟩
        rw [yvv (k2 j (by omega)).1, yvv (m2 j (by omega)).1, e2 j (by omega)]
    · exact absurd e (by decide)
  · rcases h' with ⟨e, -⟩ | ⟨-, m1, m2, -⟩
    · exact absurd e (by decide)
    · constructor
      · rintro ⟨e1, e2⟩
        refine ⟨by omega, fun j hj => ?_⟩
        have q1 := e2 (2 * j) (by omega)
        have q2 := e2 (2 * j + 1) (by omega)
        rw [yvv (k2 j hj).1, yvv (m2 j (by omega)).1] at q1
        rw [yvv (k2 j hj).2, yvv (m2 j (by omega)).2] at q2
        rw [← pair_says (hf j hj).1 (hf j hj).2, ← pair_says (hg j (by omega)).1 (hg j (by omega)).2, q1, q2]
      · rintro ⟨rfl, e2⟩
        refine ⟨by omega, fun i hi => ?_⟩
        rcases Nat.mod_two_eq_zero_or_one i with e | e
        · obtain ⟨j, rfl⟩ : ∃ j, i = 2 * j := ⟨i / 2, by omega⟩
          rw [yvv (k2 j (by omega)).1, yvv (m2 j (by omega)).1, e2 j (by omega)]
        · obtain ⟨j, rfl⟩ : ∃ j, i = 2 * j + 1 := ⟨i / 2, by omega⟩
          rw [yvv (k2 j (by omega)).2, yvv (m2 j (by omega)).2, e2 j (by omega)]
/-- two codings differ: so do the texts -/
theorem Cod.dif {cd cd' : Int32} {n k : Nat} {f g : Nat → Int32} {V V' : Cell} (h : Cod cd n f V) (h' : Cod cd' k g V') (hne : ¬ cd = cd') : ¬ SameT n f k g := by
  rintro ⟨rfl, e⟩
  rcases h with ⟨rfl, -, k2⟩ | ⟨rfl, -, -, j, hj, hw⟩
  · rcases h' with ⟨rfl, -⟩ | ⟨-, -, -, j, hj, hw⟩
    · exact hne rfl
    · exact (k2 j hj).2 (by rw [e j hj]; exact hw)
  · rcases h' with ⟨-, -, m2⟩ | ⟨rfl, -⟩
    · exact (m2 j hj).2 (by rw [← e j hj]; exact hw)
    · exact hne rfl
/-- an object of exactly C is an instance of C -/
theorem cinst {p : Program} {l : Launch} {e : Env} {R : Room} {s : State} {m : MethodId} {args : Array Value} {below : List Frame} {meth : Method} {c : Code} {T : State} {locs : List Loc} {cells slots : Nat} (X : Stand p l e R s m args below meth c T locs cells slots) (hexec : p.tables.exec = Jvm.exec) {own C : String} {index : Nat} (hown : s.vm.findClass own = some m.cls) (hlink : (Cond.classLink own index C).before args s = true) {a : Addr} (hE : Exact C a T)
    {g : JFrame} (hg : g.method = m) {rest : List Value} (hstack : g.stack = .ref a :: rest) (hdg : decode c.code g.pc = .ok (.instanceof index, 3)) :
    ∃ T', Stand p l e R s m args below meth c T' locs cells slots ∧ T'.heap = T.heap ∧ ∀ target, Steps p.tables e below (T'.setTop { g with pc := g.pc + 3, stack := .int 1 :: rest }) target → Steps p.tables e below (T.setTop g) target := by
  obtain ⟨cB, h1, D, h2, h3, h4⟩ := hE
  have h1' : s.vm.findClass C = some cB := by rw [← X.warmed.alike.findClass]; exact h1
  obtain ⟨vm', X', st⟩ := X.instanceofYes hexec hown hlink h2 h4 h1' (by rw [h3]; exact Jvm.Free.SB.assignable_self _ _) hg hstack hdg
  exact ⟨_, X', rfl, st⟩
theorem cself {p : Program} {l : Launch} {e : Env} {R : Room} {s : State} {m : MethodId} {args : Array Value} {below : List Frame} {meth : Method} {c : Code} {T : State} {locs : List Loc} {cells slots : Nat} (X : Stand p l e R s m args below meth c T locs cells slots) (hexec : p.tables.exec = Jvm.exec) {own C : String} {index : Nat} (hown : s.vm.findClass own = some m.cls) (hlink : (Cond.classLink own index C).before args s = true) {a : Addr} (hE : Exact C a T)
    {g : JFrame} (hg : g.method = m) {rest : List Value} (hstack : g.stack = .ref a :: rest) (hdg : decode c.code g.pc = .ok (.checkcast index, 3)) :
    ∃ T', Stand p l e R s m args below meth c T' locs cells slots ∧ T'.heap = T.heap ∧ ∀ target, Steps p.tables e below (T'.setTop { g with pc := g.pc + 3, stack := .ref a :: rest }) target → Steps p.tables e below (T.setTop g) target := by
  obtain ⟨cB, h1, D, h2, h3, h4⟩ := hE
  have h1' : s.vm.findClass C = some cB := by rw [← X.warmed.alike.findClass]; exact h1
  obtain ⟨vm', X', st⟩ := X.checkcastYes hexec hown hlink h2 h4 h1' (by rw [h3]; exact Jvm.Free.SB.assignable_self _ _) hg hstack hdg
  exact ⟨_, X', rfl, fun t h => st t (by rw [← hstack] at h; exact h)⟩
namespace SEq
def yN : MethodName := ⟨"java/lang/String", "equals", "(Ljava/lang/Object;)Z"⟩
abbrev yB : ByteArray := jdk_42_method_66_code
theorem d0 : decode yB 0 = .ok (.aload_n 0, 1) := by decide +kernel
theorem d1 : decode yB 1 = .ok (.aload_n 1, 1) := by decide +kernel
theorem d2 : decode yB 2 = .ok (.if_acmp (.ne) 5, 3) := by decide +kernel
theorem d5 : decode yB 5 = .ok (.iconst 1, 1) := by decide +kernel
theorem d6 : decode yB 6 = .ok (.ireturn, 1) := by decide +kernel
theorem d7 : decode yB 7 = .ok (.aload_n 1, 1) := by decide +kernel
theorem d8 : decode yB 8 = .ok (.instanceof 10, 3) := by decide +kernel
theorem d11 : decode yB 11 = .ok (.ifCond (.eq) 43, 3) := by decide +kernel
theorem d14 : decode yB 14 = .ok (.aload_n 1, 1) := by decide +kernel
theorem d15 : decode yB 15 = .ok (.checkcast 10, 3) := by decide +kernel
theorem d18 : decode yB 18 = .ok (.astore_n 2, 1) := by decide +kernel
theorem d19 : decode yB 19 = .ok (.getstatic 38, 3) := by decide +kernel
theorem d22 : decode yB 22 = .ok (.ifCond (.eq) 14, 3) := by decide +kernel
theorem d25 : decode yB 25 = .ok (.aload_n 0, 1) := by decide +kernel
theorem d26 : decode yB 26 = .ok (.getfield 15, 3) := by decide +kernel
theorem d29 : decode yB 29 = .ok (.aload_n 2, 1) := by decide +kernel
theorem d30 : decode yB 30 = .ok (.getfield 15, 3) := by decide +kernel
theorem d33 : decode yB 33 = .ok (.if_icmp (.ne) 21, 3) := by decide +kernel
theorem d36 : decode yB 36 = .ok (.aload_n 0, 1) := by decide +kernel
theorem d37 : decode yB 37 = .ok (.getfield 9, 3) := by decide +kernel
theorem d40 : decode yB 40 = .ok (.aload_n 2, 1) := by decide +kernel
theorem d41 : decode yB 41 = .ok (.getfield 9, 3) := by decide +kernel
theorem d44 : decode yB 44 = .ok (.invokestatic 541, 3) := by decide +kernel
theorem d47 : decode yB 47 = .ok (.ifCond (.eq) 7, 3) := by decide +kernel
theorem d50 : decode yB 50 = .ok (.iconst 1, 1) := by decide +kernel
theorem d51 : decode yB 51 = .ok (.goto 4, 3) := by decide +kernel
theorem d54 : decode yB 54 = .ok (.iconst 0, 1) := by decide +kernel
theorem d55 : decode yB 55 = .ok (.ireturn, 1) := by decide +kernel
def site : List Cond := [.classLink "java/lang/String" 10 "java/lang/String", .fieldLink "java/lang/String" 38 "java/lang/String" "COMPACT_STRINGS" "Z", .fieldLink "java/lang/String" 15 "java/lang/String" "coder" "B", .fieldLink "java/lang/String" 9 "java/lang/String" "value" "[B", LEq.tab] ++ staticW "java/lang/String" 541 LEq.yN
def tab : Cond := tabOf yN yB 3 (some .boolean) site
def P (x t : Addr) (V : Cell) (cd : Int32) (n : Nat) (f : Nat → Int32) (y t' : Addr) (V' : Cell) (cd' : Int32) (k : Nat) (g : Nat → Int32) (z : Int32) (args : Array Value) (s : State) : Prop := args = #[.ref x, .ref y] ∧ Txt x t V cd n f s ∧ Txt y t' V' cd' k g s ∧ StaticIs s "java/lang/String" "COMPACT_STRINGS" "Z" (.int z) ∧ ¬ z = 0
/-- equals(Object) of two Strings: whether the texts are the same -/
theorem law (l : Launch) (x t : Addr) (V : Cell) (cd : Int32) (n : Nat) (f : Nat → Int32) (y t' : Addr) (V' : Cell) (cd' : Int32) (k : Nat) (g : Nat → Int32) (z : Int32) : Law l yN 2 1 1 14 yB 3 (some .boolean) site (P x t V cd n f y t' V' cd' k g z) (Says01 (SameT n f k g)) [] 0 0 := by
  refine Law.of_walk (plainFor_of_name (by decide +kernel)) (by decide +kernel) (by decide +kernel) (by decide) (fun _ _ h => by rw [h.1]; rfl) (fun _ U U' hal hh h => ⟨h.1, h.2.1.mv hal hh, h.2.2.1.mv hal hh, h.2.2.2.1.there hal hh, h.2.2.2.2⟩) (fun r U U' V V' h1 hal h2 h => Says01.mv r U U' V V' h1 hal h2 h) ?_
  intro p e s m args below meth c s₁ X0 hexec hbytes hml hret hlk hnm hown hh0 W hP
  obtain ⟨rfl, hx, hy, s1, hz⟩ := hP
  have c1 : Steps p.tables e below (s₁.setTop (entryFrame m #[.ref x, .ref y] 3)) (s₁.setTop (mkF m 2 #[.val (.ref x), .val (.ref y), .unset] [.ref y, .ref x])) := Steps.trans (entry rfl) (by
    show Steps p.tables e below (s₁.setTop (mkF m 0 #[.val (.ref x), .val (.ref y), .unset] [])) _
    refine XS.aloadN X0.here hexec rfl (hb hbytes d0) rfl rfl ?_
    refine XS.aloadN X0.here hexec rfl (hb hbytes d1) rfl rfl ?_
    exact Steps.refl _)
  by_cases hxy : x = y
  · have c2 : Steps p.tables e below (s₁.setTop (entryFrame m #[.ref x, .ref y] 3)) (s₁.setTop (mkF m 6 #[.val (.ref x), .val (.ref y), .unset] [.int 1])) := c1.trans (by
      refine acmpNo X0.here hexec rfl (hb hbytes d2) rfl rfl rfl (by simp [acmp, hxy]) ?_
      refine iconstV X0.here hexec rfl 1 (hb hbytes d5) (by decide) ?_
      exact Steps.refl _)
    subst hxy
    have ec : cd = cd' := by
      obtain ⟨D, fd, a1, a2, a3⟩ := hx.2.2.1
      obtain ⟨D', fd', b1, b2, b3⟩ := hy.2.2.1
      cases a1.symm.trans b1
      obtain ⟨q1, q2, q3, q4⟩ := a2.1
      obtain ⟨r1, r2, r3, r4⟩ := b2.1
      cases q4.symm.trans r4
      cases a3.symm.trans b3; rfl
    have et : t = t' := by
      obtain ⟨D, fd, a1, a2, a3⟩ := hx.2.1
      obtain ⟨D', fd', b1, b2, b3⟩ := hy.2.1
      cases a1.symm.trans b1
      obtain ⟨q1, q2, q3, q4⟩ := a2.1
      obtain ⟨r1, r2, r3, r4⟩ := b2.1
      cases q4.symm.trans r4
      cases a3.symm.trans b3; rfl
    subst ec et
    have ev : V = V' := by cases hx.2.2.2.1.1.symm.trans hy.2.2.2.1.1; rfl
    subst ev
    have hs : SameT n f k g := (Cod.eqv hx.2.2.2.2.1 hy.2.2.2.2.1 hx.2.2.2.2.2 hy.2.2.2.2.2).mp ⟨rfl, fun _ _ => rfl⟩
    exact ⟨s₁, some (.int 1), _, _, _, X0, rfl, rfl, rfl, (fun h => by cases h), ⟨1, rfl, hh0, Or.inl ⟨rfl, hs⟩⟩, fun fs hl => c2.trans (X0.ireturnOut hexec hret rfl (Or.inr (Or.inl rfl)) (hb hbytes d6) hl)⟩
  · have c2 : Steps p.tables e below (s₁.setTop (entryFrame m #[.ref x, .ref y] 3)) (s₁.setTop (mkF m 8 #[.val (.ref x), .val (.ref y), .unset] [.ref y])) := c1.trans (by
      refine acmpYes X0.here hexec rfl (pc0 := 2) rfl (hb hbytes d2) rfl rfl rfl (by simp [acmp, hxy]) (by decide) rfl ?_
      refine XS.aloadN X0.here hexec rfl (hb hbytes d7) rfl rfl ?_
      exact Steps.refl _)
    obtain ⟨T3, X3, q3, st3⟩ := cinst X0 hexec hown (wk W (.classLink "java/lang/String" 10 "java/lang/String")) (hy.mv X0.warmed.alike hh0).1 (g := (mkF m 8 #[.val (.ref x), .val (.ref y), .unset] [.ref y])) rfl (rest := []) rfl (hb hbytes d8)
    have hh3 := q3.trans hh0
    have c4 : Steps p.tables e below (s₁.setTop (entryFrame m #[.ref x, .ref y] 3)) (T3.setTop (mkF m 15 #[.val (.ref x), .val (.ref y), .unset] [.ref y])) := (c2.trans (st3 _ (Steps.refl _))).trans (by
      refine XS.ifNo X3.here hexec rfl (hb hbytes d11) rfl (i0_eq_f (by decide)) ?_
      refine XS.aloadN X3.here hexec rfl (hb hbytes d14) rfl rfl ?_
      exact Steps.refl _)
    obtain ⟨T5, X5, q5, st5⟩ := cself X3 hexec hown (wk W (.classLink "java/lang/String" 10 "java/lang/String")) (hy.mv X3.warmed.alike hh3).1 (g := (mkF m 15 #[.val (.ref x), .val (.ref y), .unset] [.ref y])) rfl (rest := []) rfl (hb hbytes d15)
    have hh5 := q5.trans hh3
    have c6 : Steps p.tables e below (s₁.setTop (entryFrame m #[.ref x, .ref y] 3)) (T5.setTop (mkF m 19 #[.val (.ref x), .val (.ref y), .val (.ref y)] [])) := (c4.trans (st5 _ (Steps.refl _))).trans (by
      refine XS.astoreN X5.here hexec rfl (hb hbytes d18) rfl rfl rfl ?_
      exact Steps.refl _)
    obtain ⟨T7, X7, q7, st7⟩ := X5.sget hexec hown (wk W (.fieldLink "java/lang/String" 38 "java/lang/String" "COMPACT_STRINGS" "Z")) s1 (fun _ _ h => by rw [hh5]; exact h) (g := (mkF m 19 #[.val (.ref x), .val (.ref y), .val (.ref y)] [])) rfl (hb hbytes d19)
    have hh7 := q7.trans hh5
    have c8 : Steps p.tables e below (s₁.setTop (entryFrame m #[.ref x, .ref y] 3)) (T7.setTop (mkF m 26 #[.val (.ref x), .val (.ref y), .val (.ref y)] [.ref x])) := (c6.trans (st7 _ (Steps.refl _))).trans (by
      refine XS.ifNo X7.here hexec rfl (hb hbytes d22) rfl (i0_eq_f hz) ?_
      refine XS.aloadN X7.here hexec rfl (hb hbytes d25) rfl rfl ?_
      exact Steps.refl _)
    obtain ⟨T9, X9, q9, st9⟩ := X7.hget hexec hown (wk W (.fieldLink "java/lang/String" 15 "java/lang/String" "coder" "B")) (hx.mv X7.warmed.alike hh7).2.2.1 (g := (mkF m 26 #[.val (.ref x), .val (.ref y), .val (.ref y)] [.ref x])) rfl (rest := []) rfl (hb hbytes d26)
    have hh9 := q9.trans hh7
    have c10 : Steps p.tables e below (s₁.setTop (entryFrame m #[.ref x, .ref y] 3)) (T9.setTop (mkF m 30 #[.val (.ref x), .val (.ref y), .val (.ref y)] [.ref y, .int cd])) := (c8.trans (st9 _ (Steps.refl _))).trans (by
      refine XS.aloadN X9.here hexec rfl (hb hbytes d29) rfl rfl ?_
      exact Steps.refl _)
    obtain ⟨T11, X11, q11, st11⟩ := X9.hget hexec hown (wk W (.fieldLink "java/lang/String" 15 "java/lang/String" "coder" "B")) (hy.mv X9.warmed.alike hh9).2.2.1 (g := (mkF m 30 #[.val (.ref x), .val (.ref y), .val (.ref y)] [.ref y, .int cd])) rfl (rest := [.int cd]) rfl (hb hbytes d30)
    have hh11 := q11.trans hh9
    have c12 : Steps p.tables e below (s₁.setTop (entryFrame m #[.ref x, .ref y] 3)) (T11.setTop (mkF m 33 #[.val (.ref x), .val (.ref y), .val (.ref y)] [.int cd', .int cd])) := c10.trans (st11 _ (Steps.refl _))
    by_cases hcd : cd = cd'
    · subst hcd
      have c13 : Steps p.tables e below (s₁.setTop (entryFrame m #[.ref x, .ref y] 3)) (T11.setTop (mkF m 37 #[.val (.ref x), .val (.ref y), .val (.ref y)] [.ref x])) := c12.trans (by
        refine XS.icmpNo X11.here hexec rfl (hb hbytes d33) rfl (ii_ne_f rfl) ?_
        refine XS.aloadN X11.here hexec rfl (hb hbytes d36) rfl rfl ?_
        exact Steps.refl _)
      obtain ⟨T14, X14, q14, st14⟩ := X11.hget hexec hown (wk W (.fieldLink "java/lang/String" 9 "java/lang/String" "value" "[B")) (hx.mv X11.warmed.alike hh11).2.1 (g := (mkF m 37 #[.val (.ref x), .val (.ref y), .val (.ref y)] [.ref x])) rfl (rest := []) rfl (hb hbytes d37)
      have hh14 := q14.trans hh11
      have c15 : Steps p.tables e below (s₁.setTop (entryFrame m #[.ref x, .ref y] 3)) (T14.setTop (mkF m 41 #[.val (.ref x), .val (.ref y), .val (.ref y)] [.ref y, .ref t])) := (c13.trans (st14 _ (Steps.refl _))).trans (by
        refine XS.aloadN X14.here hexec rfl (hb hbytes d40) rfl rfl ?_
        exact Steps.refl _)
      obtain ⟨T16, X16, q16, st16⟩ := X14.hget hexec hown (wk W (.fieldLink "java/lang/String" 9 "java/lang/String" "value" "[B")) (hy.mv X14.warmed.alike hh14).2.1 (g := (mkF m 41 #[.val (.ref x), .val (.ref y), .val (.ref y)] [.ref y, .ref t])) rfl (rest := [.ref t]) rfl (hb hbytes d41)
      have hh16 := q16.trans hh14
      have c17 : Steps p.tables e below (s₁.setTop (entryFrame m #[.ref x, .ref y] 3)) (T16.setTop (mkF m 44 #[.val (.ref x), .val (.ref y), .val (.ref y)] [.ref t', .ref t])) := c15.trans (st16 _ (Steps.refl _))
      obtain ⟨v18, T18, X18, E18, g18⟩ := X16.callS hexec (LEq.law l t V t' V') hown (wks W (staticW "java/lang/String" 541 LEq.yN)) (wk W LEq.tab) (W := 0) (Nat.le_of_ble_eq_true rfl) (Nat.le_of_ble_eq_true rfl) (Nat.le_refl _) (Nat.le_refl _) (g := (mkF m 44 #[.val (.ref x), .val (.ref y), .val (.ref y)] [.ref t', .ref t])) rfl (by rw [hml]; rfl) c17 (argsL := [.ref t, .ref t']) (rest := []) rfl rfl (by show 2 * 0 + 0 ≤ _; decide) (hb hbytes d44) (⟨rfl, hx.2.2.2.1.mv X16.warmed.alike hh16, hx.2.2.2.2.1.ty, hy.2.2.2.1.mv X16.warmed.alike hh16, hy.2.2.2.2.1.ty⟩)
      obtain ⟨v, rfl, q18, hv⟩ := E18
      have iff := Cod.eqv hx.2.2.2.2.1 hy.2.2.2.2.1 hx.2.2.2.2.2 hy.2.2.2.2.2
      rcases hv with ⟨rfl, he⟩ | ⟨rfl, he⟩
      · have c19 : Steps p.tables e below (s₁.setTop (entryFrame m #[.ref x, .ref y] 3)) (T18.setTop (mkF m 55 #[.val (.ref x), .val (.ref y), .val (.ref y)] [.int 1])) := Steps.trans g18 (by
          refine XS.ifNo X18.here hexec rfl (hb hbytes d47) rfl (i0_eq_f (by decide)) ?_
          refine iconstV X18.here hexec rfl 1 (hb hbytes d50) (by decide) ?_
          refine XS.goto X18.here hexec rfl (pc0 := 51) rfl (hb hbytes d51) (by decide) rfl ?_
          exact Steps.refl _)
        exact ⟨T18, some (.int 1), _, _, _, X18, rfl, rfl, rfl, (fun h => by cases h), ⟨1, rfl, q18.trans hh16, Or.inl ⟨rfl, iff.mp he⟩⟩, fun fs hl => c19.trans (X18.ireturnOut hexec hret rfl (Or.inr (Or.inl rfl)) (hb hbytes d55) hl)⟩
      · have c19 : Steps p.tables e below (s₁.setTop (entryFrame m #[.ref x, .ref y] 3)) (T18.setTop (mkF m 55 #[.val (.ref x), .val (.ref y), .val (.ref y)] [.int 0])) := Steps.trans g18 (by
          refine XS.ifYes X18.here hexec rfl (pc0 := 47) rfl (hb hbytes d47) rfl (i0_eq_t rfl) (by decide) rfl ?_
          refine iconstV X18.here hexec rfl 0 (hb hbytes d54) (by decide) ?_
          exact Steps.refl _)
        exact ⟨T18, some (.int 0), _, _, _, X18, rfl, rfl, rfl, (fun h => by cases h), ⟨0, rfl, q18.trans hh16, Or.inr ⟨rfl, fun q => he (iff.mpr q)⟩⟩, fun fs hl => c19.trans (X18.ireturnOut hexec hret rfl (Or.inr (Or.inl rfl)) (hb hbytes d55) hl)⟩
    · have c13 : Steps p.tables e below (s₁.setTop (entryFrame m #[.ref x, .ref y] 3)) (T11.setTop (mkF m 55 #[.val (.ref x), .val (.ref y), .val (.ref y)] [.int 0])) := c12.trans (by
        refine XS.icmpYes X11.here hexec rfl (pc0 := 33) rfl (hb hbytes d33) rfl (ii_ne_t hcd) (by decide) rfl ?_
        refine iconstV X11.here hexec rfl 0 (hb hbytes d54) (by decide) ?_
        exact Steps.refl _)
      exact ⟨T11, some (.int 0), _, _, _, X11, rfl, rfl, rfl, (fun h => by cases h), ⟨0, rfl, hh11, Or.inr ⟨rfl, Cod.dif hx.2.2.2.2.1 hy.2.2.2.2.1 hcd⟩⟩, fun fs hl => c13.trans (X11.ireturnOut hexec hret rfl (Or.inr (Or.inl rfl)) (hb hbytes d55) hl)⟩
theorem pays {l : Launch} {R : Room} {p : Program} {e : Env} {below : List Frame} {s : State} {sargs : Array Value} {len W : Nat} (x t : Addr) (V : Cell) (cd : Int32) (n : Nat) (f : Nat → Int32) (y t' : Addr) (V' : Cell) (cd' : Int32) (k : Nat) (g : Nat → Int32) (z : Int32) (htab : tab.before sargs s = true) (hfr : 2 ≤ R.frames) (hlo : W + 28 ≤ R.locals) :
    Back l R p e below s sargs yN len W (fun A₁ a₁ => A₁.cells + 0 ≤ R.cells ∧ A₁.slots + 0 ≤ R.slots ∧ P x t V cd n f y t' V' cd' k g z a₁ A₁.U) (fun A₁ _ v₁ B₁ => Says01 (SameT n f k g) v₁ A₁.U B₁.U ∧ B₁.locs = A₁.locs ++ [] ∧ B₁.cells = A₁.cells + 0 ∧ B₁.slots = A₁.slots + 0) :=
  (law l x t V cd n f y t' V' cd' k g z).pays htab hfr (by omega)
end SEq
end StrChars
namespace StrChars.Road
open Jvm Sem ClassFile Op Lib Jvm.Stand Jvm.Free Jvm.Free.XT
open Jvm.Lib.Cold (StaticIs)
/-- the words of String.equals(Object) -/
abbrev wordsEq : List Jvm.Cond := [.code SEq.yN SEq.yB 3 (some .boolean), .initialized ST, .classLink ST 10 ST, .fieldLink ST 38 ST "COMPACT_STRINGS" "Z", .fieldLink ST 15 ST "coder" "B", .fieldLink ST 9 ST "value" "[B", .methodLink ST 541 LEq.yN, .static LEq.yN, .code LEq.yN LEq.yB 3 (some .boolean), .initialized "java/lang/StringLatin1"]
theorem tabEq_of {a : Array Value} {s : State} (h : ∀ w ∈ wordsEq, w.before a s = true) : SEq.tab.before a s = true := by
  have hl : LEq.tab.before a s = true := unparts (wk h (.code LEq.yN LEq.yB 3 (some .boolean))) (wks h (.initialized LEq.yN.cls :: LEq.site))
  have q := consq hl h
  exact unparts (wk q (.code SEq.yN SEq.yB 3 (some .boolean))) (wks q (.initialized SEq.yN.cls :: SEq.site))
theorem movedEq {Z s : State} {a0 args : Array Value} (hZ : Z.Warmed39 s.vm) (hw : ∀ d ∈ wordsEq, d.before a0 Z = true) : ∀ d ∈ wordsEq, d.before args s = true := fun d hd => by
  have t : ∀ d ∈ wordsEq, (d.onTables && d.keepsFace) = true := by decide +kernel
  exact RoadKit.mv hZ (hw d hd) (t d hd)
/-- the road's facts of a String, as the laws ask it -/
theorem txt_of {Z U : State} {a0 : Array Value} {kI : Nat} (wi : (Jvm.Cond.instantiable ST kI).before a0 Z = true) (al : Z.vm.Alike U.vm) {x t : Addr} {kb : ClassId} {cs : List Int32} {cd N2 : Int32} {vs : List Value} (E : RoadKit.Exa Z U.heap x ST) (V : RoadKit.Fld Z U.heap x ST "value" "[B" (.ref t)) (C : RoadKit.Fld Z U.heap x ST "coder" "B" (.int cd)) (K : RoadKit.Arv Z U.heap t kb .byte N2 vs (.int 0)) (hc : CodA cs cd N2 vs) (hb : ∀ c ∈ cs, ¬ c < 0 ∧ ¬ (65535 : Int32) < c) (l2 : cs.length ≤ 4000) :
    ∃ A, Txt x t A cd cs.length (fun j => cs.getD j 0) U := by
  obtain ⟨A, K1, K2, K3, K4, K5, K6⟩ := K
  have hcod := hc.cod (by omega) K3 K5
  obtain ⟨D, fV, fC, hB, F1, F2, g1, g2, -, -⟩ := strObj wi al E V C
  exact ⟨A, ⟨_, hB.2.2.1, D, hB.1, rfl, by cases q : D.vm <;> first | rfl | exact absurd q (hB.2.1.2 _)⟩, Has.of hB F1 g1, Has.of hB F2 g2, ⟨K1.1, State.isArrayOf_alike al K1.2.1, K1.2.2, by rcases hcod with ⟨-, q, -⟩ | ⟨-, q, -⟩ <;> omega⟩, hcod, fun j hj => by
    have e : cs.getD j 0 = cs[j] := by simp [List.getD_eq_getElem?_getD, hj]
    show ¬ cs.getD j 0 < 0 ∧ ¬ 65535 < cs.getD j 0
    rw [e]; exact hb _ (List.getElem_mem _)⟩
theorem same_list (cs ds : List Int32) : SameT cs.length (fun j => cs.getD j 0) ds.length (fun j => ds.getD j 0) ↔ cs = ds := by
  constructor
  · rintro ⟨e, q⟩
    refine List.ext_getElem e fun j h1 h2 => ?_
    have := q j h1
    simpa [List.getD_eq_getElem?_getD, h1, h2] using this
  · rintro rfl
    exact ⟨rfl, fun _ _ => rfl⟩
/-- **equals(Object) OF TWO SUCH STRINGS**: 1 just where the chars are the same -/
theorem eqW {p : Program} {l : Launch} {e : Env} {R : Room} {s : State} {args : Array Value} {below : List Frame} {len W : Nat} {Z : State} {a0 : Array Value} {h : Heap} (hZ : Z.Warmed39 s.vm) (hw : ∀ d ∈ wordsEq, d.before a0 Z = true) {kI : Nat} (wi : (Jvm.Cond.instantiable ST kI).before a0 Z = true)
    {x t : Addr} {kb : ClassId} {cs : List Int32} {cd N2 : Int32} {vs : List Value} (E : RoadKit.Exa Z h x ST) (V : RoadKit.Fld Z h x ST "value" "[B" (.ref t)) (C : RoadKit.Fld Z h x ST "coder" "B" (.int cd)) (K : RoadKit.Arv Z h t kb .byte N2 vs (.int 0)) (hc : CodA cs cd N2 vs) (hb : ∀ c ∈ cs, ¬ c < 0 ∧ ¬ (65535 : Int32) < c) (l2 : cs.length ≤ 4000)
    {y t' : Addr} {kb' : ClassId} {ds : List Int32} {cd' N2' : Int32} {vs' : List Value} (E' : RoadKit.Exa Z h y ST) (V' : RoadKit.Fld Z h y ST "value" "[B" (.ref t')) (C' : RoadKit.Fld Z h y ST "coder" "B" (.int cd')) (K' : RoadKit.Arv Z h t' kb' .byte N2' vs' (.int 0)) (hc' : CodA ds cd' N2' vs') (hb' : ∀ c ∈ ds, ¬ c < 0 ∧ ¬ (65535 : Int32) < c) (l2' : ds.length ≤ 4000)
    {z : Int32} (S : RoadKit.Sta Z h ST "COMPACT_STRINGS" "Z" (.int z)) (hz : ¬ z = 0) (hfr : 2 ≤ R.frames) (hlo : W + 28 ≤ R.locals) :
    Back l R p e below s args (⟨"java/lang/String", "equals", "(Ljava/lang/Object;)Z"⟩ : MethodName) len W (fun P a => a = #[.ref x, .ref y] ∧ P.U.heap = h ∧ P.cells + 0 ≤ R.cells ∧ P.slots + 0 ≤ R.slots)
      (fun P _ v B => ∃ L, (((v = some (.int 1) ∧ cs = ds) ∨ (v = some (.int 0) ∧ ¬ cs = ds)) ∧ L = [] ∧ B.U.heap = h) ∧ B.locs = P.locs ++ L ∧ B.cells = P.cells + 0 ∧ B.slots = P.slots + 0) := by
  intro m meth c P g ig mk a X hg hsize hdg hW hn hp'
  obtain ⟨rfl, rfl, r1, r2⟩ := hp'
  have al : Z.vm.Alike P.U.vm := hZ.alike.trans X.warmed.alike
  obtain ⟨A, hx⟩ := txt_of wi al E V C K hc hb l2
  obtain ⟨A', hy⟩ := txt_of wi al E' V' C' K' hc' hb' l2'
  obtain ⟨v, B, X', ⟨⟨w, hv, hh, hq⟩, hl, hk, hs⟩, st⟩ := SEq.pays x t A cd cs.length (fun j => cs.getD j 0) y t' A' cd' ds.length (fun j => ds.getD j 0) z (tabEq_of (movedEq hZ hw)) hfr hlo m meth c P g ig mk _ X hg hsize hdg hW hn ⟨r1, r2, rfl, hx, hy, sta_is al S, hz⟩
  refine ⟨v, B, X', ⟨[], ⟨?_, rfl, hh⟩, hl, hk, hs⟩, st⟩
  rcases hq with ⟨rfl, q⟩ | ⟨rfl, q⟩
  · exact Or.inl ⟨hv, (same_list cs ds).mp q⟩
  · exact Or.inr ⟨hv, fun e => q ((same_list cs ds).mpr e)⟩
end StrChars.Road
end Jvm.Pilot.@@N@@

namespace Jvm.Pilot.@@N@@
open Jvm Jvm.ClassFile Sem Op Lib Jvm.Free Jvm.Stand Jvm.LawKit Jvm.RoadKit Bundle Jvm.Pilot.@@N@@.Jvm.D
abbrev vi (n : Int32) : Slot := .val (.int n)
abbrev vj (n : Int64) : Slot := .val (.long n)
abbrev vr (a : Addr) : Slot := .val (.ref a)
theorem cat_i (n : Int32) : (Value.int n).category = 1 := rfl
theorem cat_j (n : Int64) : (Value.long n).category = 2 := rfl
theorem cat_r (a : Addr) : (Value.ref a).category = 1 := rfl
theorem cat_n : Value.null.category = 1 := rfl
theorem wq {Z : State} {a0 : Array Value} (hw : ∀ d ∈ tables_1, d.before a0 Z = true) (i : Nat) {d : Cond} (h : tables_1[i]? = some d) : d.before a0 Z = true := hw d (List.mem_of_getElem? h)
/-- what is said of the start -/
def Wd (Z : State) (a0 : Array Value) : Prop := (∀ d ∈ tables_1, d.before a0 Z = true) ∧ (∃ z : Int32, Sta Z Z.heap "java/lang/String" "COMPACT_STRINGS" "Z" (.int z) ∧ ¬ z = 0) ∧ (∃ w : Value, Sta Z Z.heap "jdk/internal/util/Preconditions" "SIOOBE_FORMATTER" "Ljava/util/function/BiFunction;" w ∧ w.isRef = true) ∧ (∃ (de : Addr) (kde : ClassId), Sta Z Z.heap "java/util/ArrayList" "DEFAULTCAPACITY_EMPTY_ELEMENTDATA" "[Ljava/lang/Object;" (.ref de) ∧ Arv Z Z.heap de kde (.object "java/lang/Object") (0 : Int32) [] .null)
def EL : List (String × Nat) := [("com/example/anteroom/anteroom/store/LogicalPath", 26), ("com/example/anteroom/anteroom/store/LogicalPath", 33), ("com/example/anteroom/anteroom/store/LogicalPath", 45), ("com/example/anteroom/anteroom/store/LogicalPath", 51), ("com/example/anteroom/anteroom/store/VersionChangesIsNonePinLaw", 7), ("com/example/anteroom/anteroom/store/VersionChangesIsNonePinLaw", 19), ("java/lang/String", 761)]
theorem el_of {Z : State} {a0 : Array Value} (hw : ∀ d ∈ tables_1, d.before a0 Z = true) : EW Z a0 EL := (EW.cons (wq hw 94 rfl) (by decide) (EW.cons (wq hw 99 rfl) (by decide) (EW.cons (wq hw 185 rfl) (by decide) (EW.cons (wq hw 194 rfl) (by decide) (EW.cons (wq hw 229 rfl) (by decide) (EW.cons (wq hw 84 rfl) (by decide) (EW.cons (wq hw 120 rfl) (by decide) EW.nil)))))))
theorem words_sa : ∀ d ∈ Bundle.stringAtoms, d ∈ tables_1 := by decide +kernel
theorem words_new : ∀ d ∈ StrChars.Road.words, d ∈ tables_1 := by decide +kernel
theorem words_eq : ∀ d ∈ StrChars.Road.wordsEq, d ∈ tables_1 := by decide +kernel
-- java/lang/String.coder:()B
def Q_coder (Z : State) (a : Addr) (h0 : Heap) (v : Option Value) (h : Heap) (L : List Loc) : Prop := v = some (.int 0) ∧ Fr Z.heap.size L ∧ h = h0
theorem ef_coder (m : MethodId) (a : Addr) : entryFrame m #[(.ref a)] 1 = mkF m 0 #[vr a] [] := by first | (simp [entryFrame, mkF, argsToLocals, Value.category, vi, vj, vr]; done) | rfl
theorem pn_0 : plainName "java/lang/String" = true := by first | (simp [plainName, overriddenIn]; done) | decide +kernel
theorem d_jdk_42_152_0 : decode jdk_42_method_152_code 0 = .ok (.getstatic 38, 3) := by decide +kernel
theorem d_jdk_42_152_3 : decode jdk_42_method_152_code 3 = .ok (.ifCond .eq 10, 3) := by decide +kernel
theorem d_jdk_42_152_6 : decode jdk_42_method_152_code 6 = .ok (.aload_n 0, 1) := by decide +kernel
theorem d_jdk_42_152_7 : decode jdk_42_method_152_code 7 = .ok (.getfield 15, 3) := by decide +kernel
theorem d_jdk_42_152_10 : decode jdk_42_method_152_code 10 = .ok (.goto 4, 3) := by decide +kernel
theorem d_jdk_42_152_14 : decode jdk_42_method_152_code 14 = .ok (.ireturn, 1) := by decide +kernel
set_option maxRecDepth 65536 in
set_option maxHeartbeats 40000000 in
theorem rm_coder (l : Launch) {Z : State} {a0 : Array Value} (hD : Wd Z a0) (a : Addr) {h0 : Heap} (O0 : Ext Z.heap h0) (F_coder_a : Fld Z h0 a "java/lang/String" "coder" "B" (.int 0)) :
    Con l Z (⟨"java/lang/String", "coder", "()B"⟩ : MethodName) jdk_42_method_152_code 1 (some .byte) [] ({ frames := 0, cells := 0, slots := 0, locals := 0 } : Room) #[(.ref a)] h0 (Q_coder Z a h0) := by
  refine Con.walk (plainFor_of_name pn_0) ?_
  intro p e s m below meth c T0 X0 hx hZ hby hml hown hnm hret hlk e0
  obtain ⟨hw, ⟨cz, S_CS, hcz⟩, ⟨sf, S_SF, hsf⟩, ⟨xde, xkde, S_DE, V_DE⟩⟩ := id hD
  have N0 := Fr.nil Z.heap.size
  refine OEnds.cast (ef_coder m a) ?_
  obtain ⟨T1, X1, e1, st1⟩ := getS2 X0 hx hZ hown (host := "") (Or.inl (wq hw 65 rfl)) Via.refl e0 (S_CS.ext O0) (g := (mkF m 0 #[vr a] [])) rfl (hb hby d_jdk_42_152_0)
  refine OEnds.st st1 ?_
  refine OEnds.st (S' := T1.setTop (mkF m 7 #[vr a] [(.ref a)])) (fun _ k => ?_) ?_
  · refine XS.ifNo X1.here hx rfl (hb hby d_jdk_42_152_3) rfl ((if0 _ _).trans (feq hcz).1) ?_
    refine XS.aloadN X1.here hx rfl (hb hby d_jdk_42_152_6) rfl rfl ?_
    exact k
  obtain ⟨T2, X2, e2, st2⟩ := getF X1 hx hZ hown (host := "") (Or.inl (wq hw 77 rfl)) Via.refl e1 F_coder_a (g := (mkF m 7 #[vr a] [(.ref a)])) rfl rfl (hb hby d_jdk_42_152_7)
  refine OEnds.st st2 ?_
  refine OEnds.st (S' := T2.setTop (mkF m 14 #[vr a] [(.int 0)])) (fun _ k => ?_) ?_
  · refine XS.goto X2.here hx rfl (pc0 := 10) (pc' := 14) rfl (hb hby d_jdk_42_152_10) (by decide) (by decide) ?_
    exact k
  exact OEnds.ret X2 hx hret hlk (by decide) (Or.inl ⟨rfl, by simp, _, rfl⟩) (hb hby d_jdk_42_152_14) (by decide) (by decide) (by rw [e2]; exact ⟨rfl, N0, rfl⟩)
-- java/lang/String.length:()I
def Q_strLen (Z : State) (a : Addr) (t : Addr) (k : ClassId) (z : Int32) (us : List Value) (h0 : Heap) (v : Option Value) (h : Heap) (L : List Loc) : Prop := v = some (.int z) ∧ Fr Z.heap.size L ∧ h = h0
theorem ef_strLen (m : MethodId) (a : Addr) : entryFrame m #[(.ref a)] 1 = mkF m 0 #[vr a] [] := by first | (simp [entryFrame, mkF, argsToLocals, Value.category, vi, vj, vr]; done) | rfl
theorem d_jdk_42_54_0 : decode jdk_42_method_54_code 0 = .ok (.aload_n 0, 1) := by decide +kernel
theorem d_jdk_42_54_1 : decode jdk_42_method_54_code 1 = .ok (.getfield 9, 3) := by decide +kernel
theorem d_jdk_42_54_4 : decode jdk_42_method_54_code 4 = .ok (.arraylength, 1) := by decide +kernel
theorem d_jdk_42_54_5 : decode jdk_42_method_54_code 5 = .ok (.aload_n 0, 1) := by decide +kernel
theorem d_jdk_42_54_6 : decode jdk_42_method_54_code 6 = .ok (.invokevirtual 335, 3) := by decide +kernel
theorem pd_0 : parseMethodDescriptor "()B" = some ⟨[], some .byte⟩ := by decide +kernel
theorem d_jdk_42_54_9 : decode jdk_42_method_54_code 9 = .ok (.ishr, 1) := by decide +kernel
theorem d_jdk_42_54_10 : decode jdk_42_method_54_code 10 = .ok (.ireturn, 1) := by decide +kernel
set_option maxRecDepth 65536 in
set_option maxHeartbeats 40000000 in
theorem rm_strLen (l : Launch) {Z : State} {a0 : Array Value} (hD : Wd Z a0) (a : Addr) (t : Addr) (k : ClassId) (z : Int32) (us : List Value) {h0 : Heap} (O0 : Ext Z.heap h0) (E_a : Exa Z h0 a "java/lang/String") (F_coder_a : Fld Z h0 a "java/lang/String" "coder" "B" (.int 0)) (F_value_a : Fld Z h0 a "java/lang/String" "value" "[B" (.ref t)) (V_t : Arv Z h0 t k .byte z us (.int 0)) :
    Con l Z (⟨"java/lang/String", "length", "()I"⟩ : MethodName) jdk_42_method_54_code 1 (some .int) [] ({ frames := 1, cells := 0, slots := 0, locals := 13 } : Room) #[(.ref a)] h0 (Q_strLen Z a t k z us h0) := by
  refine Con.walk (plainFor_of_name pn_0) ?_
  intro p e s m below meth c T0 X0 hx hZ hby hml hown hnm hret hlk e0
  obtain ⟨hw, ⟨cz, S_CS, hcz⟩, ⟨sf, S_SF, hsf⟩, ⟨xde, xkde, S_DE, V_DE⟩⟩ := id hD
  have N0 := Fr.nil Z.heap.size
  refine OEnds.cast (ef_strLen m a) ?_
  refine OEnds.st (S' := T0.setTop (mkF m 1 #[vr a] [(.ref a)])) (fun _ k => ?_) ?_
  · refine XS.aloadN X0.here hx rfl (hb hby d_jdk_42_54_0) rfl rfl ?_
    exact k
  obtain ⟨T1, X1, e1, st1⟩ := getF X0 hx hZ hown (host := "") (Or.inl (wq hw 79 rfl)) Via.refl e0 F_value_a (g := (mkF m 1 #[vr a] [(.ref a)])) rfl rfl (hb hby d_jdk_42_54_1)
  refine OEnds.st st1 ?_
  obtain ⟨cl_t_2, Ar_t_2, q_t_2, S_t_2, N_t_2, H_t_2, G_t_2⟩ := id V_t
  refine OEnds.st (S' := T1.setTop (mkF m 5 #[vr a] [(.int z)])) (fun tg kq9 => X1.arraylength hx (by rw [e1]; exact Ar_t_2.1) (State.isArrayOf_alike hZ.alike Ar_t_2.2.1) (g := (mkF m 4 #[vr a] [(.ref t)])) rfl rfl (hb hby d_jdk_42_54_4) tg (by rw [len_of S_t_2 N_t_2]; exact kq9)) ?_
  refine OEnds.st (S' := T1.setTop (mkF m 6 #[vr a] [(.ref a), (.int z)])) (fun _ k => ?_) ?_
  · refine XS.aloadN X1.here hx rfl (hb hby d_jdk_42_54_5) rfl rfl ?_
    exact k
  obtain ⟨_, T3, h3, L3, X3, e3, hQ3, st3⟩ := virtC X1 hx hZ (y := (⟨"java/lang/String", "coder", "()B"⟩ : MethodName)) (z := (⟨"java/lang/String", "coder", "()B"⟩ : MethodName)) hown (wq hw 115 rfl) (wq hw 116 rfl) (nf_sel (args := #[]) (mvT hZ (wq hw 103 rfl)) rfl) (wq hw 118 rfl) (wq hw 117 rfl) (by decide) (kc := 0) (ks := 0) (Con.sb (W := 1) (rm_coder l hD a O0 F_coder_a) hZ (wq hw 119 rfl) (wq hw 56 rfl) (by decide) (by decide)) e1 E_a (g := (mkF m 6 #[vr a] [(.ref a), (.int z)])) rfl (by rw [hml]; rfl) (argsL := []) (rest := [(.int z)]) (lenOf pd_0 rfl) rfl (by show 2 * 0 + _ ≤ _; exact Nat.le_of_eq rfl) (hb hby d_jdk_42_54_6) (by decide) (by decide)
  obtain ⟨rfl, Nq3, Hq3⟩ := hQ3
  refine OEnds.st st3 ?_
  replace N0 := Fr.app N0 Nq3
  replace e3 := e3.trans Hq3
  refine OEnds.st (S' := T3.setTop (mkF m 10 #[vr a] [(.int z)])) (fun _ k => ?_) ?_
  · refine XS.ishr X3.here hx rfl (hb hby d_jdk_42_54_9) rfl ?_
    rw [shr0 z]
    exact k
  exact OEnds.ret X3 hx hret hlk rfl (Or.inl ⟨rfl, by simp, _, rfl⟩) (hb hby d_jdk_42_54_10) (by decide) (by decide) (by rw [e3]; exact ⟨rfl, N0, rfl⟩)
-- java/lang/Record.<init>:()V
def Q_recInit (Z : State) (a : Addr) (h0 : Heap) (v : Option Value) (h : Heap) (L : List Loc) : Prop := v = none ∧ Fr Z.heap.size L ∧ h = h0
theorem ef_recInit (m : MethodId) (a : Addr) : entryFrame m #[(.ref a)] 1 = mkF m 0 #[vr a] [] := by first | (simp [entryFrame, mkF, argsToLocals, Value.category, vi, vj, vr]; done) | rfl
theorem pn_1 : plainName "java/lang/Record" = true := by first | (simp [plainName, overriddenIn]; done) | decide +kernel
theorem d_jdk_30_1_0 : decode jdk_30_method_1_code 0 = .ok (.aload_n 0, 1) := by decide +kernel
theorem d_jdk_30_1_1 : decode jdk_30_method_1_code 1 = .ok (.invokespecial 1, 3) := by decide +kernel
theorem d_jdk_30_1_4 : decode jdk_30_method_1_code 4 = .ok (.return_, 1) := by decide +kernel
set_option maxRecDepth 65536 in
set_option maxHeartbeats 40000000 in
theorem rm_recInit (l : Launch) {Z : State} {a0 : Array Value} (hD : Wd Z a0) (a : Addr) {h0 : Heap} (O0 : Ext Z.heap h0) :
    Con l Z (⟨"java/lang/Record", "<init>", "()V"⟩ : MethodName) jdk_30_method_1_code 1 none [] ({ frames := 1, cells := 0, slots := 0, locals := 12 } : Room) #[(.ref a)] h0 (Q_recInit Z a h0) := by
  refine Con.walk (plainFor_of_name pn_1) ?_
  intro p e s m below meth c T0 X0 hx hZ hby hml hown hnm hret hlk e0
  obtain ⟨hw, ⟨cz, S_CS, hcz⟩, ⟨sf, S_SF, hsf⟩, ⟨xde, xkde, S_DE, V_DE⟩⟩ := id hD
  have N0 := Fr.nil Z.heap.size
  refine OEnds.cast (ef_recInit m a) ?_
  refine OEnds.st (S' := T0.setTop (mkF m 1 #[vr a] [(.ref a)])) (fun _ k => ?_) ?_
  · refine XS.aloadN X0.here hx rfl (hb hby d_jdk_30_1_0) rfl rfl ?_
    exact k
  obtain ⟨T1, X1, e1, st1⟩ := initO X0 hx hZ hown (wq hw 37 rfl) (wq hw 19 rfl) (wq hw 20 rfl) e0 (g := (mkF m 1 #[vr a] [(.ref a)])) rfl (by rw [hml]; rfl) rfl (hb hby d_jdk_30_1_1) (by decide) (W := 0) (by show 2 * 0 + _ ≤ _; exact Nat.le_of_eq rfl) (by decide)
  refine OEnds.st st1 ?_
  exact OEnds.retV X1 hx hret hlk (hb hby d_jdk_30_1_4) (by decide) (by decide) (by rw [e1]; exact ⟨rfl, N0, rfl⟩)
-- java/util/AbstractCollection.<init>:()V
def Q_acInit (Z : State) (a : Addr) (h0 : Heap) (v : Option Value) (h : Heap) (L : List Loc) : Prop := v = none ∧ Fr Z.heap.size L ∧ h = h0
theorem ef_acInit (m : MethodId) (a : Addr) : entryFrame m #[(.ref a)] 1 = mkF m 0 #[vr a] [] := by first | (simp [entryFrame, mkF, argsToLocals, Value.category, vi, vj, vr]; done) | rfl
theorem pn_2 : plainName "java/util/AbstractCollection" = true := by first | (simp [plainName, overriddenIn]; done) | decide +kernel
theorem d_jdk_22_1_0 : decode jdk_22_method_1_code 0 = .ok (.aload_n 0, 1) := by decide +kernel
theorem d_jdk_22_1_1 : decode jdk_22_method_1_code 1 = .ok (.invokespecial 1, 3) := by decide +kernel
theorem d_jdk_22_1_4 : decode jdk_22_method_1_code 4 = .ok (.return_, 1) := by decide +kernel
set_option maxRecDepth 65536 in
set_option maxHeartbeats 40000000 in
theorem rm_acInit (l : Launch) {Z : State} {a0 : Array Value} (hD : Wd Z a0) (a : Addr) {h0 : Heap} (O0 : Ext Z.heap h0) :
    Con l Z (⟨"java/util/AbstractCollection", "<init>", "()V"⟩ : MethodName) jdk_22_method_1_code 1 none [] ({ frames := 1, cells := 0, slots := 0, locals := 12 } : Room) #[(.ref a)] h0 (Q_acInit Z a h0) := by
  refine Con.walk (plainFor_of_name pn_2) ?_
  intro p e s m below meth c T0 X0 hx hZ hby hml hown hnm hret hlk e0
  obtain ⟨hw, ⟨cz, S_CS, hcz⟩, ⟨sf, S_SF, hsf⟩, ⟨xde, xkde, S_DE, V_DE⟩⟩ := id hD
  have N0 := Fr.nil Z.heap.size
  refine OEnds.cast (ef_acInit m a) ?_
  refine OEnds.st (S' := T0.setTop (mkF m 1 #[vr a] [(.ref a)])) (fun _ k => ?_) ?_
  · refine XS.aloadN X0.here hx rfl (hb hby d_jdk_22_1_0) rfl rfl ?_
    exact k
  obtain ⟨T1, X1, e1, st1⟩ := initO X0 hx hZ hown (wq hw 18 rfl) (wq hw 19 rfl) (wq hw 20 rfl) e0 (g := (mkF m 1 #[vr a] [(.ref a)])) rfl (by rw [hml]; rfl) rfl (hb hby d_jdk_22_1_1) (by decide) (W := 0) (by show 2 * 0 + _ ≤ _; exact Nat.le_of_eq rfl) (by decide)
  refine OEnds.st st1 ?_
  exact OEnds.retV X1 hx hret hlk (hb hby d_jdk_22_1_4) (by decide) (by decide) (by rw [e1]; exact ⟨rfl, N0, rfl⟩)
-- java/util/AbstractList.<init>:()V
def Q_abslInit (Z : State) (a : Addr) (h0 : Heap) (v : Option Value) (h : Heap) (L : List Loc) : Prop := v = none ∧ Fr Z.heap.size L ∧ Keep h0 h [a] ∧ Exa Z h a "java/util/ArrayList" ∧ Fld Z h a "java/util/ArrayList" "elementData" "[Ljava/lang/Object;" .null ∧ Fld Z h a "java/util/ArrayList" "size" "I" (.int 0) ∧ Fld Z h a "java/util/AbstractList" "modCount" "I" (.int 0)
theorem ef_abslInit (m : MethodId) (a : Addr) : entryFrame m #[(.ref a)] 1 = mkF m 0 #[vr a] [] := by first | (simp [entryFrame, mkF, argsToLocals, Value.category, vi, vj, vr]; done) | rfl
theorem pn_3 : plainName "java/util/AbstractList" = true := by first | (simp [plainName, overriddenIn]; done) | decide +kernel
theorem d_jdk_39_1_0 : decode jdk_39_method_1_code 0 = .ok (.aload_n 0, 1) := by decide +kernel
theorem d_jdk_39_1_1 : decode jdk_39_method_1_code 1 = .ok (.invokespecial 1, 3) := by decide +kernel
theorem pd_1 : parseMethodDescriptor "()V" = some ⟨[], none⟩ := by decide +kernel
theorem d_jdk_39_1_4 : decode jdk_39_method_1_code 4 = .ok (.aload_n 0, 1) := by decide +kernel
theorem d_jdk_39_1_5 : decode jdk_39_method_1_code 5 = .ok (.iconst 0, 1) := by decide +kernel
theorem d_jdk_39_1_6 : decode jdk_39_method_1_code 6 = .ok (.putfield 7, 3) := by decide +kernel
theorem d_jdk_39_1_9 : decode jdk_39_method_1_code 9 = .ok (.return_, 1) := by decide +kernel
set_option maxRecDepth 65536 in
set_option maxHeartbeats 40000000 in
theorem rm_abslInit (l : Launch) {Z : State} {a0 : Array Value} (hD : Wd Z a0) (a : Addr) {h0 : Heap} (O0 : Ext Z.heap h0) (E_a : Exa Z h0 a "java/util/ArrayList") (F_ed_a : Fld Z h0 a "java/util/ArrayList" "elementData" "[Ljava/lang/Object;" .null) (F_sz_a : Fld Z h0 a "java/util/ArrayList" "size" "I" (.int 0)) (F_mc_a : Fld Z h0 a "java/util/AbstractList" "modCount" "I" (.int 0)) (ge_a : Z.heap.size ≤ a) :
    Con l Z (⟨"java/util/AbstractList", "<init>", "()V"⟩ : MethodName) jdk_39_method_1_code 1 none [] ({ frames := 2, cells := 0, slots := 0, locals := 24 } : Room) #[(.ref a)] h0 (Q_abslInit Z a h0) := by
  refine Con.walk (plainFor_of_name pn_3) ?_
  intro p e s m below meth c T0 X0 hx hZ hby hml hown hnm hret hlk e0
  obtain ⟨hw, ⟨cz, S_CS, hcz⟩, ⟨sf, S_SF, hsf⟩, ⟨xde, xkde, S_DE, V_DE⟩⟩ := id hD
  have N0 := Fr.nil Z.heap.size
  have K0 : Keep h0 h0 [a] := Keep.refl _ _
  refine OEnds.cast (ef_abslInit m a) ?_
  refine OEnds.st (S' := T0.setTop (mkF m 1 #[vr a] [(.ref a)])) (fun _ k => ?_) ?_
  · refine XS.aloadN X0.here hx rfl (hb hby d_jdk_39_1_0) rfl rfl ?_
    exact k
  obtain ⟨_, T1, h1, L1, X1, e1, hQ1, st1⟩ := specC X0 hx hZ rfl hown (wq hw 12 rfl) (wq hw 13 rfl) (wq hw 17 rfl) (by decide) (kc := 0) (ks := 0) (Con.sb (W := 0) (rm_acInit l hD a O0) hZ (wq hw 17 rfl) (wq hw 16 rfl) (by decide) (by decide)) e0 (a := a) (g := (mkF m 1 #[vr a] [(.ref a)])) rfl (by rw [hml]; rfl) (argsL := []) (rest := []) (lenOf pd_1 rfl) rfl (by show 2 * 0 + _ ≤ _; exact Nat.le_of_eq rfl) (hb hby d_jdk_39_1_1) (by decide) (by decide)
  obtain ⟨rfl, Nq1, Hq1⟩ := hQ1
  refine OEnds.st st1 ?_
  replace N0 := Fr.app N0 Nq1
  replace e1 := e1.trans Hq1
  refine OEnds.st (S' := T1.setTop (mkF m 6 #[vr a] [(.int 0), (.ref a)])) (fun _ k => ?_) ?_
  · refine XS.aloadN X1.here hx rfl (hb hby d_jdk_39_1_4) rfl rfl ?_
    refine XS.iconst X1.here hx rfl (hb hby d_jdk_39_1_5) ?_
    exact k
  obtain ⟨T2, h2, X2, e2, W2, st2⟩ := putF X1 hx hZ hown (host := "") (Or.inl (wq hw 21 rfl)) Via.refl e1 F_mc_a E_a (Or.inl (wq hw 22 rfl)) (wq hw 1 rfl) (ty := .int) (by decide) rfl rfl (g := (mkF m 6 #[vr a] [(.int 0), (.ref a)])) rfl rfl (hb hby d_jdk_39_1_6)
  refine OEnds.st st2 ?_
  replace E_a := E_a.wr W2
  replace F_ed_a := F_ed_a.other W2 (Or.inr (slot_ne (Or.inl (wq hw 25 rfl)) (Or.inl (wq hw 22 rfl)) (by decide) (t := (.array (.object "java/lang/Object"))) (t' := .int) (by decide) (by decide)))
  replace F_sz_a := F_sz_a.other W2 (Or.inr (slot_ne (Or.inl (wq hw 209 rfl)) (Or.inl (wq hw 22 rfl)) (by decide) (t := .int) (t' := .int) (by decide) (by decide)))
  replace F_mc_a := F_mc_a.same W2
  replace O0 : Ext Z.heap h2 := ext_wr O0 W2 ge_a
  replace N0 := Fr.snoc X2 N0 ge_a
  replace K0 : Keep h0 h2 [a] := K0.wr W2 (Or.inl (List.mem_of_getElem? (i := 0) rfl))
  exact OEnds.retV X2 hx hret hlk (hb hby d_jdk_39_1_9) (by decide) (by decide) (by rw [e2]; exact ⟨rfl, N0, K0, E_a, F_ed_a, F_sz_a, F_mc_a⟩)
-- java/util/ArrayList.<init>:()V
def Q_alInit (Z : State) (a : Addr) (de : Addr) (h0 : Heap) (v : Option Value) (h : Heap) (L : List Loc) : Prop := v = none ∧ Fr Z.heap.size L ∧ Keep h0 h [a] ∧ Exa Z h a "java/util/ArrayList" ∧ Fld Z h a "java/util/ArrayList" "elementData" "[Ljava/lang/Object;" (.ref de) ∧ Fld Z h a "java/util/ArrayList" "size" "I" (.int 0) ∧ Fld Z h a "java/util/AbstractList" "modCount" "I" (.int 0)
theorem ef_alInit (m : MethodId) (a : Addr) : entryFrame m #[(.ref a)] 1 = mkF m 0 #[vr a] [] := by first | (simp [entryFrame, mkF, argsToLocals, Value.category, vi, vj, vr]; done) | rfl
theorem pn_4 : plainName "java/util/ArrayList" = true := by first | (simp [plainName, overriddenIn]; done) | decide +kernel
theorem d_jdk_38_2_0 : decode jdk_38_method_2_code 0 = .ok (.aload_n 0, 1) := by decide +kernel
theorem d_jdk_38_2_1 : decode jdk_38_method_2_code 1 = .ok (.invokespecial 1, 3) := by decide +kernel
theorem d_jdk_38_2_4 : decode jdk_38_method_2_code 4 = .ok (.aload_n 0, 1) := by decide +kernel
theorem d_jdk_38_2_5 : decode jdk_38_method_2_code 5 = .ok (.getstatic 39, 3) := by decide +kernel
theorem d_jdk_38_2_8 : decode jdk_38_method_2_code 8 = .ok (.putfield 9, 3) := by decide +kernel
theorem d_jdk_38_2_11 : decode jdk_38_method_2_code 11 = .ok (.return_, 1) := by decide +kernel
set_option maxRecDepth 65536 in
set_option maxHeartbeats 40000000 in
theorem rm_alInit (l : Launch) {Z : State} {a0 : Array Value} (hD : Wd Z a0) (a : Addr) (de : Addr) {h0 : Heap} (O0 : Ext Z.heap h0) (E_a : Exa Z h0 a "java/util/ArrayList") (F_ed_a : Fld Z h0 a "java/util/ArrayList" "elementData" "[Ljava/lang/Object;" .null) (F_sz_a : Fld Z h0 a "java/util/ArrayList" "size" "I" (.int 0)) (F_mc_a : Fld Z h0 a "java/util/AbstractList" "modCount" "I" (.int 0)) (ge_a : Z.heap.size ≤ a) (S_de : Sta Z Z.heap "java/util/ArrayList" "DEFAULTCAPACITY_EMPTY_ELEMENTDATA" "[Ljava/lang/Object;" (.ref de)) :
    Con l Z (⟨"java/util/ArrayList", "<init>", "()V"⟩ : MethodName) jdk_38_method_2_code 1 none [] ({ frames := 3, cells := 0, slots := 0, locals := 36 } : Room) #[(.ref a)] h0 (Q_alInit Z a de h0) := by
  refine Con.walk (plainFor_of_name pn_4) ?_
  intro p e s m below meth c T0 X0 hx hZ hby hml hown hnm hret hlk e0
  obtain ⟨hw, ⟨cz, S_CS, hcz⟩, ⟨sf, S_SF, hsf⟩, ⟨xde, xkde, S_DE, V_DE⟩⟩ := id hD
  have N0 := Fr.nil Z.heap.size
  have K0 : Keep h0 h0 [a] := Keep.refl _ _
  refine OEnds.cast (ef_alInit m a) ?_
  refine OEnds.st (S' := T0.setTop (mkF m 1 #[vr a] [(.ref a)])) (fun _ k => ?_) ?_
  · refine XS.aloadN X0.here hx rfl (hb hby d_jdk_38_2_0) rfl rfl ?_
    exact k
  obtain ⟨_, T1, h1, L1, X1, e1, hQ1, st1⟩ := specC X0 hx hZ rfl hown (wq hw 6 rfl) (wq hw 7 rfl) (wq hw 11 rfl) (by decide) (kc := 0) (ks := 0) (Con.sb (W := 0) (rm_abslInit l hD a O0 E_a F_ed_a F_sz_a F_mc_a ge_a) hZ (wq hw 11 rfl) (wq hw 10 rfl) (by decide) (by decide)) e0 (a := a) (g := (mkF m 1 #[vr a] [(.ref a)])) rfl (by rw [hml]; rfl) (argsL := []) (rest := []) (lenOf pd_1 rfl) rfl (by show 2 * 0 + _ ≤ _; exact Nat.le_of_eq rfl) (hb hby d_jdk_38_2_1) (by decide) (by decide)
  obtain ⟨rfl, Nq1, Kq1, Eq1, Fe1, Fs1, Fm1⟩ := hQ1
  refine OEnds.st st1 ?_
  replace N0 := Fr.app N0 Nq1
  replace E_a := E_a.keep Kq1
  replace O0 : Ext Z.heap h1 := ext_keep O0 Kq1 (allS ge_a all0)
  replace K0 : Keep h0 h1 [a] := K0.trans Kq1 (allS (Or.inl (List.mem_of_getElem? (i := 0) rfl)) all0)
  refine OEnds.st (S' := T1.setTop (mkF m 5 #[vr a] [(.ref a)])) (fun _ k => ?_) ?_
  · refine XS.aloadN X1.here hx rfl (hb hby d_jdk_38_2_4) rfl rfl ?_
    exact k
  obtain ⟨T2, X2, e2, st2⟩ := getS2 X1 hx hZ hown (host := "") (Or.inl (wq hw 23 rfl)) Via.refl e1 (S_de.ext O0) (g := (mkF m 5 #[vr a] [(.ref a)])) rfl (hb hby d_jdk_38_2_5)
  refine OEnds.st st2 ?_
  obtain ⟨T3, h3, X3, e3, W3, st3⟩ := putF X2 hx hZ hown (host := "") (Or.inl (wq hw 24 rfl)) Via.refl e2 Fe1 E_a (Or.inl (wq hw 25 rfl)) (wq hw 1 rfl) (ty := (.array (.object "java/lang/Object"))) (by decide) rfl rfl (g := (mkF m 8 #[vr a] [(.ref de), (.ref a)])) rfl rfl (hb hby d_jdk_38_2_8)
  refine OEnds.st st3 ?_
  replace E_a := E_a.wr W3
  replace Fe1 := Fe1.same W3
  replace Fs1 := Fs1.other W3 (Or.inr (slot_ne (Or.inl (wq hw 209 rfl)) (Or.inl (wq hw 25 rfl)) (by decide) (t := .int) (t' := (.array (.object "java/lang/Object"))) (by decide) (by decide)))
  replace Fm1 := Fm1.other W3 (Or.inr (slot_ne (Or.inl (wq hw 22 rfl)) (Or.inl (wq hw 25 rfl)) (by decide) (t := .int) (t' := (.array (.object "java/lang/Object"))) (by decide) (by decide)))
  replace O0 : Ext Z.heap h3 := ext_wr O0 W3 ge_a
  replace N0 := Fr.snoc X3 N0 ge_a
  replace K0 : Keep h0 h3 [a] := K0.wr W3 (Or.inl (List.mem_of_getElem? (i := 0) rfl))
  exact OEnds.retV X3 hx hret hlk (hb hby d_jdk_38_2_11) (by decide) (by decide) (by rw [e3]; exact ⟨rfl, N0, K0, E_a, Fe1, Fs1, Fm1⟩)
-- java/lang/Math.max:(II)I
def Q_mmax (Z : State)  (h0 : Heap) (v : Option Value) (h : Heap) (L : List Loc) : Prop := v = some (.int 10) ∧ Fr Z.heap.size L ∧ h = h0
theorem ef_mmax (m : MethodId)  : entryFrame m #[(.int 10), (.int 1)] 2 = mkF m 0 #[vi 10, vi 1] [] := by first | (simp [entryFrame, mkF, argsToLocals, Value.category, vi, vj, vr]; done) | rfl
theorem d_jdk_29_65_0 : decode jdk_29_method_65_code 0 = .ok (.iload_n 0, 1) := by decide +kernel
theorem d_jdk_29_65_1 : decode jdk_29_method_65_code 1 = .ok (.iload_n 1, 1) := by decide +kernel
theorem d_jdk_29_65_2 : decode jdk_29_method_65_code 2 = .ok (.if_icmp .lt 7, 3) := by decide +kernel
theorem d_jdk_29_65_5 : decode jdk_29_method_65_code 5 = .ok (.iload_n 0, 1) := by decide +kernel
theorem d_jdk_29_65_6 : decode jdk_29_method_65_code 6 = .ok (.goto 4, 3) := by decide +kernel
theorem d_jdk_29_65_10 : decode jdk_29_method_65_code 10 = .ok (.ireturn, 1) := by decide +kernel
set_option maxRecDepth 65536 in
set_option maxHeartbeats 40000000 in
theorem rm_mmax (l : Launch) {Z : State} {a0 : Array Value} (hD : Wd Z a0)  {h0 : Heap} (O0 : Ext Z.heap h0) :
    Con l Z (⟨"java/lang/Math", "max", "(II)I"⟩ : MethodName) jdk_29_method_65_code 2 (some .int) [] ({ frames := 0, cells := 0, slots := 0, locals := 0 } : Room) #[(.int 10), (.int 1)] h0 (Q_mmax Z  h0) := by
  refine Con.walk (Jvm.Free.JP.mathPlain rfl (by decide +kernel)) ?_
  intro p e s m below meth c T0 X0 hx hZ hby hml hown hnm hret hlk e0
  obtain ⟨hw, ⟨cz, S_CS, hcz⟩, ⟨sf, S_SF, hsf⟩, ⟨xde, xkde, S_DE, V_DE⟩⟩ := id hD
  have N0 := Fr.nil Z.heap.size
  refine OEnds.cast (ef_mmax m ) ?_
  refine OEnds.st (S' := T0.setTop (mkF m 10 #[vi 10, vi 1] [(.int 10)])) (fun _ k => ?_) ?_
  · refine XS.iloadN X0.here hx rfl (hb hby d_jdk_29_65_0) rfl ?_
    refine XS.iloadN X0.here hx rfl (hb hby d_jdk_29_65_1) rfl ?_
    refine XS.icmpNo X0.here hx rfl (hb hby d_jdk_29_65_2) rfl (flt (by decide)).1 ?_
    refine XS.iloadN X0.here hx rfl (hb hby d_jdk_29_65_5) rfl ?_
    show Steps p.tables e below (T0.setTop (mkF m 6 #[vi 10, vi 1] [(.int 10)])) _
    refine XS.goto X0.here hx rfl (pc0 := 6) (pc' := 10) rfl (hb hby d_jdk_29_65_6) (by decide) (by decide) ?_
    exact k
  exact OEnds.ret X0 hx hret hlk rfl (Or.inl ⟨rfl, by simp, _, rfl⟩) (hb hby d_jdk_29_65_10) (by decide) (by decide) (by rw [e0]; exact ⟨rfl, N0, rfl⟩)
-- java/util/ArrayList.grow:(I)[Ljava/lang/Object;
def Q_growI (Z : State) (a : Addr) (de : Addr) (kde : ClassId) (h0 : Heap) (v : Option Value) (h : Heap) (L : List Loc) : Prop := ∃ (d : Addr) (k : ClassId), v = some (.ref d) ∧ Fr Z.heap.size L ∧ Keep h0 h [a] ∧ h0.size ≤ d ∧ Exa Z h a "java/util/ArrayList" ∧ Fld Z h a "java/util/ArrayList" "elementData" "[Ljava/lang/Object;" (.ref d) ∧ Fld Z h a "java/util/ArrayList" "size" "I" (.int 0) ∧ Fld Z h a "java/util/AbstractList" "modCount" "I" (.int 1) ∧ Exa Z h d "[Ljava/lang/Object;" ∧ Arv Z h d k (.object "java/lang/Object") (10 : Int32) [.null, .null, .null, .null, .null, .null, .null, .null, .null, .null] .null ∧ Ovr Z k "java/lang/Object"
theorem ef_growI (m : MethodId) (a : Addr) : entryFrame m #[(.ref a), (.int 1)] 4 = mkF m 0 #[vr a, vi 1, .unset, .unset] [] := by first | (simp [entryFrame, mkF, argsToLocals, Value.category, vi, vj, vr]; done) | rfl
theorem d_jdk_38_6_0 : decode jdk_38_method_6_code 0 = .ok (.aload_n 0, 1) := by decide +kernel
theorem d_jdk_38_6_1 : decode jdk_38_method_6_code 1 = .ok (.getfield 9, 3) := by decide +kernel
theorem d_jdk_38_6_4 : decode jdk_38_method_6_code 4 = .ok (.arraylength, 1) := by decide +kernel
theorem d_jdk_38_6_5 : decode jdk_38_method_6_code 5 = .ok (.istore_n 2, 1) := by decide +kernel
theorem d_jdk_38_6_6 : decode jdk_38_method_6_code 6 = .ok (.iload_n 2, 1) := by decide +kernel
theorem d_jdk_38_6_7 : decode jdk_38_method_6_code 7 = .ok (.ifCond .gt 13, 3) := by decide +kernel
theorem d_jdk_38_6_10 : decode jdk_38_method_6_code 10 = .ok (.aload_n 0, 1) := by decide +kernel
theorem d_jdk_38_6_11 : decode jdk_38_method_6_code 11 = .ok (.getfield 9, 3) := by decide +kernel
theorem d_jdk_38_6_14 : decode jdk_38_method_6_code 14 = .ok (.getstatic 39, 3) := by decide +kernel
theorem d_jdk_38_6_17 : decode jdk_38_method_6_code 17 = .ok (.if_acmp .eq 28, 3) := by decide +kernel
theorem d_jdk_38_6_45 : decode jdk_38_method_6_code 45 = .ok (.aload_n 0, 1) := by decide +kernel
theorem d_jdk_38_6_46 : decode jdk_38_method_6_code 46 = .ok (.bipush 10, 2) := by decide +kernel
theorem d_jdk_38_6_48 : decode jdk_38_method_6_code 48 = .ok (.iload_n 1, 1) := by decide +kernel
theorem d_jdk_38_6_49 : decode jdk_38_method_6_code 49 = .ok (.invokestatic 79, 3) := by decide +kernel
theorem pd_2 : parseMethodDescriptor "(II)I" = some ⟨[.int, .int], some .int⟩ := by decide +kernel
theorem d_jdk_38_6_52 : decode jdk_38_method_6_code 52 = .ok (.anewarray 7, 3) := by decide +kernel
theorem d_jdk_38_6_55 : decode jdk_38_method_6_code 55 = .ok (.dup_x1, 1) := by decide +kernel
theorem d_jdk_38_6_56 : decode jdk_38_method_6_code 56 = .ok (.putfield 9, 3) := by decide +kernel
theorem d_jdk_38_6_59 : decode jdk_38_method_6_code 59 = .ok (.areturn, 1) := by decide +kernel
set_option maxRecDepth 65536 in
set_option maxHeartbeats 40000000 in
theorem rm_growI (l : Launch) {Z : State} {a0 : Array Value} (hD : Wd Z a0) (a : Addr) (de : Addr) (kde : ClassId) {h0 : Heap} (O0 : Ext Z.heap h0) (E_a : Exa Z h0 a "java/util/ArrayList") (F_ed_a : Fld Z h0 a "java/util/ArrayList" "elementData" "[Ljava/lang/Object;" (.ref de)) (F_sz_a : Fld Z h0 a "java/util/ArrayList" "size" "I" (.int 0)) (F_mc_a : Fld Z h0 a "java/util/AbstractList" "modCount" "I" (.int 1)) (ge_a : Z.heap.size ≤ a) (S_de : Sta Z Z.heap "java/util/ArrayList" "DEFAULTCAPACITY_EMPTY_ELEMENTDATA" "[Ljava/lang/Object;" (.ref de)) (V_de0 : Arv Z Z.heap de kde (.object "java/lang/Object") (0 : Int32) [] .null) :
    Con l Z (⟨"java/util/ArrayList", "grow", "(I)[Ljava/lang/Object;"⟩ : MethodName) jdk_38_method_6_code 4 (some (.array (.object "java/lang/Object"))) [] ({ frames := 1, cells := 1, slots := 10, locals := 14 } : Room) #[(.ref a), (.int 1)] h0 (Q_growI Z a de kde h0) := by
  refine Con.walk (plainFor_of_name pn_4) ?_
  intro p e s m below meth c T0 X0 hx hZ hby hml hown hnm hret hlk e0
  obtain ⟨hw, ⟨cz, S_CS, hcz⟩, ⟨sf, S_SF, hsf⟩, ⟨xde, xkde, S_DE, V_DE⟩⟩ := id hD
  have N0 := Fr.nil Z.heap.size
  have K0 : Keep h0 h0 [a] := Keep.refl _ _
  have V_de := V_de0.ext O0
  refine OEnds.cast (ef_growI m a) ?_
  refine OEnds.st (S' := T0.setTop (mkF m 1 #[vr a, vi 1, .unset, .unset] [(.ref a)])) (fun _ k => ?_) ?_
  · refine XS.aloadN X0.here hx rfl (hb hby d_jdk_38_6_0) rfl rfl ?_
    exact k
  obtain ⟨T1, X1, e1, st1⟩ := getF X0 hx hZ hown (host := "") (Or.inl (wq hw 24 rfl)) Via.refl e0 F_ed_a (g := (mkF m 1 #[vr a, vi 1, .unset, .unset] [(.ref a)])) rfl rfl (hb hby d_jdk_38_6_1)
  refine OEnds.st st1 ?_
  obtain ⟨cl_de_2, Ar_de_2, q_de_2, S_de_2, N_de_2, H_de_2, G_de_2⟩ := id V_de
  refine OEnds.st (S' := T1.setTop (mkF m 5 #[vr a, vi 1, .unset, .unset] [(.int 0)])) (fun tg kq9 => X1.arraylength hx (by rw [e1]; exact Ar_de_2.1) (State.isArrayOf_alike hZ.alike Ar_de_2.2.1) (g := (mkF m 4 #[vr a, vi 1, .unset, .unset] [(.ref de)])) rfl rfl (hb hby d_jdk_38_6_4) tg (by rw [len_of S_de_2 N_de_2]; exact kq9)) ?_
  refine OEnds.st (S' := T1.setTop (mkF m 11 #[vr a, vi 1, vi 0, .unset] [(.ref a)])) (fun _ k => ?_) ?_
  · refine XS.istoreN X1.here hx rfl (hb hby d_jdk_38_6_5) rfl (l' := #[vr a, vi 1, vi 0, .unset]) rfl ?_
    refine XS.iloadN X1.here hx rfl (hb hby d_jdk_38_6_6) rfl ?_
    refine XS.ifNo X1.here hx rfl (hb hby d_jdk_38_6_7) rfl ((if0 _ _).trans (flt (by decide)).2.2.1) ?_
    refine XS.aloadN X1.here hx rfl (hb hby d_jdk_38_6_10) rfl rfl ?_
    exact k
  obtain ⟨T3, X3, e3, st3⟩ := getF X1 hx hZ hown (host := "") (Or.inl (wq hw 24 rfl)) Via.refl e1 F_ed_a (g := (mkF m 11 #[vr a, vi 1, vi 0, .unset] [(.ref a)])) rfl rfl (hb hby d_jdk_38_6_11)
  refine OEnds.st st3 ?_
  obtain ⟨T4, X4, e4, st4⟩ := getS2 X3 hx hZ hown (host := "") (Or.inl (wq hw 23 rfl)) Via.refl e3 (S_de.ext O0) (g := (mkF m 14 #[vr a, vi 1, vi 0, .unset] [(.ref de)])) rfl (hb hby d_jdk_38_6_14)
  refine OEnds.st st4 ?_
  refine OEnds.st (S' := T4.setTop (mkF m 49 #[vr a, vi 1, vi 0, .unset] [(.int 1), (.int 10), (.ref a)])) (fun _ k => ?_) ?_
  · have hq17 : Jvm.Free.XT.acmp .eq ((.ref de) : Value) ((.ref de) : Value) = true := (Jvm.Free.XT.aa_eq_t rfl)
    refine Jvm.Free.XT.acmpYes X4.here hx rfl (pc0 := 17) (pc' := 45) rfl (hb hby d_jdk_38_6_17) rfl rfl rfl hq17 (by decide) (by decide) ?_
    refine XS.aloadN X4.here hx rfl (hb hby d_jdk_38_6_45) rfl rfl ?_
    refine XS.bipush X4.here hx rfl (hb hby d_jdk_38_6_46) ?_
    refine XS.iloadN X4.here hx rfl (hb hby d_jdk_38_6_48) rfl ?_
    exact k
  obtain ⟨_, T5, h5, L5, X5, e5, hQ5, st5⟩ := callC X4 hx hZ hown (wq hw 225 rfl) (wq hw 160 rfl) (wq hw 161 rfl) (wq hw 162 rfl) (by decide) (kc := 0) (ks := 0) (Con.sb (W := 1) (rm_mmax l hD  O0) hZ (wq hw 162 rfl) (wq hw 161 rfl) (by decide) (by decide)) e4 (g := (mkF m 49 #[vr a, vi 1, vi 0, .unset] [(.int 1), (.int 10), (.ref a)])) rfl (by rw [hml]; rfl) (argsL := [(.int 10), (.int 1)]) (rest := [(.ref a)]) (lenOf pd_2 rfl) rfl (by show 2 * 0 + _ ≤ _; exact Nat.le_of_eq rfl) (hb hby d_jdk_38_6_49) (by decide) (by decide)
  obtain ⟨rfl, Nq5, Hq5⟩ := hQ5
  refine OEnds.st st5 ?_
  replace N0 := Fr.app N0 Nq5
  replace e5 := e5.trans Hq5
  obtain ⟨T6, h6, k6, X6, e6, E6, A6, Ex6, Ov6, st6⟩ := newRE X5 hx hZ hown (wq hw 226 rfl) (wq hw 227 rfl) e5 (g := (mkF m 52 #[vr a, vi 1, vi 0, .unset] [(.int 10), (.ref a)])) rfl (hb hby d_jdk_38_6_52) rfl (by decide) (cap := 10) (by decide) (by decide) (by decide) (by decide) (ad := "[Ljava/lang/Object;") (by decide)
  obtain ⟨b6, g6⟩ : ∃ z, z = h0.size := ⟨_, rfl⟩
  rw [← g6] at A6 Ex6 st6
  refine OEnds.st st6 ?_
  have ne_a_b6 : a ≠ b6 := Nat.ne_of_lt (Nat.lt_of_lt_of_le E_a.lt (Nat.le_of_eq g6.symm))
  have ne_de_b6 : de ≠ b6 := Nat.ne_of_lt (Nat.lt_of_lt_of_le V_de.lt (Nat.le_of_eq g6.symm))
  have ge_b6 : Z.heap.size ≤ b6 := Nat.le_trans O0.1 (Nat.le_of_eq g6.symm)
  have sz_b6 : h0.size ≤ b6 := Nat.le_trans K0.1 (Nat.le_of_eq g6.symm)
  replace E_a := E_a.ext E6
  replace F_ed_a := F_ed_a.ext E6
  replace F_sz_a := F_sz_a.ext E6
  replace F_mc_a := F_mc_a.ext E6
  replace V_de := V_de.ext E6
  replace O0 : Ext Z.heap h6 := ext_trans O0 E6
  replace K0 : Keep h0 h6 [a] := K0.ext E6
  have V_b6 : Arv Z h6 b6 k6 (.object "java/lang/Object") (10 : Int32) [.null, .null, .null, .null, .null, .null, .null, .null, .null, .null] .null := (Arv.new A6 (by decide)).pad (pad_rep [] .null 10)
  refine OEnds.st (S' := T6.setTop (mkF m 56 #[vr a, vi 1, vi 0, .unset] [(.ref b6), (.ref a), (.ref b6)])) (fun _ k => ?_) ?_
  · refine XS.dupX1 X6.here hx rfl (hb hby d_jdk_38_6_55) rfl rfl rfl ?_
    exact k
  have ne_de_a : de ≠ a := Ne.symm (ne_arv E_a (wq hw 1 rfl) V_de)
  obtain ⟨T7, h7, X7, e7, W7, st7⟩ := putF X6 hx hZ hown (host := "") (Or.inl (wq hw 24 rfl)) Via.refl e6 F_ed_a E_a (Or.inl (wq hw 25 rfl)) (wq hw 1 rfl) (ty := (.array (.object "java/lang/Object"))) (by decide) rfl rfl (g := (mkF m 56 #[vr a, vi 1, vi 0, .unset] [(.ref b6), (.ref a), (.ref b6)])) rfl rfl (hb hby d_jdk_38_6_56)
  refine OEnds.st st7 ?_
  replace E_a := E_a.wr W7
  replace F_ed_a := F_ed_a.same W7
  replace F_sz_a := F_sz_a.other W7 (Or.inr (slot_ne (Or.inl (wq hw 209 rfl)) (Or.inl (wq hw 25 rfl)) (by decide) (t := .int) (t' := (.array (.object "java/lang/Object"))) (by decide) (by decide)))
  replace F_mc_a := F_mc_a.other W7 (Or.inr (slot_ne (Or.inl (wq hw 22 rfl)) (Or.inl (wq hw 25 rfl)) (by decide) (t := .int) (t' := (.array (.object "java/lang/Object"))) (by decide) (by decide)))
  replace V_de := V_de.other W7 ne_de_a
  replace V_b6 := V_b6.other W7 (Ne.symm ne_a_b6)
  replace Ex6 := Ex6.wr W7
  replace O0 : Ext Z.heap h7 := ext_wr O0 W7 ge_a
  replace N0 := Fr.snoc X7 N0 ge_a
  replace K0 : Keep h0 h7 [a] := K0.wr W7 (Or.inl (List.mem_of_getElem? (i := 0) rfl))
  exact OEnds.ret X7 hx hret hlk rfl (Or.inr (Or.inr (Or.inr (Or.inr ⟨rfl, rfl, rfl⟩)))) (hb hby d_jdk_38_6_59) (by decide) (by decide) (by rw [e7]; exact ⟨b6, k6, rfl, N0, K0, sz_b6, E_a, F_ed_a, F_sz_a, F_mc_a, Ex6, V_b6, Ov6⟩)
-- java/util/ArrayList.grow:()[Ljava/lang/Object;
def Q_grow0 (Z : State) (a : Addr) (de : Addr) (kde : ClassId) (h0 : Heap) (v : Option Value) (h : Heap) (L : List Loc) : Prop := ∃ (d : Addr) (k : ClassId), v = some (.ref d) ∧ Fr Z.heap.size L ∧ Keep h0 h [a] ∧ h0.size ≤ d ∧ Exa Z h a "java/util/ArrayList" ∧ Fld Z h a "java/util/ArrayList" "elementData" "[Ljava/lang/Object;" (.ref d) ∧ Fld Z h a "java/util/ArrayList" "size" "I" (.int 0) ∧ Fld Z h a "java/util/AbstractList" "modCount" "I" (.int 1) ∧ Exa Z h d "[Ljava/lang/Object;" ∧ Arv Z h d k (.object "java/lang/Object") (10 : Int32) [.null, .null, .null, .null, .null, .null, .null, .null, .null, .null] .null ∧ Ovr Z k "java/lang/Object"
theorem ef_grow0 (m : MethodId) (a : Addr) : entryFrame m #[(.ref a)] 1 = mkF m 0 #[vr a] [] := by first | (simp [entryFrame, mkF, argsToLocals, Value.category, vi, vj, vr]; done) | rfl
theorem d_jdk_38_7_0 : decode jdk_38_method_7_code 0 = .ok (.aload_n 0, 1) := by decide +kernel
theorem d_jdk_38_7_1 : decode jdk_38_method_7_code 1 = .ok (.aload_n 0, 1) := by decide +kernel
theorem d_jdk_38_7_2 : decode jdk_38_method_7_code 2 = .ok (.getfield 48, 3) := by decide +kernel
theorem d_jdk_38_7_5 : decode jdk_38_method_7_code 5 = .ok (.iconst 1, 1) := by decide +kernel
theorem d_jdk_38_7_6 : decode jdk_38_method_7_code 6 = .ok (.iadd, 1) := by decide +kernel
theorem d_jdk_38_7_7 : decode jdk_38_method_7_code 7 = .ok (.invokevirtual 69, 3) := by decide +kernel
theorem pd_3 : parseMethodDescriptor "(I)[Ljava/lang/Object;" = some ⟨[.int], some (.array (.object "java/lang/Object"))⟩ := by decide +kernel
theorem d_jdk_38_7_10 : decode jdk_38_method_7_code 10 = .ok (.areturn, 1) := by decide +kernel
set_option maxRecDepth 65536 in
set_option maxHeartbeats 40000000 in
theorem rm_grow0 (l : Launch) {Z : State} {a0 : Array Value} (hD : Wd Z a0) (a : Addr) (de : Addr) (kde : ClassId) {h0 : Heap} (O0 : Ext Z.heap h0) (E_a : Exa Z h0 a "java/util/ArrayList") (F_ed_a : Fld Z h0 a "java/util/ArrayList" "elementData" "[Ljava/lang/Object;" (.ref de)) (F_sz_a : Fld Z h0 a "java/util/ArrayList" "size" "I" (.int 0)) (F_mc_a : Fld Z h0 a "java/util/AbstractList" "modCount" "I" (.int 1)) (ge_a : Z.heap.size ≤ a) (S_de : Sta Z Z.heap "java/util/ArrayList" "DEFAULTCAPACITY_EMPTY_ELEMENTDATA" "[Ljava/lang/Object;" (.ref de)) (V_de0 : Arv Z Z.heap de kde (.object "java/lang/Object") (0 : Int32) [] .null) :
    Con l Z (⟨"java/util/ArrayList", "grow", "()[Ljava/lang/Object;"⟩ : MethodName) jdk_38_method_7_code 1 (some (.array (.object "java/lang/Object"))) [] ({ frames := 2, cells := 1, slots := 10, locals := 29 } : Room) #[(.ref a)] h0 (Q_grow0 Z a de kde h0) := by
  refine Con.walk (plainFor_of_name pn_4) ?_
  intro p e s m below meth c T0 X0 hx hZ hby hml hown hnm hret hlk e0
  obtain ⟨hw, ⟨cz, S_CS, hcz⟩, ⟨sf, S_SF, hsf⟩, ⟨xde, xkde, S_DE, V_DE⟩⟩ := id hD
  have N0 := Fr.nil Z.heap.size
  have K0 : Keep h0 h0 [a] := Keep.refl _ _
  refine OEnds.cast (ef_grow0 m a) ?_
  refine OEnds.st (S' := T0.setTop (mkF m 2 #[vr a] [(.ref a), (.ref a)])) (fun _ k => ?_) ?_
  · refine XS.aloadN X0.here hx rfl (hb hby d_jdk_38_7_0) rfl rfl ?_
    refine XS.aloadN X0.here hx rfl (hb hby d_jdk_38_7_1) rfl rfl ?_
    exact k
  obtain ⟨T1, X1, e1, st1⟩ := getF X0 hx hZ hown (host := "") (Or.inl (wq hw 208 rfl)) Via.refl e0 F_sz_a (g := (mkF m 2 #[vr a] [(.ref a), (.ref a)])) rfl rfl (hb hby d_jdk_38_7_2)
  refine OEnds.st st1 ?_
  refine OEnds.st (S' := T1.setTop (mkF m 7 #[vr a] [(.int 1), (.ref a)])) (fun _ k => ?_) ?_
  · refine XS.iconst X1.here hx rfl (hb hby d_jdk_38_7_5) ?_
    refine XS.iadd X1.here hx rfl (hb hby d_jdk_38_7_6) rfl ?_
    exact k
  obtain ⟨_, T2, h2, L2, X2, e2, hQ2, st2⟩ := privC X1 hx hZ (y := (⟨"java/util/ArrayList", "grow", "(I)[Ljava/lang/Object;"⟩ : MethodName)) hown (wq hw 220 rfl) (wq hw 221 rfl) (wq hw 223 rfl) (wq hw 222 rfl) (wq hw 224 rfl) (by decide) (kc := 1) (ks := 10) (Con.sb (W := 0) (rm_growI l hD a de kde O0 E_a F_ed_a F_sz_a F_mc_a ge_a S_de V_de0) hZ (wq hw 224 rfl) (wq hw 2 rfl) (by decide) (by decide)) e1 E_a (g := (mkF m 7 #[vr a] [(.int 1), (.ref a)])) rfl (by rw [hml]; rfl) (argsL := [(.int 1)]) (rest := []) (lenOf pd_3 rfl) rfl (by show 2 * 0 + _ ≤ _; exact Nat.le_of_eq rfl) (hb hby d_jdk_38_7_7) (by decide) (by decide)
  obtain ⟨d2, k2, rfl, Nq2, Kq2, szd2, Eq2, Fe2, Fs2, Fm2, Ed2, V2, Ov2⟩ := hQ2
  refine OEnds.st st2 ?_
  replace N0 := Fr.app N0 Nq2
  have ne_a_d2 : a ≠ d2 := Nat.ne_of_lt (Nat.lt_of_lt_of_le E_a.lt szd2)
  have ge_d2 : Z.heap.size ≤ d2 := Nat.le_trans O0.1 szd2
  have sz_d2 : h0.size ≤ d2 := Nat.le_trans K0.1 szd2
  replace E_a := E_a.keep Kq2
  replace O0 : Ext Z.heap h2 := ext_keep O0 Kq2 (allS ge_a all0)
  replace K0 : Keep h0 h2 [a] := K0.trans Kq2 (allS (Or.inl (List.mem_of_getElem? (i := 0) rfl)) all0)
  exact OEnds.ret X2 hx hret hlk rfl (Or.inr (Or.inr (Or.inr (Or.inr ⟨rfl, rfl, rfl⟩)))) (hb hby d_jdk_38_7_10) (by decide) (by decide) (by rw [e2]; exact ⟨d2, k2, rfl, N0, K0, sz_d2, Eq2, Fe2, Fs2, Fm2, Ed2, V2, Ov2⟩)
-- java/util/ArrayList.add:(Ljava/lang/Object;[Ljava/lang/Object;I)V
def Q_help0 (Z : State) (a : Addr) (x : Addr) (de : Addr) (kde : ClassId) (h0 : Heap) (v : Option Value) (h : Heap) (L : List Loc) : Prop := v = none ∧ Fr Z.heap.size L ∧ Keep h0 h [a] ∧ Fld Z h a "java/util/ArrayList" "size" "I" (.int 1)
theorem ef_help0 (m : MethodId) (a : Addr) (x : Addr) (de : Addr) : entryFrame m #[(.ref a), (.ref x), (.ref de), (.int 0)] 4 = mkF m 0 #[vr a, vr x, vr de, vi 0] [] := by first | (simp [entryFrame, mkF, argsToLocals, Value.category, vi, vj, vr]; done) | rfl
theorem d_jdk_38_24_0 : decode jdk_38_method_24_code 0 = .ok (.iload_n 3, 1) := by decide +kernel
theorem d_jdk_38_24_1 : decode jdk_38_method_24_code 1 = .ok (.aload_n 2, 1) := by decide +kernel
theorem d_jdk_38_24_2 : decode jdk_38_method_24_code 2 = .ok (.arraylength, 1) := by decide +kernel
theorem d_jdk_38_24_3 : decode jdk_38_method_24_code 3 = .ok (.if_icmp .ne 8, 3) := by decide +kernel
theorem d_jdk_38_24_6 : decode jdk_38_method_24_code 6 = .ok (.aload_n 0, 1) := by decide +kernel
theorem d_jdk_38_24_7 : decode jdk_38_method_24_code 7 = .ok (.invokevirtual 129, 3) := by decide +kernel
theorem pd_4 : parseMethodDescriptor "()[Ljava/lang/Object;" = some ⟨[], some (.array (.object "java/lang/Object"))⟩ := by decide +kernel
theorem d_jdk_38_24_10 : decode jdk_38_method_24_code 10 = .ok (.astore_n 2, 1) := by decide +kernel
theorem d_jdk_38_24_11 : decode jdk_38_method_24_code 11 = .ok (.aload_n 2, 1) := by decide +kernel
theorem d_jdk_38_24_12 : decode jdk_38_method_24_code 12 = .ok (.iload_n 3, 1) := by decide +kernel
theorem d_jdk_38_24_13 : decode jdk_38_method_24_code 13 = .ok (.aload_n 1, 1) := by decide +kernel
theorem d_jdk_38_24_14 : decode jdk_38_method_24_code 14 = .ok (.aastore, 1) := by decide +kernel
theorem d_jdk_38_24_15 : decode jdk_38_method_24_code 15 = .ok (.aload_n 0, 1) := by decide +kernel
theorem d_jdk_38_24_16 : decode jdk_38_method_24_code 16 = .ok (.iload_n 3, 1) := by decide +kernel
theorem d_jdk_38_24_17 : decode jdk_38_method_24_code 17 = .ok (.iconst 1, 1) := by decide +kernel
theorem d_jdk_38_24_18 : decode jdk_38_method_24_code 18 = .ok (.iadd, 1) := by decide +kernel
theorem d_jdk_38_24_19 : decode jdk_38_method_24_code 19 = .ok (.putfield 48, 3) := by decide +kernel
theorem d_jdk_38_24_22 : decode jdk_38_method_24_code 22 = .ok (.return_, 1) := by decide +kernel
set_option maxRecDepth 65536 in
set_option maxHeartbeats 40000000 in
theorem rm_help0 (l : Launch) {Z : State} {a0 : Array Value} (hD : Wd Z a0) (a : Addr) (x : Addr) (de : Addr) (kde : ClassId) {h0 : Heap} (O0 : Ext Z.heap h0) (E_a : Exa Z h0 a "java/util/ArrayList") (F_ed_a : Fld Z h0 a "java/util/ArrayList" "elementData" "[Ljava/lang/Object;" (.ref de)) (F_sz_a : Fld Z h0 a "java/util/ArrayList" "size" "I" (.int 0)) (F_mc_a : Fld Z h0 a "java/util/AbstractList" "modCount" "I" (.int 1)) (ge_a : Z.heap.size ≤ a) (S_de : Sta Z Z.heap "java/util/ArrayList" "DEFAULTCAPACITY_EMPTY_ELEMENTDATA" "[Ljava/lang/Object;" (.ref de)) (V_de0 : Arv Z Z.heap de kde (.object "java/lang/Object") (0 : Int32) [] .null) (E_x : Exa Z h0 x "com/example/anteroom/anteroom/store/LogicalPath") :
    Con l Z (⟨"java/util/ArrayList", "add", "(Ljava/lang/Object;[Ljava/lang/Object;I)V"⟩ : MethodName) jdk_38_method_24_code 4 none [] ({ frames := 3, cells := 1, slots := 10, locals := 41 } : Room) #[(.ref a), (.ref x), (.ref de), (.int 0)] h0 (Q_help0 Z a x de kde h0) := by
  refine Con.walk (plainFor_of_name pn_4) ?_
  intro p e s m below meth c T0 X0 hx hZ hby hml hown hnm hret hlk e0
  obtain ⟨hw, ⟨cz, S_CS, hcz⟩, ⟨sf, S_SF, hsf⟩, ⟨xde, xkde, S_DE, V_DE⟩⟩ := id hD
  have N0 := Fr.nil Z.heap.size
  have K0 : Keep h0 h0 [a] := Keep.refl _ _
  have V_de := V_de0.ext O0
  refine OEnds.cast (ef_help0 m a x de) ?_
  refine OEnds.st (S' := T0.setTop (mkF m 2 #[vr a, vr x, vr de, vi 0] [(.ref de), (.int 0)])) (fun _ k => ?_) ?_
  · refine XS.iloadN X0.here hx rfl (hb hby d_jdk_38_24_0) rfl ?_
    refine XS.aloadN X0.here hx rfl (hb hby d_jdk_38_24_1) rfl rfl ?_
    exact k
  obtain ⟨cl_de_1, Ar_de_1, q_de_1, S_de_1, N_de_1, H_de_1, G_de_1⟩ := id V_de
  refine OEnds.st (S' := T0.setTop (mkF m 3 #[vr a, vr x, vr de, vi 0] [(.int 0), (.int 0)])) (fun tg kq9 => X0.arraylength hx (by rw [e0]; exact Ar_de_1.1) (State.isArrayOf_alike hZ.alike Ar_de_1.2.1) (g := (mkF m 2 #[vr a, vr x, vr de, vi 0] [(.ref de), (.int 0)])) rfl rfl (hb hby d_jdk_38_24_2) tg (by rw [len_of S_de_1 N_de_1]; exact kq9)) ?_
  refine OEnds.st (S' := T0.setTop (mkF m 7 #[vr a, vr x, vr de, vi 0] [(.ref a)])) (fun _ k => ?_) ?_
  · refine XS.icmpNo X0.here hx rfl (hb hby d_jdk_38_24_3) rfl (teq (by decide)).2 ?_
    refine XS.aloadN X0.here hx rfl (hb hby d_jdk_38_24_6) rfl rfl ?_
    exact k
  obtain ⟨_, T2, h2, L2, X2, e2, hQ2, st2⟩ := privC X0 hx hZ (y := (⟨"java/util/ArrayList", "grow", "()[Ljava/lang/Object;"⟩ : MethodName)) hown (wq hw 215 rfl) (wq hw 216 rfl) (wq hw 218 rfl) (wq hw 217 rfl) (wq hw 219 rfl) (by decide) (kc := 1) (ks := 10) (Con.sb (W := 0) (rm_grow0 l hD a de kde O0 E_a F_ed_a F_sz_a F_mc_a ge_a S_de V_de0) hZ (wq hw 219 rfl) (wq hw 2 rfl) (by decide) (by decide)) e0 E_a (g := (mkF m 7 #[vr a, vr x, vr de, vi 0] [(.ref a)])) rfl (by rw [hml]; rfl) (argsL := []) (rest := []) (lenOf pd_4 rfl) rfl (by show 2 * 0 + _ ≤ _; exact Nat.le_of_eq rfl) (hb hby d_jdk_38_24_7) (by decide) (by decide)
  obtain ⟨d2, k2, rfl, Nq2, Kq2, szd2, Eq2, Fe2, Fs2, Fm2, Ed2, V2, Ov2⟩ := hQ2
  refine OEnds.st st2 ?_
  replace N0 := Fr.app N0 Nq2
  have ne_a_d2 : a ≠ d2 := Nat.ne_of_lt (Nat.lt_of_lt_of_le E_a.lt szd2)
  have ne_de_d2 : de ≠ d2 := Nat.ne_of_lt (Nat.lt_of_lt_of_le V_de.lt szd2)
  have ne_x_d2 : x ≠ d2 := Nat.ne_of_lt (Nat.lt_of_lt_of_le E_x.lt szd2)
  have ge_d2 : Z.heap.size ≤ d2 := Nat.le_trans O0.1 szd2
  have sz_d2 : h0.size ≤ d2 := Nat.le_trans K0.1 szd2
  have ne_de_a : de ≠ a := Ne.symm (ne_arv E_a (wq hw 1 rfl) V_de)
  have ne_x_a : x ≠ a := ne_exa E_x E_a (by decide)
  replace E_a := E_a.keep Kq2
  replace V_de := V_de.keep Kq2 (ninS ne_de_a nin0)
  replace E_x := E_x.keep Kq2
  replace O0 : Ext Z.heap h2 := ext_keep O0 Kq2 (allS ge_a all0)
  replace K0 : Keep h0 h2 [a] := K0.trans Kq2 (allS (Or.inl (List.mem_of_getElem? (i := 0) rfl)) all0)
  refine OEnds.st (S' := T2.setTop (mkF m 14 #[vr a, vr x, vr d2, vi 0] [(.ref x), (.int 0), (.ref d2)])) (fun _ k => ?_) ?_
  · refine XS.astoreN X2.here hx rfl (hb hby d_jdk_38_24_10) rfl rfl (l' := #[vr a, vr x, vr d2, vi 0]) rfl ?_
    refine XS.aloadN X2.here hx rfl (hb hby d_jdk_38_24_11) rfl rfl ?_
    refine XS.iloadN X2.here hx rfl (hb hby d_jdk_38_24_12) rfl ?_
    refine XS.aloadN X2.here hx rfl (hb hby d_jdk_38_24_13) rfl rfl ?_
    exact k
  obtain ⟨cl_d2_3, Ar_d2_3, q_d2_3, S_d2_3, N_d2_3, H_d2_3, G_d2_3⟩ := V2
  obtain ⟨T3, h3, X3, e3, W3, st3⟩ := stR X2 hx hZ e2 Ar_d2_3 (j := (0 : Int32)) (inb_of S_d2_3 ⟨by decide, by decide⟩) rfl (Sto.ofV Ar_d2_3 q_d2_3 Ov2 (Ins.of_exa E_x (wq hw 228 rfl))) (g := (mkF m 14 #[vr a, vr x, vr d2, vi 0] [(.ref x), (.int 0), (.ref d2)])) rfl rfl (hb hby d_jdk_38_24_14)
  have V_d2_3 : Arv Z h3 d2 k2 (.object "java/lang/Object") (10 : Int32) [(.ref x), .null, .null, .null, .null, .null, .null, .null, .null, .null] .null := Arv.set Ar_d2_3 q_d2_3 S_d2_3 N_d2_3 H_d2_3 G_d2_3 rfl W3 0 rfl (Nat.le_of_ble_eq_true rfl)
  refine OEnds.st st3 ?_
  replace E_a := E_a.wr W3
  replace V_de := V_de.other W3 ne_de_d2
  replace E_x := E_x.wr W3
  replace Fe2 := Fe2.other W3 (Or.inl ne_a_d2)
  replace Fs2 := Fs2.other W3 (Or.inl ne_a_d2)
  replace Fm2 := Fm2.other W3 (Or.inl ne_a_d2)
  replace Ed2 := Ed2.wr W3
  replace O0 : Ext Z.heap h3 := ext_wr O0 W3 ge_d2
  replace N0 := Fr.snoc X3 N0 ge_d2
  replace K0 : Keep h0 h3 [a] := K0.wr W3 (Or.inr sz_d2)
  refine OEnds.st (S' := T3.setTop (mkF m 19 #[vr a, vr x, vr d2, vi 0] [(.int 1), (.ref a)])) (fun _ k => ?_) ?_
  · refine XS.aloadN X3.here hx rfl (hb hby d_jdk_38_24_15) rfl rfl ?_
    refine XS.iloadN X3.here hx rfl (hb hby d_jdk_38_24_16) rfl ?_
    refine XS.iconst X3.here hx rfl (hb hby d_jdk_38_24_17) ?_
    refine XS.iadd X3.here hx rfl (hb hby d_jdk_38_24_18) rfl ?_
    exact k
  obtain ⟨T4, h4, X4, e4, W4, st4⟩ := putF X3 hx hZ hown (host := "") (Or.inl (wq hw 208 rfl)) Via.refl e3 Fs2 E_a (Or.inl (wq hw 209 rfl)) (wq hw 1 rfl) (ty := .int) (by decide) rfl rfl (g := (mkF m 19 #[vr a, vr x, vr d2, vi 0] [(.int 1), (.ref a)])) rfl rfl (hb hby d_jdk_38_24_19)
  refine OEnds.st st4 ?_
  replace E_a := E_a.wr W4
  replace V_de := V_de.other W4 ne_de_a
  replace E_x := E_x.wr W4
  replace Fe2 := Fe2.other W4 (Or.inr (slot_ne (Or.inl (wq hw 25 rfl)) (Or.inl (wq hw 209 rfl)) (by decide) (t := (.array (.object "java/lang/Object"))) (t' := .int) (by decide) (by decide)))
  replace Fs2 := Fs2.same W4
  replace Fm2 := Fm2.other W4 (Or.inr (slot_ne (Or.inl (wq hw 22 rfl)) (Or.inl (wq hw 209 rfl)) (by decide) (t := .int) (t' := .int) (by decide) (by decide)))
  replace Ed2 := Ed2.wr W4
  replace V_d2_3 := V_d2_3.other W4 (Ne.symm ne_a_d2)
  replace O0 : Ext Z.heap h4 := ext_wr O0 W4 ge_a
  replace N0 := Fr.snoc X4 N0 ge_a
  replace K0 : Keep h0 h4 [a] := K0.wr W4 (Or.inl (List.mem_of_getElem? (i := 0) rfl))
  exact OEnds.retV X4 hx hret hlk (hb hby d_jdk_38_24_22) (by decide) (by decide) (by rw [e4]; exact ⟨rfl, N0, K0, Fs2⟩)
-- java/util/ArrayList.add:(Ljava/lang/Object;)Z
def Q_add0 (Z : State) (a : Addr) (x : Addr) (de : Addr) (kde : ClassId) (h0 : Heap) (v : Option Value) (h : Heap) (L : List Loc) : Prop := v = some (.int 1) ∧ Fr Z.heap.size L ∧ Keep h0 h [a] ∧ Fld Z h a "java/util/ArrayList" "size" "I" (.int 1)
theorem ef_add0 (m : MethodId) (a : Addr) (x : Addr) : entryFrame m #[(.ref a), (.ref x)] 2 = mkF m 0 #[vr a, vr x] [] := by first | (simp [entryFrame, mkF, argsToLocals, Value.category, vi, vj, vr]; done) | rfl
theorem d_jdk_38_25_0 : decode jdk_38_method_25_code 0 = .ok (.aload_n 0, 1) := by decide +kernel
theorem d_jdk_38_25_1 : decode jdk_38_method_25_code 1 = .ok (.dup, 1) := by decide +kernel
theorem d_jdk_38_25_2 : decode jdk_38_method_25_code 2 = .ok (.getfield 63, 3) := by decide +kernel
theorem d_jdk_38_25_5 : decode jdk_38_method_25_code 5 = .ok (.iconst 1, 1) := by decide +kernel
theorem d_jdk_38_25_6 : decode jdk_38_method_25_code 6 = .ok (.iadd, 1) := by decide +kernel
theorem d_jdk_38_25_7 : decode jdk_38_method_25_code 7 = .ok (.putfield 63, 3) := by decide +kernel
theorem d_jdk_38_25_10 : decode jdk_38_method_25_code 10 = .ok (.aload_n 0, 1) := by decide +kernel
theorem d_jdk_38_25_11 : decode jdk_38_method_25_code 11 = .ok (.aload_n 1, 1) := by decide +kernel
theorem d_jdk_38_25_12 : decode jdk_38_method_25_code 12 = .ok (.aload_n 0, 1) := by decide +kernel
theorem d_jdk_38_25_13 : decode jdk_38_method_25_code 13 = .ok (.getfield 9, 3) := by decide +kernel
theorem d_jdk_38_25_16 : decode jdk_38_method_25_code 16 = .ok (.aload_n 0, 1) := by decide +kernel
theorem d_jdk_38_25_17 : decode jdk_38_method_25_code 17 = .ok (.getfield 48, 3) := by decide +kernel
theorem d_jdk_38_25_20 : decode jdk_38_method_25_code 20 = .ok (.invokevirtual 131, 3) := by decide +kernel
theorem pd_5 : parseMethodDescriptor "(Ljava/lang/Object;[Ljava/lang/Object;I)V" = some ⟨[(.object "java/lang/Object"), (.array (.object "java/lang/Object")), .int], none⟩ := by decide +kernel
theorem d_jdk_38_25_23 : decode jdk_38_method_25_code 23 = .ok (.iconst 1, 1) := by decide +kernel
theorem d_jdk_38_25_24 : decode jdk_38_method_25_code 24 = .ok (.ireturn, 1) := by decide +kernel
set_option maxRecDepth 65536 in
set_option maxHeartbeats 40000000 in
theorem rm_add0 (l : Launch) {Z : State} {a0 : Array Value} (hD : Wd Z a0) (a : Addr) (x : Addr) (de : Addr) (kde : ClassId) {h0 : Heap} (O0 : Ext Z.heap h0) (E_a : Exa Z h0 a "java/util/ArrayList") (F_ed_a : Fld Z h0 a "java/util/ArrayList" "elementData" "[Ljava/lang/Object;" (.ref de)) (F_sz_a : Fld Z h0 a "java/util/ArrayList" "size" "I" (.int 0)) (F_mc_a : Fld Z h0 a "java/util/AbstractList" "modCount" "I" (.int 0)) (ge_a : Z.heap.size ≤ a) (S_de : Sta Z Z.heap "java/util/ArrayList" "DEFAULTCAPACITY_EMPTY_ELEMENTDATA" "[Ljava/lang/Object;" (.ref de)) (V_de0 : Arv Z Z.heap de kde (.object "java/lang/Object") (0 : Int32) [] .null) (E_x : Exa Z h0 x "com/example/anteroom/anteroom/store/LogicalPath") :
    Con l Z (⟨"java/util/ArrayList", "add", "(Ljava/lang/Object;)Z"⟩ : MethodName) jdk_38_method_25_code 2 (some .boolean) [] ({ frames := 4, cells := 1, slots := 10, locals := 56 } : Room) #[(.ref a), (.ref x)] h0 (Q_add0 Z a x de kde h0) := by
  refine Con.walk (plainFor_of_name pn_4) ?_
  intro p e s m below meth c T0 X0 hx hZ hby hml hown hnm hret hlk e0
  obtain ⟨hw, ⟨cz, S_CS, hcz⟩, ⟨sf, S_SF, hsf⟩, ⟨xde, xkde, S_DE, V_DE⟩⟩ := id hD
  have N0 := Fr.nil Z.heap.size
  have K0 : Keep h0 h0 [a] := Keep.refl _ _
  refine OEnds.cast (ef_add0 m a x) ?_
  refine OEnds.st (S' := T0.setTop (mkF m 2 #[vr a, vr x] [(.ref a), (.ref a)])) (fun _ k => ?_) ?_
  · refine XS.aloadN X0.here hx rfl (hb hby d_jdk_38_25_0) rfl rfl ?_
    refine XS.dup X0.here hx rfl (hb hby d_jdk_38_25_1) rfl rfl ?_
    exact k
  obtain ⟨T1, X1, e1, st1⟩ := getF X0 hx hZ hown (host := "") (Or.inl (wq hw 206 rfl)) (Via.of (wq hw 207 rfl)) e0 F_mc_a (g := (mkF m 2 #[vr a, vr x] [(.ref a), (.ref a)])) rfl rfl (hb hby d_jdk_38_25_2)
  refine OEnds.st st1 ?_
  refine OEnds.st (S' := T1.setTop (mkF m 7 #[vr a, vr x] [(.int 1), (.ref a)])) (fun _ k => ?_) ?_
  · refine XS.iconst X1.here hx rfl (hb hby d_jdk_38_25_5) ?_
    refine XS.iadd X1.here hx rfl (hb hby d_jdk_38_25_6) rfl ?_
    exact k
  have ne_x_a : x ≠ a := ne_exa E_x E_a (by decide)
  obtain ⟨T2, h2, X2, e2, W2, st2⟩ := putF X1 hx hZ hown (host := "") (Or.inl (wq hw 206 rfl)) (Via.of (wq hw 207 rfl)) e1 F_mc_a E_a (Or.inl (wq hw 22 rfl)) (wq hw 1 rfl) (ty := .int) (by decide) rfl rfl (g := (mkF m 7 #[vr a, vr x] [(.int 1), (.ref a)])) rfl rfl (hb hby d_jdk_38_25_7)
  refine OEnds.st st2 ?_
  replace E_a := E_a.wr W2
  replace F_ed_a := F_ed_a.other W2 (Or.inr (slot_ne (Or.inl (wq hw 25 rfl)) (Or.inl (wq hw 22 rfl)) (by decide) (t := (.array (.object "java/lang/Object"))) (t' := .int) (by decide) (by decide)))
  replace F_sz_a := F_sz_a.other W2 (Or.inr (slot_ne (Or.inl (wq hw 209 rfl)) (Or.inl (wq hw 22 rfl)) (by decide) (t := .int) (t' := .int) (by decide) (by decide)))
  replace F_mc_a := F_mc_a.same W2
  replace E_x := E_x.wr W2
  replace O0 : Ext Z.heap h2 := ext_wr O0 W2 ge_a
  replace N0 := Fr.snoc X2 N0 ge_a
  replace K0 : Keep h0 h2 [a] := K0.wr W2 (Or.inl (List.mem_of_getElem? (i := 0) rfl))
  refine OEnds.st (S' := T2.setTop (mkF m 13 #[vr a, vr x] [(.ref a), (.ref x), (.ref a)])) (fun _ k => ?_) ?_
  · refine XS.aloadN X2.here hx rfl (hb hby d_jdk_38_25_10) rfl rfl ?_
    refine XS.aloadN X2.here hx rfl (hb hby d_jdk_38_25_11) rfl rfl ?_
    refine XS.aloadN X2.here hx rfl (hb hby d_jdk_38_25_12) rfl rfl ?_
    exact k
  obtain ⟨T3, X3, e3, st3⟩ := getF X2 hx hZ hown (host := "") (Or.inl (wq hw 24 rfl)) Via.refl e2 F_ed_a (g := (mkF m 13 #[vr a, vr x] [(.ref a), (.ref x), (.ref a)])) rfl rfl (hb hby d_jdk_38_25_13)
  refine OEnds.st st3 ?_
  refine OEnds.st (S' := T3.setTop (mkF m 17 #[vr a, vr x] [(.ref a), (.ref de), (.ref x), (.ref a)])) (fun _ k => ?_) ?_
  · refine XS.aloadN X3.here hx rfl (hb hby d_jdk_38_25_16) rfl rfl ?_
    exact k
  obtain ⟨T4, X4, e4, st4⟩ := getF X3 hx hZ hown (host := "") (Or.inl (wq hw 208 rfl)) Via.refl e3 F_sz_a (g := (mkF m 17 #[vr a, vr x] [(.ref a), (.ref de), (.ref x), (.ref a)])) rfl rfl (hb hby d_jdk_38_25_17)
  refine OEnds.st st4 ?_
  obtain ⟨_, T5, h5, L5, X5, e5, hQ5, st5⟩ := privC X4 hx hZ (y := (⟨"java/util/ArrayList", "add", "(Ljava/lang/Object;[Ljava/lang/Object;I)V"⟩ : MethodName)) hown (wq hw 210 rfl) (wq hw 211 rfl) (wq hw 213 rfl) (wq hw 212 rfl) (wq hw 214 rfl) (by decide) (kc := 1) (ks := 10) (Con.sb (W := 0) (rm_help0 l hD a x de kde O0 E_a F_ed_a F_sz_a F_mc_a ge_a S_de V_de0 E_x) hZ (wq hw 214 rfl) (wq hw 2 rfl) (by decide) (by decide)) e4 E_a (g := (mkF m 20 #[vr a, vr x] [(.int 0), (.ref de), (.ref x), (.ref a)])) rfl (by rw [hml]; rfl) (argsL := [(.ref x), (.ref de), (.int 0)]) (rest := []) (lenOf pd_5 rfl) rfl (by show 2 * 0 + _ ≤ _; exact Nat.le_of_eq rfl) (hb hby d_jdk_38_25_20) (by decide) (by decide)
  obtain ⟨rfl, Nq5, Kq5, Fs5⟩ := hQ5
  refine OEnds.st st5 ?_
  replace N0 := Fr.app N0 Nq5
  replace E_a := E_a.keep Kq5
  replace E_x := E_x.keep Kq5
  replace O0 : Ext Z.heap h5 := ext_keep O0 Kq5 (allS ge_a all0)
  replace K0 : Keep h0 h5 [a] := K0.trans Kq5 (allS (Or.inl (List.mem_of_getElem? (i := 0) rfl)) all0)
  refine OEnds.st (S' := T5.setTop (mkF m 24 #[vr a, vr x] [(.int 1)])) (fun _ k => ?_) ?_
  · refine XS.iconst X5.here hx rfl (hb hby d_jdk_38_25_23) ?_
    exact k
  exact OEnds.ret X5 hx hret hlk (by decide) (Or.inl ⟨rfl, by simp, _, rfl⟩) (hb hby d_jdk_38_25_24) (by decide) (by decide) (by rw [e5]; exact ⟨rfl, N0, K0, Fs5⟩)
-- java/util/ArrayList.isEmpty:()Z
def Q_isEmp0 (Z : State) (a : Addr) (h0 : Heap) (v : Option Value) (h : Heap) (L : List Loc) : Prop := v = some (.int 1) ∧ Fr Z.heap.size L ∧ h = h0
theorem ef_isEmp0 (m : MethodId) (a : Addr) : entryFrame m #[(.ref a)] 1 = mkF m 0 #[vr a] [] := by first | (simp [entryFrame, mkF, argsToLocals, Value.category, vi, vj, vr]; done) | rfl
theorem d_jdk_38_9_0 : decode jdk_38_method_9_code 0 = .ok (.aload_n 0, 1) := by decide +kernel
theorem d_jdk_38_9_1 : decode jdk_38_method_9_code 1 = .ok (.getfield 48, 3) := by decide +kernel
theorem d_jdk_38_9_4 : decode jdk_38_method_9_code 4 = .ok (.ifCond .ne 7, 3) := by decide +kernel
theorem d_jdk_38_9_7 : decode jdk_38_method_9_code 7 = .ok (.iconst 1, 1) := by decide +kernel
theorem d_jdk_38_9_8 : decode jdk_38_method_9_code 8 = .ok (.goto 4, 3) := by decide +kernel
theorem d_jdk_38_9_12 : decode jdk_38_method_9_code 12 = .ok (.ireturn, 1) := by decide +kernel
set_option maxRecDepth 65536 in
set_option maxHeartbeats 40000000 in
theorem rm_isEmp0 (l : Launch) {Z : State} {a0 : Array Value} (hD : Wd Z a0) (a : Addr) {h0 : Heap} (O0 : Ext Z.heap h0) (F_sz_a : Fld Z h0 a "java/util/ArrayList" "size" "I" (.int 0)) :
    Con l Z (⟨"java/util/ArrayList", "isEmpty", "()Z"⟩ : MethodName) jdk_38_method_9_code 1 (some .boolean) [] ({ frames := 0, cells := 0, slots := 0, locals := 0 } : Room) #[(.ref a)] h0 (Q_isEmp0 Z a h0) := by
  refine Con.walk (plainFor_of_name pn_4) ?_
  intro p e s m below meth c T0 X0 hx hZ hby hml hown hnm hret hlk e0
  obtain ⟨hw, ⟨cz, S_CS, hcz⟩, ⟨sf, S_SF, hsf⟩, ⟨xde, xkde, S_DE, V_DE⟩⟩ := id hD
  have N0 := Fr.nil Z.heap.size
  refine OEnds.cast (ef_isEmp0 m a) ?_
  refine OEnds.st (S' := T0.setTop (mkF m 1 #[vr a] [(.ref a)])) (fun _ k => ?_) ?_
  · refine XS.aloadN X0.here hx rfl (hb hby d_jdk_38_9_0) rfl rfl ?_
    exact k
  obtain ⟨T1, X1, e1, st1⟩ := getF X0 hx hZ hown (host := "") (Or.inl (wq hw 208 rfl)) Via.refl e0 F_sz_a (g := (mkF m 1 #[vr a] [(.ref a)])) rfl rfl (hb hby d_jdk_38_9_1)
  refine OEnds.st st1 ?_
  refine OEnds.st (S' := T1.setTop (mkF m 12 #[vr a] [(.int 1)])) (fun _ k => ?_) ?_
  · refine XS.ifNo X1.here hx rfl (hb hby d_jdk_38_9_4) rfl ((if0 _ _).trans (teq (by decide)).2) ?_
    refine XS.iconst X1.here hx rfl (hb hby d_jdk_38_9_7) ?_
    refine XS.goto X1.here hx rfl (pc0 := 8) (pc' := 12) rfl (hb hby d_jdk_38_9_8) (by decide) (by decide) ?_
    exact k
  exact OEnds.ret X1 hx hret hlk (by decide) (Or.inl ⟨rfl, by simp, _, rfl⟩) (hb hby d_jdk_38_9_12) (by decide) (by decide) (by rw [e1]; exact ⟨rfl, N0, rfl⟩)
-- java/util/ArrayList.isEmpty:()Z
def Q_isEmp1 (Z : State) (a : Addr) (h0 : Heap) (v : Option Value) (h : Heap) (L : List Loc) : Prop := v = some (.int 0) ∧ Fr Z.heap.size L ∧ h = h0
theorem ef_isEmp1 (m : MethodId) (a : Addr) : entryFrame m #[(.ref a)] 1 = mkF m 0 #[vr a] [] := by first | (simp [entryFrame, mkF, argsToLocals, Value.category, vi, vj, vr]; done) | rfl
theorem d_jdk_38_9_11 : decode jdk_38_method_9_code 11 = .ok (.iconst 0, 1) := by decide +kernel
set_option maxRecDepth 65536 in
set_option maxHeartbeats 40000000 in
theorem rm_isEmp1 (l : Launch) {Z : State} {a0 : Array Value} (hD : Wd Z a0) (a : Addr) {h0 : Heap} (O0 : Ext Z.heap h0) (F_sz_a : Fld Z h0 a "java/util/ArrayList" "size" "I" (.int 1)) :
    Con l Z (⟨"java/util/ArrayList", "isEmpty", "()Z"⟩ : MethodName) jdk_38_method_9_code 1 (some .boolean) [] ({ frames := 0, cells := 0, slots := 0, locals := 0 } : Room) #[(.ref a)] h0 (Q_isEmp1 Z a h0) := by
  refine Con.walk (plainFor_of_name pn_4) ?_
  intro p e s m below meth c T0 X0 hx hZ hby hml hown hnm hret hlk e0
  obtain ⟨hw, ⟨cz, S_CS, hcz⟩, ⟨sf, S_SF, hsf⟩, ⟨xde, xkde, S_DE, V_DE⟩⟩ := id hD
  have N0 := Fr.nil Z.heap.size
  refine OEnds.cast (ef_isEmp1 m a) ?_
  refine OEnds.st (S' := T0.setTop (mkF m 1 #[vr a] [(.ref a)])) (fun _ k => ?_) ?_
  · refine XS.aloadN X0.here hx rfl (hb hby d_jdk_38_9_0) rfl rfl ?_
    exact k
  obtain ⟨T1, X1, e1, st1⟩ := getF X0 hx hZ hown (host := "") (Or.inl (wq hw 208 rfl)) Via.refl e0 F_sz_a (g := (mkF m 1 #[vr a] [(.ref a)])) rfl rfl (hb hby d_jdk_38_9_1)
  refine OEnds.st st1 ?_
  refine OEnds.st (S' := T1.setTop (mkF m 12 #[vr a] [(.int 0)])) (fun _ k => ?_) ?_
  · refine XS.ifYes X1.here hx rfl (pc0 := 4) (pc' := 11) rfl (hb hby d_jdk_38_9_4) rfl ((if0 _ _).trans (feq (by decide)).2) (by decide) (by decide) ?_
    refine XS.iconst X1.here hx rfl (hb hby d_jdk_38_9_11) ?_
    exact k
  exact OEnds.ret X1 hx hret hlk (by decide) (Or.inl ⟨rfl, by simp, _, rfl⟩) (hb hby d_jdk_38_9_12) (by decide) (by decide) (by rw [e1]; exact ⟨rfl, N0, rfl⟩)
-- java/lang/String.isLatin1:()Z
def Q_isLatS (Z : State) (a : Addr) (h0 : Heap) (v : Option Value) (h : Heap) (L : List Loc) : Prop := v = some (.int 1) ∧ Fr Z.heap.size L ∧ h = h0
theorem ef_isLatS (m : MethodId) (a : Addr) : entryFrame m #[(.ref a)] 1 = mkF m 0 #[vr a] [] := by first | (simp [entryFrame, mkF, argsToLocals, Value.category, vi, vj, vr]; done) | rfl
theorem d_jdk_42_154_0 : decode jdk_42_method_154_code 0 = .ok (.getstatic 38, 3) := by decide +kernel
theorem d_jdk_42_154_3 : decode jdk_42_method_154_code 3 = .ok (.ifCond .eq 14, 3) := by decide +kernel
theorem d_jdk_42_154_6 : decode jdk_42_method_154_code 6 = .ok (.aload_n 0, 1) := by decide +kernel
theorem d_jdk_42_154_7 : decode jdk_42_method_154_code 7 = .ok (.getfield 15, 3) := by decide +kernel
theorem d_jdk_42_154_10 : decode jdk_42_method_154_code 10 = .ok (.ifCond .ne 7, 3) := by decide +kernel
theorem d_jdk_42_154_13 : decode jdk_42_method_154_code 13 = .ok (.iconst 1, 1) := by decide +kernel
theorem d_jdk_42_154_14 : decode jdk_42_method_154_code 14 = .ok (.goto 4, 3) := by decide +kernel
theorem d_jdk_42_154_18 : decode jdk_42_method_154_code 18 = .ok (.ireturn, 1) := by decide +kernel
set_option maxRecDepth 65536 in
set_option maxHeartbeats 40000000 in
theorem rm_isLatS (l : Launch) {Z : State} {a0 : Array Value} (hD : Wd Z a0) (a : Addr) {h0 : Heap} (O0 : Ext Z.heap h0) (F_coder_a : Fld Z h0 a "java/lang/String" "coder" "B" (.int 0)) :
    Con l Z (⟨"java/lang/String", "isLatin1", "()Z"⟩ : MethodName) jdk_42_method_154_code 1 (some .boolean) [] ({ frames := 0, cells := 0, slots := 0, locals := 0 } : Room) #[(.ref a)] h0 (Q_isLatS Z a h0) := by
  refine Con.walk (plainFor_of_name pn_0) ?_
  intro p e s m below meth c T0 X0 hx hZ hby hml hown hnm hret hlk e0
  obtain ⟨hw, ⟨cz, S_CS, hcz⟩, ⟨sf, S_SF, hsf⟩, ⟨xde, xkde, S_DE, V_DE⟩⟩ := id hD
  have N0 := Fr.nil Z.heap.size
  refine OEnds.cast (ef_isLatS m a) ?_
  obtain ⟨T1, X1, e1, st1⟩ := getS2 X0 hx hZ hown (host := "") (Or.inl (wq hw 65 rfl)) Via.refl e0 (S_CS.ext O0) (g := (mkF m 0 #[vr a] [])) rfl (hb hby d_jdk_42_154_0)
  refine OEnds.st st1 ?_
  refine OEnds.st (S' := T1.setTop (mkF m 7 #[vr a] [(.ref a)])) (fun _ k => ?_) ?_
  · refine XS.ifNo X1.here hx rfl (hb hby d_jdk_42_154_3) rfl ((if0 _ _).trans (feq hcz).1) ?_
    refine XS.aloadN X1.here hx rfl (hb hby d_jdk_42_154_6) rfl rfl ?_
    exact k
  obtain ⟨T2, X2, e2, st2⟩ := getF X1 hx hZ hown (host := "") (Or.inl (wq hw 77 rfl)) Via.refl e1 F_coder_a (g := (mkF m 7 #[vr a] [(.ref a)])) rfl rfl (hb hby d_jdk_42_154_7)
  refine OEnds.st st2 ?_
  refine OEnds.st (S' := T2.setTop (mkF m 18 #[vr a] [(.int 1)])) (fun _ k => ?_) ?_
  · refine XS.ifNo X2.here hx rfl (hb hby d_jdk_42_154_10) rfl ((if0 _ _).trans (teq (by decide)).2) ?_
    refine XS.iconst X2.here hx rfl (hb hby d_jdk_42_154_13) ?_
    refine XS.goto X2.here hx rfl (pc0 := 14) (pc' := 18) rfl (hb hby d_jdk_42_154_14) (by decide) (by decide) ?_
    exact k
  exact OEnds.ret X2 hx hret hlk (by decide) (Or.inl ⟨rfl, by simp, _, rfl⟩) (hb hby d_jdk_42_154_18) (by decide) (by decide) (by rw [e2]; exact ⟨rfl, N0, rfl⟩)
-- jdk/internal/util/Preconditions.checkIndex:(IILjava/util/function/BiFunction;)I
def Q_chkI (Z : State) (f : Value) (h0 : Heap) (v : Option Value) (h : Heap) (L : List Loc) : Prop := v = some (.int 0) ∧ Fr Z.heap.size L ∧ h = h0
theorem ef_chkI (m : MethodId) (f : Value) (hr_f : f.category = 1) : entryFrame m #[(.int 0), (.int 1), f] 3 = mkF m 0 #[vi 0, vi 1, .val f] [] := by first | (simp [entryFrame, mkF, argsToLocals, cat_i, cat_j, cat_r, cat_n, vi, vj, vr, hr_f]; done) | rfl
theorem pn_5 : plainName "jdk/internal/util/Preconditions" = true := by first | (simp [plainName, overriddenIn]; done) | decide +kernel
theorem d_jdk_41_11_0 : decode jdk_41_method_11_code 0 = .ok (.iload_n 0, 1) := by decide +kernel
theorem d_jdk_41_11_1 : decode jdk_41_method_11_code 1 = .ok (.ifCond .lt 8, 3) := by decide +kernel
theorem d_jdk_41_11_4 : decode jdk_41_method_11_code 4 = .ok (.iload_n 0, 1) := by decide +kernel
theorem d_jdk_41_11_5 : decode jdk_41_method_11_code 5 = .ok (.iload_n 1, 1) := by decide +kernel
theorem d_jdk_41_11_6 : decode jdk_41_method_11_code 6 = .ok (.if_icmp .lt 10, 3) := by decide +kernel
theorem d_jdk_41_11_16 : decode jdk_41_method_11_code 16 = .ok (.iload_n 0, 1) := by decide +kernel
theorem d_jdk_41_11_17 : decode jdk_41_method_11_code 17 = .ok (.ireturn, 1) := by decide +kernel
set_option maxRecDepth 65536 in
set_option maxHeartbeats 40000000 in
theorem rm_chkI (l : Launch) {Z : State} {a0 : Array Value} (hD : Wd Z a0) (f : Value) {h0 : Heap} (O0 : Ext Z.heap h0) (hf : f.isRef = true) :
    Con l Z (⟨"jdk/internal/util/Preconditions", "checkIndex", "(IILjava/util/function/BiFunction;)I"⟩ : MethodName) jdk_41_method_11_code 3 (some .int) [] ({ frames := 0, cells := 0, slots := 0, locals := 0 } : Room) #[(.int 0), (.int 1), f] h0 (Q_chkI Z f h0) := by
  refine Con.walk (plainFor_of_name pn_5) ?_
  intro p e s m below meth c T0 X0 hx hZ hby hml hown hnm hret hlk e0
  obtain ⟨hw, ⟨cz, S_CS, hcz⟩, ⟨sf, S_SF, hsf⟩, ⟨xde, xkde, S_DE, V_DE⟩⟩ := id hD
  have N0 := Fr.nil Z.heap.size
  refine OEnds.cast (ef_chkI m f (Jvm.Free.XT.cat1 hf)) ?_
  refine OEnds.st (S' := T0.setTop (mkF m 17 #[vi 0, vi 1, .val f] [(.int 0)])) (fun _ k => ?_) ?_
  · refine XS.iloadN X0.here hx rfl (hb hby d_jdk_41_11_0) rfl ?_
    refine XS.ifNo X0.here hx rfl (hb hby d_jdk_41_11_1) rfl ((if0 _ _).trans (flt (by decide)).1) ?_
    refine XS.iloadN X0.here hx rfl (hb hby d_jdk_41_11_4) rfl ?_
    refine XS.iloadN X0.here hx rfl (hb hby d_jdk_41_11_5) rfl ?_
    show Steps p.tables e below (T0.setTop (mkF m 6 #[vi 0, vi 1, .val f] [(.int 1), (.int 0)])) _
    refine XS.icmpYes X0.here hx rfl (pc0 := 6) (pc' := 16) rfl (hb hby d_jdk_41_11_6) rfl (tlt (by decide)).1 (by decide) (by decide) ?_
    refine XS.iloadN X0.here hx rfl (hb hby d_jdk_41_11_16) rfl ?_
    exact k
  exact OEnds.ret X0 hx hret hlk rfl (Or.inl ⟨rfl, by simp, _, rfl⟩) (hb hby d_jdk_41_11_17) (by decide) (by decide) (by rw [e0]; exact ⟨rfl, N0, rfl⟩)
-- java/lang/String.checkIndex:(II)V
def Q_chkIS (Z : State)  (h0 : Heap) (v : Option Value) (h : Heap) (L : List Loc) : Prop := v = none ∧ Fr Z.heap.size L ∧ h = h0
theorem ef_chkIS (m : MethodId)  : entryFrame m #[(.int 0), (.int 1)] 2 = mkF m 0 #[vi 0, vi 1] [] := by first | (simp [entryFrame, mkF, argsToLocals, Value.category, vi, vj, vr]; done) | rfl
theorem d_jdk_42_155_0 : decode jdk_42_method_155_code 0 = .ok (.iload_n 0, 1) := by decide +kernel
theorem d_jdk_42_155_1 : decode jdk_42_method_155_code 1 = .ok (.iload_n 1, 1) := by decide +kernel
theorem d_jdk_42_155_2 : decode jdk_42_method_155_code 2 = .ok (.getstatic 1053, 3) := by decide +kernel
theorem d_jdk_42_155_5 : decode jdk_42_method_155_code 5 = .ok (.invokestatic 1059, 3) := by decide +kernel
theorem pd_6 : parseMethodDescriptor "(IILjava/util/function/BiFunction;)I" = some ⟨[.int, .int, (.object "java/util/function/BiFunction")], some .int⟩ := by decide +kernel
theorem d_jdk_42_155_8 : decode jdk_42_method_155_code 8 = .ok (.pop, 1) := by decide +kernel
theorem d_jdk_42_155_9 : decode jdk_42_method_155_code 9 = .ok (.return_, 1) := by decide +kernel
set_option maxRecDepth 65536 in
set_option maxHeartbeats 40000000 in
theorem rm_chkIS (l : Launch) {Z : State} {a0 : Array Value} (hD : Wd Z a0)  {h0 : Heap} (O0 : Ext Z.heap h0) :
    Con l Z (⟨"java/lang/String", "checkIndex", "(II)V"⟩ : MethodName) jdk_42_method_155_code 2 none [] ({ frames := 1, cells := 0, slots := 0, locals := 14 } : Room) #[(.int 0), (.int 1)] h0 (Q_chkIS Z  h0) := by
  refine Con.walk (plainFor_of_name pn_0) ?_
  intro p e s m below meth c T0 X0 hx hZ hby hml hown hnm hret hlk e0
  obtain ⟨hw, ⟨cz, S_CS, hcz⟩, ⟨sf, S_SF, hsf⟩, ⟨xde, xkde, S_DE, V_DE⟩⟩ := id hD
  have N0 := Fr.nil Z.heap.size
  refine OEnds.cast (ef_chkIS m ) ?_
  refine OEnds.st (S' := T0.setTop (mkF m 2 #[vi 0, vi 1] [(.int 1), (.int 0)])) (fun _ k => ?_) ?_
  · refine XS.iloadN X0.here hx rfl (hb hby d_jdk_42_155_0) rfl ?_
    refine XS.iloadN X0.here hx rfl (hb hby d_jdk_42_155_1) rfl ?_
    exact k
  obtain ⟨T1, X1, e1, st1⟩ := getS2 X0 hx hZ hown (host := "") (Or.inl (wq hw 138 rfl)) Via.refl e0 (S_SF.ext O0) (g := (mkF m 2 #[vi 0, vi 1] [(.int 1), (.int 0)])) rfl (hb hby d_jdk_42_155_2)
  refine OEnds.st st1 ?_
  obtain ⟨_, T2, h2, L2, X2, e2, hQ2, st2⟩ := callC X1 hx hZ hown (wq hw 140 rfl) (wq hw 141 rfl) (wq hw 139 rfl) (wq hw 142 rfl) (by decide) (kc := 0) (ks := 0) (Con.sb (W := 0) (rm_chkI l hD sf O0 hsf) hZ (wq hw 142 rfl) (wq hw 139 rfl) (by decide) (by decide)) e1 (g := (mkF m 5 #[vi 0, vi 1] [sf, (.int 1), (.int 0)])) rfl (by rw [hml]; rfl) (argsL := [(.int 0), (.int 1), sf]) (rest := []) (lenOf pd_6 rfl) rfl (by show 2 * 0 + _ ≤ _; exact Nat.le_of_eq rfl) (hb hby d_jdk_42_155_5) (by decide) (by decide)
  obtain ⟨rfl, Nq2, Hq2⟩ := hQ2
  refine OEnds.st st2 ?_
  replace N0 := Fr.app N0 Nq2
  replace e2 := e2.trans Hq2
  refine OEnds.st (S' := T2.setTop (mkF m 9 #[vi 0, vi 1] [])) (fun _ k => ?_) ?_
  · refine XS.pop X2.here hx rfl (hb hby d_jdk_42_155_8) rfl rfl ?_
    exact k
  exact OEnds.retV X2 hx hret hlk (hb hby d_jdk_42_155_9) (by decide) (by decide) (by rw [e2]; exact ⟨rfl, N0, rfl⟩)
-- java/lang/StringLatin1.charAt:([BI)C
def Q_chAtL (Z : State) (t : Addr) (k : ClassId) (h0 : Heap) (v : Option Value) (h : Heap) (L : List Loc) : Prop := v = some (.int 47) ∧ Fr Z.heap.size L ∧ h = h0
theorem ef_chAtL (m : MethodId) (t : Addr) : entryFrame m #[(.ref t), (.int 0)] 2 = mkF m 0 #[vr t, vi 0] [] := by first | (simp [entryFrame, mkF, argsToLocals, Value.category, vi, vj, vr]; done) | rfl
theorem pn_6 : plainName "java/lang/StringLatin1" = true := by first | (simp [plainName, overriddenIn]; done) | decide +kernel
theorem d_jdk_43_2_0 : decode jdk_43_method_2_code 0 = .ok (.iload_n 1, 1) := by decide +kernel
theorem d_jdk_43_2_1 : decode jdk_43_method_2_code 1 = .ok (.aload_n 0, 1) := by decide +kernel
theorem d_jdk_43_2_2 : decode jdk_43_method_2_code 2 = .ok (.arraylength, 1) := by decide +kernel
theorem d_jdk_43_2_3 : decode jdk_43_method_2_code 3 = .ok (.invokestatic 9, 3) := by decide +kernel
theorem pd_7 : parseMethodDescriptor "(II)V" = some ⟨[.int, .int], none⟩ := by decide +kernel
theorem d_jdk_43_2_6 : decode jdk_43_method_2_code 6 = .ok (.aload_n 0, 1) := by decide +kernel
theorem d_jdk_43_2_7 : decode jdk_43_method_2_code 7 = .ok (.iload_n 1, 1) := by decide +kernel
theorem d_jdk_43_2_8 : decode jdk_43_method_2_code 8 = .ok (.baload, 1) := by decide +kernel
theorem d_jdk_43_2_9 : decode jdk_43_method_2_code 9 = .ok (.sipush 255, 3) := by decide +kernel
theorem d_jdk_43_2_12 : decode jdk_43_method_2_code 12 = .ok (.iand, 1) := by decide +kernel
theorem d_jdk_43_2_13 : decode jdk_43_method_2_code 13 = .ok (.i2c, 1) := by decide +kernel
theorem d_jdk_43_2_14 : decode jdk_43_method_2_code 14 = .ok (.ireturn, 1) := by decide +kernel
set_option maxRecDepth 65536 in
set_option maxHeartbeats 40000000 in
theorem rm_chAtL (l : Launch) {Z : State} {a0 : Array Value} (hD : Wd Z a0) (t : Addr) (k : ClassId) {h0 : Heap} (O0 : Ext Z.heap h0) (V_t : Arv Z h0 t k .byte (1 : Int32) [(.int 47)] (.int 0)) :
    Con l Z (⟨"java/lang/StringLatin1", "charAt", "([BI)C"⟩ : MethodName) jdk_43_method_2_code 2 (some .char) [] ({ frames := 2, cells := 0, slots := 0, locals := 27 } : Room) #[(.ref t), (.int 0)] h0 (Q_chAtL Z t k h0) := by
  refine Con.walk (plainFor_of_name pn_6) ?_
  intro p e s m below meth c T0 X0 hx hZ hby hml hown hnm hret hlk e0
  obtain ⟨hw, ⟨cz, S_CS, hcz⟩, ⟨sf, S_SF, hsf⟩, ⟨xde, xkde, S_DE, V_DE⟩⟩ := id hD
  have N0 := Fr.nil Z.heap.size
  refine OEnds.cast (ef_chAtL m t) ?_
  refine OEnds.st (S' := T0.setTop (mkF m 2 #[vr t, vi 0] [(.ref t), (.int 0)])) (fun _ k => ?_) ?_
  · refine XS.iloadN X0.here hx rfl (hb hby d_jdk_43_2_0) rfl ?_
    refine XS.aloadN X0.here hx rfl (hb hby d_jdk_43_2_1) rfl rfl ?_
    exact k
  obtain ⟨cl_t_1, Ar_t_1, q_t_1, S_t_1, N_t_1, H_t_1, G_t_1⟩ := id V_t
  refine OEnds.st (S' := T0.setTop (mkF m 3 #[vr t, vi 0] [(.int 1), (.int 0)])) (fun tg kq9 => X0.arraylength hx (by rw [e0]; exact Ar_t_1.1) (State.isArrayOf_alike hZ.alike Ar_t_1.2.1) (g := (mkF m 2 #[vr t, vi 0] [(.ref t), (.int 0)])) rfl rfl (hb hby d_jdk_43_2_2) tg (by rw [len_of S_t_1 N_t_1]; exact kq9)) ?_
  obtain ⟨_, T2, h2, L2, X2, e2, hQ2, st2⟩ := callC X0 hx hZ hown (wq hw 135 rfl) (wq hw 136 rfl) (wq hw 56 rfl) (wq hw 137 rfl) (by decide) (kc := 0) (ks := 0) (Con.sb (W := 0) (rm_chkIS l hD  O0) hZ (wq hw 137 rfl) (wq hw 56 rfl) (by decide) (by decide)) e0 (g := (mkF m 3 #[vr t, vi 0] [(.int 1), (.int 0)])) rfl (by rw [hml]; rfl) (argsL := [(.int 0), (.int 1)]) (rest := []) (lenOf pd_7 rfl) rfl (by show 2 * 0 + _ ≤ _; exact Nat.le_of_eq rfl) (hb hby d_jdk_43_2_3) (by decide) (by decide)
  obtain ⟨rfl, Nq2, Hq2⟩ := hQ2
  refine OEnds.st st2 ?_
  replace N0 := Fr.app N0 Nq2
  replace e2 := e2.trans Hq2
  refine OEnds.st (S' := T2.setTop (mkF m 8 #[vr t, vi 0] [(.int 0), (.ref t)])) (fun _ k => ?_) ?_
  · refine XS.aloadN X2.here hx rfl (hb hby d_jdk_43_2_6) rfl rfl ?_
    refine XS.iloadN X2.here hx rfl (hb hby d_jdk_43_2_7) rfl ?_
    exact k
  obtain ⟨cl_t_3, Ar_t_3, q_t_3, S_t_3, N_t_3, H_t_3, G_t_3⟩ := id V_t
  refine OEnds.st (S' := T2.setTop (mkF m 9 #[vr t, vi 0] [(.int 47)])) (X2.baloadBytes hx (j := (0 : Int32)) (v := (.int 47)) (by rw [e2]; exact Ar_t_3.1) (State.isArrayOf_alike hZ.alike Ar_t_3.2.1) Ar_t_3.2.2 (inb_of S_t_3 ⟨by decide, by decide⟩) (H_t_3.at (inb_of S_t_3 ⟨by decide, by decide⟩) rfl) (g := (mkF m 8 #[vr t, vi 0] [(.int 0), (.ref t)])) rfl rfl (hb hby d_jdk_43_2_8)) ?_
  refine OEnds.st (S' := T2.setTop (mkF m 14 #[vr t, vi 0] [(.int 47)])) (fun _ k => ?_) ?_
  · refine XS.sipush X2.here hx rfl (hb hby d_jdk_43_2_9) ?_
    refine XS.iand X2.here hx rfl (hb hby d_jdk_43_2_12) rfl ?_
    refine XS.i2c X2.here hx rfl (hb hby d_jdk_43_2_13) rfl ?_
    exact k
  exact OEnds.ret X2 hx hret hlk (by decide) (Or.inl ⟨rfl, by simp, _, rfl⟩) (hb hby d_jdk_43_2_14) (by decide) (by decide) (by rw [e2]; exact ⟨rfl, N0, rfl⟩)
-- java/lang/String.charAt:(I)C
def Q_chAt (Z : State) (a : Addr) (t : Addr) (k : ClassId) (h0 : Heap) (v : Option Value) (h : Heap) (L : List Loc) : Prop := v = some (.int 47) ∧ Fr Z.heap.size L ∧ h = h0
theorem ef_chAt (m : MethodId) (a : Addr) : entryFrame m #[(.ref a), (.int 0)] 2 = mkF m 0 #[vr a, vi 0] [] := by first | (simp [entryFrame, mkF, argsToLocals, Value.category, vi, vj, vr]; done) | rfl
theorem d_jdk_42_56_0 : decode jdk_42_method_56_code 0 = .ok (.aload_n 0, 1) := by decide +kernel
theorem d_jdk_42_56_1 : decode jdk_42_method_56_code 1 = .ok (.invokevirtual 492, 3) := by decide +kernel
theorem pd_8 : parseMethodDescriptor "()Z" = some ⟨[], some .boolean⟩ := by decide +kernel
theorem d_jdk_42_56_4 : decode jdk_42_method_56_code 4 = .ok (.ifCond .eq 12, 3) := by decide +kernel
theorem d_jdk_42_56_7 : decode jdk_42_method_56_code 7 = .ok (.aload_n 0, 1) := by decide +kernel
theorem d_jdk_42_56_8 : decode jdk_42_method_56_code 8 = .ok (.getfield 9, 3) := by decide +kernel
theorem d_jdk_42_56_11 : decode jdk_42_method_56_code 11 = .ok (.iload_n 1, 1) := by decide +kernel
theorem d_jdk_42_56_12 : decode jdk_42_method_56_code 12 = .ok (.invokestatic 495, 3) := by decide +kernel
theorem pd_9 : parseMethodDescriptor "([BI)C" = some ⟨[(.array .byte), .int], some .char⟩ := by decide +kernel
theorem d_jdk_42_56_15 : decode jdk_42_method_56_code 15 = .ok (.ireturn, 1) := by decide +kernel
set_option maxRecDepth 65536 in
set_option maxHeartbeats 40000000 in
theorem rm_chAt (l : Launch) {Z : State} {a0 : Array Value} (hD : Wd Z a0) (a : Addr) (t : Addr) (k : ClassId) {h0 : Heap} (O0 : Ext Z.heap h0) (E_a : Exa Z h0 a "java/lang/String") (F_coder_a : Fld Z h0 a "java/lang/String" "coder" "B" (.int 0)) (F_value_a : Fld Z h0 a "java/lang/String" "value" "[B" (.ref t)) (V_t : Arv Z h0 t k .byte (1 : Int32) [(.int 47)] (.int 0)) :
    Con l Z (⟨"java/lang/String", "charAt", "(I)C"⟩ : MethodName) jdk_42_method_56_code 2 (some .char) [] ({ frames := 3, cells := 0, slots := 0, locals := 40 } : Room) #[(.ref a), (.int 0)] h0 (Q_chAt Z a t k h0) := by
  refine Con.walk (plainFor_of_name pn_0) ?_
  intro p e s m below meth c T0 X0 hx hZ hby hml hown hnm hret hlk e0
  obtain ⟨hw, ⟨cz, S_CS, hcz⟩, ⟨sf, S_SF, hsf⟩, ⟨xde, xkde, S_DE, V_DE⟩⟩ := id hD
  have N0 := Fr.nil Z.heap.size
  refine OEnds.cast (ef_chAt m a) ?_
  refine OEnds.st (S' := T0.setTop (mkF m 1 #[vr a, vi 0] [(.ref a)])) (fun _ k => ?_) ?_
  · refine XS.aloadN X0.here hx rfl (hb hby d_jdk_42_56_0) rfl rfl ?_
    exact k
  obtain ⟨_, T1, h1, L1, X1, e1, hQ1, st1⟩ := virtC X0 hx hZ (y := (⟨"java/lang/String", "isLatin1", "()Z"⟩ : MethodName)) (z := (⟨"java/lang/String", "isLatin1", "()Z"⟩ : MethodName)) hown (wq hw 126 rfl) (wq hw 127 rfl) (nf_sel (args := #[]) (mvT hZ (wq hw 103 rfl)) rfl) (wq hw 129 rfl) (wq hw 128 rfl) (by decide) (kc := 0) (ks := 0) (Con.sb (W := 0) (rm_isLatS l hD a O0 F_coder_a) hZ (wq hw 130 rfl) (wq hw 56 rfl) (by decide) (by decide)) e0 E_a (g := (mkF m 1 #[vr a, vi 0] [(.ref a)])) rfl (by rw [hml]; rfl) (argsL := []) (rest := []) (lenOf pd_8 rfl) rfl (by show 2 * 0 + _ ≤ _; exact Nat.le_of_eq rfl) (hb hby d_jdk_42_56_1) (by decide) (by decide)
  obtain ⟨rfl, Nq1, Hq1⟩ := hQ1
  refine OEnds.st st1 ?_
  replace N0 := Fr.app N0 Nq1
  replace e1 := e1.trans Hq1
  refine OEnds.st (S' := T1.setTop (mkF m 8 #[vr a, vi 0] [(.ref a)])) (fun _ k => ?_) ?_
  · refine XS.ifNo X1.here hx rfl (hb hby d_jdk_42_56_4) rfl ((if0 _ _).trans (feq (by decide)).1) ?_
    refine XS.aloadN X1.here hx rfl (hb hby d_jdk_42_56_7) rfl rfl ?_
    exact k
  obtain ⟨T2, X2, e2, st2⟩ := getF X1 hx hZ hown (host := "") (Or.inl (wq hw 79 rfl)) Via.refl e1 F_value_a (g := (mkF m 8 #[vr a, vi 0] [(.ref a)])) rfl rfl (hb hby d_jdk_42_56_8)
  refine OEnds.st st2 ?_
  refine OEnds.st (S' := T2.setTop (mkF m 12 #[vr a, vi 0] [(.int 0), (.ref t)])) (fun _ k => ?_) ?_
  · refine XS.iloadN X2.here hx rfl (hb hby d_jdk_42_56_11) rfl ?_
    exact k
  obtain ⟨_, T3, h3, L3, X3, e3, hQ3, st3⟩ := callC X2 hx hZ hown (wq hw 131 rfl) (wq hw 132 rfl) (wq hw 133 rfl) (wq hw 134 rfl) (by decide) (kc := 0) (ks := 0) (Con.sb (W := 0) (rm_chAtL l hD t k O0 V_t) hZ (wq hw 134 rfl) (wq hw 133 rfl) (by decide) (by decide)) e2 (g := (mkF m 12 #[vr a, vi 0] [(.int 0), (.ref t)])) rfl (by rw [hml]; rfl) (argsL := [(.ref t), (.int 0)]) (rest := []) (lenOf pd_9 rfl) rfl (by show 2 * 0 + _ ≤ _; exact Nat.le_of_eq rfl) (hb hby d_jdk_42_56_12) (by decide) (by decide)
  obtain ⟨rfl, Nq3, Hq3⟩ := hQ3
  refine OEnds.st st3 ?_
  replace N0 := Fr.app N0 Nq3
  replace e3 := e3.trans Hq3
  exact OEnds.ret X3 hx hret hlk (by decide) (Or.inl ⟨rfl, by simp, _, rfl⟩) (hb hby d_jdk_42_56_15) (by decide) (by decide) (by rw [e3]; exact ⟨rfl, N0, rfl⟩)
-- java/lang/StringLatin1.canEncode:(I)Z
def Q_canEnc (Z : State)  (h0 : Heap) (v : Option Value) (h : Heap) (L : List Loc) : Prop := v = some (.int 1) ∧ Fr Z.heap.size L ∧ h = h0
theorem ef_canEnc (m : MethodId)  : entryFrame m #[(.int 47)] 1 = mkF m 0 #[vi 47] [] := by first | (simp [entryFrame, mkF, argsToLocals, Value.category, vi, vj, vr]; done) | rfl
theorem d_jdk_43_4_0 : decode jdk_43_method_4_code 0 = .ok (.iload_n 0, 1) := by decide +kernel
theorem d_jdk_43_4_1 : decode jdk_43_method_4_code 1 = .ok (.ifCond .lt 14, 3) := by decide +kernel
theorem d_jdk_43_4_4 : decode jdk_43_method_4_code 4 = .ok (.iload_n 0, 1) := by decide +kernel
theorem d_jdk_43_4_5 : decode jdk_43_method_4_code 5 = .ok (.sipush 255, 3) := by decide +kernel
theorem d_jdk_43_4_8 : decode jdk_43_method_4_code 8 = .ok (.if_icmp .gt 7, 3) := by decide +kernel
theorem d_jdk_43_4_11 : decode jdk_43_method_4_code 11 = .ok (.iconst 1, 1) := by decide +kernel
theorem d_jdk_43_4_12 : decode jdk_43_method_4_code 12 = .ok (.goto 4, 3) := by decide +kernel
theorem d_jdk_43_4_16 : decode jdk_43_method_4_code 16 = .ok (.ireturn, 1) := by decide +kernel
set_option maxRecDepth 65536 in
set_option maxHeartbeats 40000000 in
theorem rm_canEnc (l : Launch) {Z : State} {a0 : Array Value} (hD : Wd Z a0)  {h0 : Heap} (O0 : Ext Z.heap h0) :
    Con l Z (⟨"java/lang/StringLatin1", "canEncode", "(I)Z"⟩ : MethodName) jdk_43_method_4_code 1 (some .boolean) [] ({ frames := 0, cells := 0, slots := 0, locals := 0 } : Room) #[(.int 47)] h0 (Q_canEnc Z  h0) := by
  refine Con.walk (plainFor_of_name pn_6) ?_
  intro p e s m below meth c T0 X0 hx hZ hby hml hown hnm hret hlk e0
  obtain ⟨hw, ⟨cz, S_CS, hcz⟩, ⟨sf, S_SF, hsf⟩, ⟨xde, xkde, S_DE, V_DE⟩⟩ := id hD
  have N0 := Fr.nil Z.heap.size
  refine OEnds.cast (ef_canEnc m ) ?_
  refine OEnds.st (S' := T0.setTop (mkF m 16 #[vi 47] [(.int 1)])) (fun _ k => ?_) ?_
  · refine XS.iloadN X0.here hx rfl (hb hby d_jdk_43_4_0) rfl ?_
    refine XS.ifNo X0.here hx rfl (hb hby d_jdk_43_4_1) rfl ((if0 _ _).trans (flt (by decide)).1) ?_
    refine XS.iloadN X0.here hx rfl (hb hby d_jdk_43_4_4) rfl ?_
    refine XS.sipush X0.here hx rfl (hb hby d_jdk_43_4_5) ?_
    show Steps p.tables e below (T0.setTop (mkF m 8 #[vi 47] [(.int 255), (.int 47)])) _
    refine XS.icmpNo X0.here hx rfl (hb hby d_jdk_43_4_8) rfl (flt (by decide)).2.2.1 ?_
    refine XS.iconst X0.here hx rfl (hb hby d_jdk_43_4_11) ?_
    refine XS.goto X0.here hx rfl (pc0 := 12) (pc' := 16) rfl (hb hby d_jdk_43_4_12) (by decide) (by decide) ?_
    exact k
  exact OEnds.ret X0 hx hret hlk (by decide) (Or.inl ⟨rfl, by simp, _, rfl⟩) (hb hby d_jdk_43_4_16) (by decide) (by decide) (by rw [e0]; exact ⟨rfl, N0, rfl⟩)
-- java/lang/Math.max:(II)I
def Q_max00 (Z : State)  (h0 : Heap) (v : Option Value) (h : Heap) (L : List Loc) : Prop := v = some (.int 0) ∧ Fr Z.heap.size L ∧ h = h0
theorem ef_max00 (m : MethodId)  : entryFrame m #[(.int 0), (.int 0)] 2 = mkF m 0 #[vi 0, vi 0] [] := by first | (simp [entryFrame, mkF, argsToLocals, Value.category, vi, vj, vr]; done) | rfl
set_option maxRecDepth 65536 in
set_option maxHeartbeats 40000000 in
theorem rm_max00 (l : Launch) {Z : State} {a0 : Array Value} (hD : Wd Z a0)  {h0 : Heap} (O0 : Ext Z.heap h0) :
    Con l Z (⟨"java/lang/Math", "max", "(II)I"⟩ : MethodName) jdk_29_method_65_code 2 (some .int) [] ({ frames := 0, cells := 0, slots := 0, locals := 0 } : Room) #[(.int 0), (.int 0)] h0 (Q_max00 Z  h0) := by
  refine Con.walk (Jvm.Free.JP.mathPlain rfl (by decide +kernel)) ?_
  intro p e s m below meth c T0 X0 hx hZ hby hml hown hnm hret hlk e0
  obtain ⟨hw, ⟨cz, S_CS, hcz⟩, ⟨sf, S_SF, hsf⟩, ⟨xde, xkde, S_DE, V_DE⟩⟩ := id hD
  have N0 := Fr.nil Z.heap.size
  refine OEnds.cast (ef_max00 m ) ?_
  refine OEnds.st (S' := T0.setTop (mkF m 10 #[vi 0, vi 0] [(.int 0)])) (fun _ k => ?_) ?_
  · refine XS.iloadN X0.here hx rfl (hb hby d_jdk_29_65_0) rfl ?_
    refine XS.iloadN X0.here hx rfl (hb hby d_jdk_29_65_1) rfl ?_
    refine XS.icmpNo X0.here hx rfl (hb hby d_jdk_29_65_2) rfl (flt (by decide)).1 ?_
    refine XS.iloadN X0.here hx rfl (hb hby d_jdk_29_65_5) rfl ?_
    show Steps p.tables e below (T0.setTop (mkF m 6 #[vi 0, vi 0] [(.int 0)])) _
    refine XS.goto X0.here hx rfl (pc0 := 6) (pc' := 10) rfl (hb hby d_jdk_29_65_6) (by decide) (by decide) ?_
    exact k
  exact OEnds.ret X0 hx hret hlk rfl (Or.inl ⟨rfl, by simp, _, rfl⟩) (hb hby d_jdk_29_65_10) (by decide) (by decide) (by rw [e0]; exact ⟨rfl, N0, rfl⟩)
-- java/lang/Math.min:(II)I
def Q_minSame (Z : State) (x : Int32) (h0 : Heap) (v : Option Value) (h : Heap) (L : List Loc) : Prop := v = some (.int x) ∧ Fr Z.heap.size L ∧ h = h0
theorem ef_minSame (m : MethodId) (x : Int32) : entryFrame m #[(.int x), (.int x)] 2 = mkF m 0 #[vi x, vi x] [] := by first | (simp [entryFrame, mkF, argsToLocals, Value.category, vi, vj, vr]; done) | rfl
theorem d_jdk_29_69_0 : decode jdk_29_method_69_code 0 = .ok (.iload_n 0, 1) := by decide +kernel
theorem d_jdk_29_69_1 : decode jdk_29_method_69_code 1 = .ok (.iload_n 1, 1) := by decide +kernel
theorem d_jdk_29_69_2 : decode jdk_29_method_69_code 2 = .ok (.if_icmp .gt 7, 3) := by decide +kernel
theorem d_jdk_29_69_5 : decode jdk_29_method_69_code 5 = .ok (.iload_n 0, 1) := by decide +kernel
theorem d_jdk_29_69_6 : decode jdk_29_method_69_code 6 = .ok (.goto 4, 3) := by decide +kernel
theorem d_jdk_29_69_10 : decode jdk_29_method_69_code 10 = .ok (.ireturn, 1) := by decide +kernel
set_option maxRecDepth 65536 in
set_option maxHeartbeats 40000000 in
theorem rm_minSame (l : Launch) {Z : State} {a0 : Array Value} (hD : Wd Z a0) (x : Int32) {h0 : Heap} (O0 : Ext Z.heap h0) :
    Con l Z (⟨"java/lang/Math", "min", "(II)I"⟩ : MethodName) jdk_29_method_69_code 2 (some .int) [] ({ frames := 0, cells := 0, slots := 0, locals := 0 } : Room) #[(.int x), (.int x)] h0 (Q_minSame Z x h0) := by
  refine Con.walk (Jvm.Free.JP.mathPlain rfl (by decide +kernel)) ?_
  intro p e s m below meth c T0 X0 hx hZ hby hml hown hnm hret hlk e0
  obtain ⟨hw, ⟨cz, S_CS, hcz⟩, ⟨sf, S_SF, hsf⟩, ⟨xde, xkde, S_DE, V_DE⟩⟩ := id hD
  have N0 := Fr.nil Z.heap.size
  refine OEnds.cast (ef_minSame m x) ?_
  refine OEnds.st (S' := T0.setTop (mkF m 10 #[vi x, vi x] [(.int x)])) (fun _ k => ?_) ?_
  · refine XS.iloadN X0.here hx rfl (hb hby d_jdk_29_69_0) rfl ?_
    refine XS.iloadN X0.here hx rfl (hb hby d_jdk_29_69_1) rfl ?_
    refine XS.icmpNo X0.here hx rfl (hb hby d_jdk_29_69_2) rfl (flt Int32.lt_irrefl).2.2.1 ?_
    refine XS.iloadN X0.here hx rfl (hb hby d_jdk_29_69_5) rfl ?_
    show Steps p.tables e below (T0.setTop (mkF m 6 #[vi x, vi x] [(.int x)])) _
    refine XS.goto X0.here hx rfl (pc0 := 6) (pc' := 10) rfl (hb hby d_jdk_29_69_6) (by decide) (by decide) ?_
    exact k
  exact OEnds.ret X0 hx hret hlk rfl (Or.inl ⟨rfl, by simp, _, rfl⟩) (hb hby d_jdk_29_69_10) (by decide) (by decide) (by rw [e0]; exact ⟨rfl, N0, rfl⟩)
-- java/lang/StringLatin1.indexOfChar:([BIII)I
def Q_iocA (Z : State) (t : Addr) (k : ClassId) (h0 : Heap) (v : Option Value) (h : Heap) (L : List Loc) : Prop := v = some (.int (-1)) ∧ Fr Z.heap.size L ∧ h = h0
theorem ef_iocA (m : MethodId) (t : Addr) : entryFrame m #[(.ref t), (.int 47), (.int 0), (.int 1)] 6 = mkF m 0 #[vr t, vi 47, vi 0, vi 1, .unset, .unset] [] := by first | (simp [entryFrame, mkF, argsToLocals, Value.category, vi, vj, vr]; done) | rfl
theorem d_jdk_43_23_0 : decode jdk_43_method_23_code 0 = .ok (.iload_n 1, 1) := by decide +kernel
theorem d_jdk_43_23_1 : decode jdk_43_method_23_code 1 = .ok (.i2b, 1) := by decide +kernel
theorem d_jdk_43_23_2 : decode jdk_43_method_23_code 2 = .ok (.istore 4, 2) := by decide +kernel
theorem d_jdk_43_23_4 : decode jdk_43_method_23_code 4 = .ok (.iload_n 2, 1) := by decide +kernel
theorem d_jdk_43_23_5 : decode jdk_43_method_23_code 5 = .ok (.istore 5, 2) := by decide +kernel
theorem d_jdk_43_23_7 : decode jdk_43_method_23_code 7 = .ok (.iload 5, 2) := by decide +kernel
theorem d_jdk_43_23_9 : decode jdk_43_method_23_code 9 = .ok (.iload_n 3, 1) := by decide +kernel
theorem d_jdk_43_23_10 : decode jdk_43_method_23_code 10 = .ok (.if_icmp .ge 21, 3) := by decide +kernel
theorem d_jdk_43_23_13 : decode jdk_43_method_23_code 13 = .ok (.aload_n 0, 1) := by decide +kernel
theorem d_jdk_43_23_14 : decode jdk_43_method_23_code 14 = .ok (.iload 5, 2) := by decide +kernel
theorem d_jdk_43_23_16 : decode jdk_43_method_23_code 16 = .ok (.baload, 1) := by decide +kernel
theorem d_jdk_43_23_17 : decode jdk_43_method_23_code 17 = .ok (.iload 4, 2) := by decide +kernel
theorem d_jdk_43_23_19 : decode jdk_43_method_23_code 19 = .ok (.if_icmp .ne 6, 3) := by decide +kernel
theorem d_jdk_43_23_25 : decode jdk_43_method_23_code 25 = .ok (.iinc 5 1, 3) := by decide +kernel
theorem d_jdk_43_23_28 : decode jdk_43_method_23_code 28 = .ok (.goto (-21), 3) := by decide +kernel
theorem d_jdk_43_23_31 : decode jdk_43_method_23_code 31 = .ok (.iconst (-1), 1) := by decide +kernel
theorem d_jdk_43_23_32 : decode jdk_43_method_23_code 32 = .ok (.ireturn, 1) := by decide +kernel
set_option maxRecDepth 65536 in
set_option maxHeartbeats 40000000 in
theorem rm_iocA (l : Launch) {Z : State} {a0 : Array Value} (hD : Wd Z a0) (t : Addr) (k : ClassId) {h0 : Heap} (O0 : Ext Z.heap h0) (V_t : Arv Z h0 t k .byte (1 : Int32) [(.int 97)] (.int 0)) :
    Con l Z (⟨"java/lang/StringLatin1", "indexOfChar", "([BIII)I"⟩ : MethodName) jdk_43_method_23_code 6 (some .int) [] ({ frames := 0, cells := 0, slots := 0, locals := 0 } : Room) #[(.ref t), (.int 47), (.int 0), (.int 1)] h0 (Q_iocA Z t k h0) := by
  refine Con.walk (plainFor_of_name pn_6) ?_
  intro p e s m below meth c T0 X0 hx hZ hby hml hown hnm hret hlk e0
  obtain ⟨hw, ⟨cz, S_CS, hcz⟩, ⟨sf, S_SF, hsf⟩, ⟨xde, xkde, S_DE, V_DE⟩⟩ := id hD
  have N0 := Fr.nil Z.heap.size
  refine OEnds.cast (ef_iocA m t) ?_
  refine OEnds.st (S' := T0.setTop (mkF m 16 #[vr t, vi 47, vi 0, vi 1, vi 47, vi 0] [(.int 0), (.ref t)])) (fun _ k => ?_) ?_
  · refine XS.iloadN X0.here hx rfl (hb hby d_jdk_43_23_0) rfl ?_
    refine XS.i2b X0.here hx rfl (hb hby d_jdk_43_23_1) rfl ?_
    refine XS.istore X0.here hx rfl (hb hby d_jdk_43_23_2) rfl (l' := #[vr t, vi 47, vi 0, vi 1, vi 47, .unset]) rfl ?_
    refine XS.iloadN X0.here hx rfl (hb hby d_jdk_43_23_4) rfl ?_
    show Steps p.tables e below (T0.setTop (mkF m 5 #[vr t, vi 47, vi 0, vi 1, vi 47, .unset] [(.int 0)])) _
    refine XS.istore X0.here hx rfl (hb hby d_jdk_43_23_5) rfl (l' := #[vr t, vi 47, vi 0, vi 1, vi 47, vi 0]) rfl ?_
    refine XS.iload X0.here hx rfl (hb hby d_jdk_43_23_7) rfl ?_
    refine XS.iloadN X0.here hx rfl (hb hby d_jdk_43_23_9) rfl ?_
    refine XS.icmpNo X0.here hx rfl (hb hby d_jdk_43_23_10) rfl (tlt (by decide)).2.1 ?_
    show Steps p.tables e below (T0.setTop (mkF m 13 #[vr t, vi 47, vi 0, vi 1, vi 47, vi 0] [])) _
    refine XS.aloadN X0.here hx rfl (hb hby d_jdk_43_23_13) rfl rfl ?_
    refine XS.iload X0.here hx rfl (hb hby d_jdk_43_23_14) rfl ?_
    exact k
  obtain ⟨cl_t_1, Ar_t_1, q_t_1, S_t_1, N_t_1, H_t_1, G_t_1⟩ := id V_t
  refine OEnds.st (S' := T0.setTop (mkF m 17 #[vr t, vi 47, vi 0, vi 1, vi 47, vi 0] [(.int 97)])) (X0.baloadBytes hx (j := (0 : Int32)) (v := (.int 97)) (by rw [e0]; exact Ar_t_1.1) (State.isArrayOf_alike hZ.alike Ar_t_1.2.1) Ar_t_1.2.2 (inb_of S_t_1 ⟨by decide, by decide⟩) (H_t_1.at (inb_of S_t_1 ⟨by decide, by decide⟩) rfl) (g := (mkF m 16 #[vr t, vi 47, vi 0, vi 1, vi 47, vi 0] [(.int 0), (.ref t)])) rfl rfl (hb hby d_jdk_43_23_16)) ?_
  refine OEnds.st (S' := T0.setTop (mkF m 32 #[vr t, vi 47, vi 0, vi 1, vi 47, vi 1] [(.int (-1))])) (fun _ k => ?_) ?_
  · refine XS.iload X0.here hx rfl (hb hby d_jdk_43_23_17) rfl ?_
    refine XS.icmpYes X0.here hx rfl (pc0 := 19) (pc' := 25) rfl (hb hby d_jdk_43_23_19) rfl (feq (by decide)).2 (by decide) (by decide) ?_
    refine XS.iinc X0.here hx rfl (hb hby d_jdk_43_23_25) rfl (l' := #[vr t, vi 47, vi 0, vi 1, vi 47, vi 1]) rfl ?_
    refine XS.goto X0.here hx rfl (pc0 := 28) (pc' := 7) rfl (hb hby d_jdk_43_23_28) (by decide) (by decide) ?_
    show Steps p.tables e below (T0.setTop (mkF m 7 #[vr t, vi 47, vi 0, vi 1, vi 47, vi 1] [])) _
    refine XS.iload X0.here hx rfl (hb hby d_jdk_43_23_7) rfl ?_
    refine XS.iloadN X0.here hx rfl (hb hby d_jdk_43_23_9) rfl ?_
    refine XS.icmpYes X0.here hx rfl (pc0 := 10) (pc' := 31) rfl (hb hby d_jdk_43_23_10) rfl (flt (by decide)).2.1 (by decide) (by decide) ?_
    refine XS.iconst X0.here hx rfl (hb hby d_jdk_43_23_31) ?_
    exact k
  exact OEnds.ret X0 hx hret hlk rfl (Or.inl ⟨rfl, by simp, _, rfl⟩) (hb hby d_jdk_43_23_32) (by decide) (by decide) (by rw [e0]; exact ⟨rfl, N0, rfl⟩)
-- java/lang/StringLatin1.indexOf:([BIII)I
def Q_lioA (Z : State) (t : Addr) (k : ClassId) (h0 : Heap) (v : Option Value) (h : Heap) (L : List Loc) : Prop := v = some (.int (-1)) ∧ Fr Z.heap.size L ∧ h = h0
theorem ef_lioA (m : MethodId) (t : Addr) : entryFrame m #[(.ref t), (.int 47), (.int 0), (.int 1)] 4 = mkF m 0 #[vr t, vi 47, vi 0, vi 1] [] := by first | (simp [entryFrame, mkF, argsToLocals, Value.category, vi, vj, vr]; done) | rfl
theorem d_jdk_43_22_0 : decode jdk_43_method_22_code 0 = .ok (.iload_n 1, 1) := by decide +kernel
theorem d_jdk_43_22_1 : decode jdk_43_method_22_code 1 = .ok (.invokestatic 88, 3) := by decide +kernel
theorem pd_10 : parseMethodDescriptor "(I)Z" = some ⟨[.int], some .boolean⟩ := by decide +kernel
theorem d_jdk_43_22_4 : decode jdk_43_method_22_code 4 = .ok (.ifCond .ne 5, 3) := by decide +kernel
theorem d_jdk_43_22_9 : decode jdk_43_method_22_code 9 = .ok (.iload_n 2, 1) := by decide +kernel
theorem d_jdk_43_22_10 : decode jdk_43_method_22_code 10 = .ok (.iconst 0, 1) := by decide +kernel
theorem d_jdk_43_22_11 : decode jdk_43_method_22_code 11 = .ok (.invokestatic 92, 3) := by decide +kernel
theorem d_jdk_43_22_14 : decode jdk_43_method_22_code 14 = .ok (.istore_n 2, 1) := by decide +kernel
theorem d_jdk_43_22_15 : decode jdk_43_method_22_code 15 = .ok (.iload_n 3, 1) := by decide +kernel
theorem d_jdk_43_22_16 : decode jdk_43_method_22_code 16 = .ok (.aload_n 0, 1) := by decide +kernel
theorem d_jdk_43_22_17 : decode jdk_43_method_22_code 17 = .ok (.arraylength, 1) := by decide +kernel
theorem d_jdk_43_22_18 : decode jdk_43_method_22_code 18 = .ok (.invokestatic 38, 3) := by decide +kernel
theorem d_jdk_43_22_21 : decode jdk_43_method_22_code 21 = .ok (.istore_n 3, 1) := by decide +kernel
theorem d_jdk_43_22_22 : decode jdk_43_method_22_code 22 = .ok (.iload_n 2, 1) := by decide +kernel
theorem d_jdk_43_22_23 : decode jdk_43_method_22_code 23 = .ok (.iload_n 3, 1) := by decide +kernel
theorem d_jdk_43_22_24 : decode jdk_43_method_22_code 24 = .ok (.if_icmp .lt 5, 3) := by decide +kernel
theorem d_jdk_43_22_29 : decode jdk_43_method_22_code 29 = .ok (.aload_n 0, 1) := by decide +kernel
theorem d_jdk_43_22_30 : decode jdk_43_method_22_code 30 = .ok (.iload_n 1, 1) := by decide +kernel
theorem d_jdk_43_22_31 : decode jdk_43_method_22_code 31 = .ok (.iload_n 2, 1) := by decide +kernel
theorem d_jdk_43_22_32 : decode jdk_43_method_22_code 32 = .ok (.iload_n 3, 1) := by decide +kernel
theorem d_jdk_43_22_33 : decode jdk_43_method_22_code 33 = .ok (.invokestatic 95, 3) := by decide +kernel
theorem pd_11 : parseMethodDescriptor "([BIII)I" = some ⟨[(.array .byte), .int, .int, .int], some .int⟩ := by decide +kernel
theorem d_jdk_43_22_36 : decode jdk_43_method_22_code 36 = .ok (.ireturn, 1) := by decide +kernel
set_option maxRecDepth 65536 in
set_option maxHeartbeats 40000000 in
theorem rm_lioA (l : Launch) {Z : State} {a0 : Array Value} (hD : Wd Z a0) (t : Addr) (k : ClassId) {h0 : Heap} (O0 : Ext Z.heap h0) (V_t : Arv Z h0 t k .byte (1 : Int32) [(.int 97)] (.int 0)) :
    Con l Z (⟨"java/lang/StringLatin1", "indexOf", "([BIII)I"⟩ : MethodName) jdk_43_method_22_code 4 (some .int) [] ({ frames := 1, cells := 0, slots := 0, locals := 17 } : Room) #[(.ref t), (.int 47), (.int 0), (.int 1)] h0 (Q_lioA Z t k h0) := by
  refine Con.walk (plainFor_of_name pn_6) ?_
  intro p e s m below meth c T0 X0 hx hZ hby hml hown hnm hret hlk e0
  obtain ⟨hw, ⟨cz, S_CS, hcz⟩, ⟨sf, S_SF, hsf⟩, ⟨xde, xkde, S_DE, V_DE⟩⟩ := id hD
  have N0 := Fr.nil Z.heap.size
  refine OEnds.cast (ef_lioA m t) ?_
  refine OEnds.st (S' := T0.setTop (mkF m 1 #[vr t, vi 47, vi 0, vi 1] [(.int 47)])) (fun _ k => ?_) ?_
  · refine XS.iloadN X0.here hx rfl (hb hby d_jdk_43_22_0) rfl ?_
    exact k
  obtain ⟨_, T1, h1, L1, X1, e1, hQ1, st1⟩ := callC X0 hx hZ hown (wq hw 156 rfl) (wq hw 157 rfl) (wq hw 133 rfl) (wq hw 158 rfl) (by decide) (kc := 0) (ks := 0) (Con.sb (W := 0) (rm_canEnc l hD  O0) hZ (wq hw 158 rfl) (wq hw 133 rfl) (by decide) (by decide)) e0 (g := (mkF m 1 #[vr t, vi 47, vi 0, vi 1] [(.int 47)])) rfl (by rw [hml]; rfl) (argsL := [(.int 47)]) (rest := []) (lenOf pd_10 rfl) rfl (by show 2 * 0 + _ ≤ _; exact Nat.le_of_eq rfl) (hb hby d_jdk_43_22_1) (by decide) (by decide)
  obtain ⟨rfl, Nq1, Hq1⟩ := hQ1
  refine OEnds.st st1 ?_
  replace N0 := Fr.app N0 Nq1
  replace e1 := e1.trans Hq1
  refine OEnds.st (S' := T1.setTop (mkF m 11 #[vr t, vi 47, vi 0, vi 1] [(.int 0), (.int 0)])) (fun _ k => ?_) ?_
  · refine XS.ifYes X1.here hx rfl (pc0 := 4) (pc' := 9) rfl (hb hby d_jdk_43_22_4) rfl ((if0 _ _).trans (feq (by decide)).2) (by decide) (by decide) ?_
    refine XS.iloadN X1.here hx rfl (hb hby d_jdk_43_22_9) rfl ?_
    refine XS.iconst X1.here hx rfl (hb hby d_jdk_43_22_10) ?_
    exact k
  obtain ⟨_, T2, h2, L2, X2, e2, hQ2, st2⟩ := callC X1 hx hZ hown (wq hw 159 rfl) (wq hw 160 rfl) (wq hw 161 rfl) (wq hw 162 rfl) (by decide) (kc := 0) (ks := 0) (Con.sb (W := 0) (rm_max00 l hD  O0) hZ (wq hw 162 rfl) (wq hw 161 rfl) (by decide) (by decide)) e1 (g := (mkF m 11 #[vr t, vi 47, vi 0, vi 1] [(.int 0), (.int 0)])) rfl (by rw [hml]; rfl) (argsL := [(.int 0), (.int 0)]) (rest := []) (lenOf pd_2 rfl) rfl (by show 2 * 0 + _ ≤ _; exact Nat.le_of_eq rfl) (hb hby d_jdk_43_22_11) (by decide) (by decide)
  obtain ⟨rfl, Nq2, Hq2⟩ := hQ2
  refine OEnds.st st2 ?_
  replace N0 := Fr.app N0 Nq2
  replace e2 := e2.trans Hq2
  refine OEnds.st (S' := T2.setTop (mkF m 17 #[vr t, vi 47, vi 0, vi 1] [(.ref t), (.int 1)])) (fun _ k => ?_) ?_
  · refine XS.istoreN X2.here hx rfl (hb hby d_jdk_43_22_14) rfl (l' := #[vr t, vi 47, vi 0, vi 1]) rfl ?_
    refine XS.iloadN X2.here hx rfl (hb hby d_jdk_43_22_15) rfl ?_
    refine XS.aloadN X2.here hx rfl (hb hby d_jdk_43_22_16) rfl rfl ?_
    exact k
  obtain ⟨cl_t_3, Ar_t_3, q_t_3, S_t_3, N_t_3, H_t_3, G_t_3⟩ := id V_t
  refine OEnds.st (S' := T2.setTop (mkF m 18 #[vr t, vi 47, vi 0, vi 1] [(.int 1), (.int 1)])) (fun tg kq9 => X2.arraylength hx (by rw [e2]; exact Ar_t_3.1) (State.isArrayOf_alike hZ.alike Ar_t_3.2.1) (g := (mkF m 17 #[vr t, vi 47, vi 0, vi 1] [(.ref t), (.int 1)])) rfl rfl (hb hby d_jdk_43_22_17) tg (by rw [len_of S_t_3 N_t_3]; exact kq9)) ?_
  obtain ⟨_, T4, h4, L4, X4, e4, hQ4, st4⟩ := callC X2 hx hZ hown (wq hw 163 rfl) (wq hw 164 rfl) (wq hw 161 rfl) (wq hw 165 rfl) (by decide) (kc := 0) (ks := 0) (Con.sb (W := 0) (rm_minSame l hD (1 : Int32) O0) hZ (wq hw 165 rfl) (wq hw 161 rfl) (by decide) (by decide)) e2 (g := (mkF m 18 #[vr t, vi 47, vi 0, vi 1] [(.int 1), (.int 1)])) rfl (by rw [hml]; rfl) (argsL := [(.int 1), (.int 1)]) (rest := []) (lenOf pd_2 rfl) rfl (by show 2 * 0 + _ ≤ _; exact Nat.le_of_eq rfl) (hb hby d_jdk_43_22_18) (by decide) (by decide)
  obtain ⟨rfl, Nq4, Hq4⟩ := hQ4
  refine OEnds.st st4 ?_
  replace N0 := Fr.app N0 Nq4
  replace e4 := e4.trans Hq4
  refine OEnds.st (S' := T4.setTop (mkF m 33 #[vr t, vi 47, vi 0, vi 1] [(.int 1), (.int 0), (.int 47), (.ref t)])) (fun _ k => ?_) ?_
  · refine XS.istoreN X4.here hx rfl (hb hby d_jdk_43_22_21) rfl (l' := #[vr t, vi 47, vi 0, vi 1]) rfl ?_
    refine XS.iloadN X4.here hx rfl (hb hby d_jdk_43_22_22) rfl ?_
    refine XS.iloadN X4.here hx rfl (hb hby d_jdk_43_22_23) rfl ?_
    refine XS.icmpYes X4.here hx rfl (pc0 := 24) (pc' := 29) rfl (hb hby d_jdk_43_22_24) rfl (tlt (by decide)).1 (by decide) (by decide) ?_
    show Steps p.tables e below (T4.setTop (mkF m 29 #[vr t, vi 47, vi 0, vi 1] [])) _
    refine XS.aloadN X4.here hx rfl (hb hby d_jdk_43_22_29) rfl rfl ?_
    refine XS.iloadN X4.here hx rfl (hb hby d_jdk_43_22_30) rfl ?_
    refine XS.iloadN X4.here hx rfl (hb hby d_jdk_43_22_31) rfl ?_
    refine XS.iloadN X4.here hx rfl (hb hby d_jdk_43_22_32) rfl ?_
    exact k
  obtain ⟨_, T5, h5, L5, X5, e5, hQ5, st5⟩ := callC X4 hx hZ hown (wq hw 166 rfl) (wq hw 167 rfl) (wq hw 133 rfl) (wq hw 168 rfl) (by decide) (kc := 0) (ks := 0) (Con.sb (W := 0) (rm_iocA l hD t k O0 V_t) hZ (wq hw 168 rfl) (wq hw 133 rfl) (by decide) (by decide)) e4 (g := (mkF m 33 #[vr t, vi 47, vi 0, vi 1] [(.int 1), (.int 0), (.int 47), (.ref t)])) rfl (by rw [hml]; rfl) (argsL := [(.ref t), (.int 47), (.int 0), (.int 1)]) (rest := []) (lenOf pd_11 rfl) rfl (by show 2 * 0 + _ ≤ _; exact Nat.le_of_eq rfl) (hb hby d_jdk_43_22_33) (by decide) (by decide)
  obtain ⟨rfl, Nq5, Hq5⟩ := hQ5
  refine OEnds.st st5 ?_
  replace N0 := Fr.app N0 Nq5
  replace e5 := e5.trans Hq5
  exact OEnds.ret X5 hx hret hlk rfl (Or.inl ⟨rfl, by simp, _, rfl⟩) (hb hby d_jdk_43_22_36) (by decide) (by decide) (by rw [e5]; exact ⟨rfl, N0, rfl⟩)
-- java/lang/String.indexOf:(II)I
def Q_io2A (Z : State) (a : Addr) (t : Addr) (k : ClassId) (h0 : Heap) (v : Option Value) (h : Heap) (L : List Loc) : Prop := v = some (.int (-1)) ∧ Fr Z.heap.size L ∧ h = h0
theorem ef_io2A (m : MethodId) (a : Addr) : entryFrame m #[(.ref a), (.int 47), (.int 0)] 3 = mkF m 0 #[vr a, vi 47, vi 0] [] := by first | (simp [entryFrame, mkF, argsToLocals, Value.category, vi, vj, vr]; done) | rfl
theorem d_jdk_42_80_0 : decode jdk_42_method_80_code 0 = .ok (.aload_n 0, 1) := by decide +kernel
theorem d_jdk_42_80_1 : decode jdk_42_method_80_code 1 = .ok (.invokevirtual 492, 3) := by decide +kernel
theorem d_jdk_42_80_4 : decode jdk_42_method_80_code 4 = .ok (.ifCond .eq 19, 3) := by decide +kernel
theorem d_jdk_42_80_7 : decode jdk_42_method_80_code 7 = .ok (.aload_n 0, 1) := by decide +kernel
theorem d_jdk_42_80_8 : decode jdk_42_method_80_code 8 = .ok (.getfield 9, 3) := by decide +kernel
theorem d_jdk_42_80_11 : decode jdk_42_method_80_code 11 = .ok (.iload_n 1, 1) := by decide +kernel
theorem d_jdk_42_80_12 : decode jdk_42_method_80_code 12 = .ok (.iload_n 2, 1) := by decide +kernel
theorem d_jdk_42_80_13 : decode jdk_42_method_80_code 13 = .ok (.aload_n 0, 1) := by decide +kernel
theorem d_jdk_42_80_14 : decode jdk_42_method_80_code 14 = .ok (.invokevirtual 505, 3) := by decide +kernel
theorem pd_12 : parseMethodDescriptor "()I" = some ⟨[], some .int⟩ := by decide +kernel
theorem d_jdk_42_80_17 : decode jdk_42_method_80_code 17 = .ok (.invokestatic 637, 3) := by decide +kernel
theorem d_jdk_42_80_20 : decode jdk_42_method_80_code 20 = .ok (.goto 16, 3) := by decide +kernel
theorem d_jdk_42_80_36 : decode jdk_42_method_80_code 36 = .ok (.ireturn, 1) := by decide +kernel
set_option maxRecDepth 65536 in
set_option maxHeartbeats 40000000 in
theorem rm_io2A (l : Launch) {Z : State} {a0 : Array Value} (hD : Wd Z a0) (a : Addr) (t : Addr) (k : ClassId) {h0 : Heap} (O0 : Ext Z.heap h0) (E_a : Exa Z h0 a "java/lang/String") (F_coder_a : Fld Z h0 a "java/lang/String" "coder" "B" (.int 0)) (F_value_a : Fld Z h0 a "java/lang/String" "value" "[B" (.ref t)) (V_t : Arv Z h0 t k .byte (1 : Int32) [(.int 97)] (.int 0)) :
    Con l Z (⟨"java/lang/String", "indexOf", "(II)I"⟩ : MethodName) jdk_42_method_80_code 3 (some .int) [] ({ frames := 2, cells := 0, slots := 0, locals := 32 } : Room) #[(.ref a), (.int 47), (.int 0)] h0 (Q_io2A Z a t k h0) := by
  refine Con.walk (plainFor_of_name pn_0) ?_
  intro p e s m below meth c T0 X0 hx hZ hby hml hown hnm hret hlk e0
  obtain ⟨hw, ⟨cz, S_CS, hcz⟩, ⟨sf, S_SF, hsf⟩, ⟨xde, xkde, S_DE, V_DE⟩⟩ := id hD
  have N0 := Fr.nil Z.heap.size
  refine OEnds.cast (ef_io2A m a) ?_
  refine OEnds.st (S' := T0.setTop (mkF m 1 #[vr a, vi 47, vi 0] [(.ref a)])) (fun _ k => ?_) ?_
  · refine XS.aloadN X0.here hx rfl (hb hby d_jdk_42_80_0) rfl rfl ?_
    exact k
  obtain ⟨_, T1, h1, L1, X1, e1, hQ1, st1⟩ := virtC X0 hx hZ (y := (⟨"java/lang/String", "isLatin1", "()Z"⟩ : MethodName)) (z := (⟨"java/lang/String", "isLatin1", "()Z"⟩ : MethodName)) hown (wq hw 126 rfl) (wq hw 127 rfl) (nf_sel (args := #[]) (mvT hZ (wq hw 103 rfl)) rfl) (wq hw 129 rfl) (wq hw 128 rfl) (by decide) (kc := 0) (ks := 0) (Con.sb (W := 0) (rm_isLatS l hD a O0 F_coder_a) hZ (wq hw 130 rfl) (wq hw 56 rfl) (by decide) (by decide)) e0 E_a (g := (mkF m 1 #[vr a, vi 47, vi 0] [(.ref a)])) rfl (by rw [hml]; rfl) (argsL := []) (rest := []) (lenOf pd_8 rfl) rfl (by show 2 * 0 + _ ≤ _; exact Nat.le_of_eq rfl) (hb hby d_jdk_42_80_1) (by decide) (by decide)
  obtain ⟨rfl, Nq1, Hq1⟩ := hQ1
  refine OEnds.st st1 ?_
  replace N0 := Fr.app N0 Nq1
  replace e1 := e1.trans Hq1
  refine OEnds.st (S' := T1.setTop (mkF m 8 #[vr a, vi 47, vi 0] [(.ref a)])) (fun _ k => ?_) ?_
  · refine XS.ifNo X1.here hx rfl (hb hby d_jdk_42_80_4) rfl ((if0 _ _).trans (feq (by decide)).1) ?_
    refine XS.aloadN X1.here hx rfl (hb hby d_jdk_42_80_7) rfl rfl ?_
    exact k
  obtain ⟨T2, X2, e2, st2⟩ := getF X1 hx hZ hown (host := "") (Or.inl (wq hw 79 rfl)) Via.refl e1 F_value_a (g := (mkF m 8 #[vr a, vi 47, vi 0] [(.ref a)])) rfl rfl (hb hby d_jdk_42_80_8)
  refine OEnds.st st2 ?_
  refine OEnds.st (S' := T2.setTop (mkF m 14 #[vr a, vi 47, vi 0] [(.ref a), (.int 0), (.int 47), (.ref t)])) (fun _ k => ?_) ?_
  · refine XS.iloadN X2.here hx rfl (hb hby d_jdk_42_80_11) rfl ?_
    refine XS.iloadN X2.here hx rfl (hb hby d_jdk_42_80_12) rfl ?_
    refine XS.aloadN X2.here hx rfl (hb hby d_jdk_42_80_13) rfl rfl ?_
    exact k
  obtain ⟨_, T3, h3, L3, X3, e3, hQ3, st3⟩ := virtC X2 hx hZ (y := (⟨"java/lang/String", "length", "()I"⟩ : MethodName)) (z := (⟨"java/lang/String", "length", "()I"⟩ : MethodName)) hown (wq hw 110 rfl) (wq hw 111 rfl) (nf_sel (args := #[]) (mvT hZ (wq hw 103 rfl)) rfl) (wq hw 113 rfl) (wq hw 112 rfl) (by decide) (kc := 0) (ks := 0) (Con.sb (W := 3) (rm_strLen l hD a t k (1 : Int32) [(.int 97)] O0 E_a F_coder_a F_value_a V_t) hZ (wq hw 114 rfl) (wq hw 56 rfl) (by decide) (by decide)) e2 E_a (g := (mkF m 14 #[vr a, vi 47, vi 0] [(.ref a), (.int 0), (.int 47), (.ref t)])) rfl (by rw [hml]; rfl) (argsL := []) (rest := [(.int 0), (.int 47), (.ref t)]) (lenOf pd_12 rfl) rfl (by show 2 * 0 + _ ≤ _; exact Nat.le_of_eq rfl) (hb hby d_jdk_42_80_14) (by decide) (by decide)
  obtain ⟨rfl, Nq3, Hq3⟩ := hQ3
  refine OEnds.st st3 ?_
  replace N0 := Fr.app N0 Nq3
  replace e3 := e3.trans Hq3
  obtain ⟨_, T4, h4, L4, X4, e4, hQ4, st4⟩ := callC X3 hx hZ hown (wq hw 153 rfl) (wq hw 154 rfl) (wq hw 133 rfl) (wq hw 155 rfl) (by decide) (kc := 0) (ks := 0) (Con.sb (W := 0) (rm_lioA l hD t k O0 V_t) hZ (wq hw 155 rfl) (wq hw 133 rfl) (by decide) (by decide)) e3 (g := (mkF m 17 #[vr a, vi 47, vi 0] [(.int 1), (.int 0), (.int 47), (.ref t)])) rfl (by rw [hml]; rfl) (argsL := [(.ref t), (.int 47), (.int 0), (.int 1)]) (rest := []) (lenOf pd_11 rfl) rfl (by show 2 * 0 + _ ≤ _; exact Nat.le_of_eq rfl) (hb hby d_jdk_42_80_17) (by decide) (by decide)
  obtain ⟨rfl, Nq4, Hq4⟩ := hQ4
  refine OEnds.st st4 ?_
  replace N0 := Fr.app N0 Nq4
  replace e4 := e4.trans Hq4
  refine OEnds.st (S' := T4.setTop (mkF m 36 #[vr a, vi 47, vi 0] [(.int (-1))])) (fun _ k => ?_) ?_
  · refine XS.goto X4.here hx rfl (pc0 := 20) (pc' := 36) rfl (hb hby d_jdk_42_80_20) (by decide) (by decide) ?_
    exact k
  exact OEnds.ret X4 hx hret hlk rfl (Or.inl ⟨rfl, by simp, _, rfl⟩) (hb hby d_jdk_42_80_36) (by decide) (by decide) (by rw [e4]; exact ⟨rfl, N0, rfl⟩)
-- java/lang/StringLatin1.indexOfChar:([BIII)I
def Q_iocM (Z : State) (t : Addr) (k : ClassId) (h0 : Heap) (v : Option Value) (h : Heap) (L : List Loc) : Prop := v = some (.int (-1)) ∧ Fr Z.heap.size L ∧ h = h0
theorem ef_iocM (m : MethodId) (t : Addr) : entryFrame m #[(.ref t), (.int 47), (.int 0), (.int 12)] 6 = mkF m 0 #[vr t, vi 47, vi 0, vi 12, .unset, .unset] [] := by first | (simp [entryFrame, mkF, argsToLocals, Value.category, vi, vj, vr]; done) | rfl
set_option maxRecDepth 65536 in
set_option maxHeartbeats 40000000 in
theorem rm_iocM (l : Launch) {Z : State} {a0 : Array Value} (hD : Wd Z a0) (t : Addr) (k : ClassId) {h0 : Heap} (O0 : Ext Z.heap h0) (V_t : Arv Z h0 t k .byte (12 : Int32) [(.int 46), (.int 36), (.int 124), (.int 40), (.int 41), (.int 91), (.int 123), (.int 94), (.int 63), (.int 42), (.int 43), (.int 92)] (.int 0)) :
    Con l Z (⟨"java/lang/StringLatin1", "indexOfChar", "([BIII)I"⟩ : MethodName) jdk_43_method_23_code 6 (some .int) [] ({ frames := 0, cells := 0, slots := 0, locals := 0 } : Room) #[(.ref t), (.int 47), (.int 0), (.int 12)] h0 (Q_iocM Z t k h0) := by
  refine Con.walk (plainFor_of_name pn_6) ?_
  intro p e s m below meth c T0 X0 hx hZ hby hml hown hnm hret hlk e0
  obtain ⟨hw, ⟨cz, S_CS, hcz⟩, ⟨sf, S_SF, hsf⟩, ⟨xde, xkde, S_DE, V_DE⟩⟩ := id hD
  have N0 := Fr.nil Z.heap.size
  refine OEnds.cast (ef_iocM m t) ?_
  refine OEnds.st (S' := T0.setTop (mkF m 16 #[vr t, vi 47, vi 0, vi 12, vi 47, vi 0] [(.int 0), (.ref t)])) (fun _ k => ?_) ?_
  · refine XS.iloadN X0.here hx rfl (hb hby d_jdk_43_23_0) rfl ?_
    refine XS.i2b X0.here hx rfl (hb hby d_jdk_43_23_1) rfl ?_
    refine XS.istore X0.here hx rfl (hb hby d_jdk_43_23_2) rfl (l' := #[vr t, vi 47, vi 0, vi 12, vi 47, .unset]) rfl ?_
    refine XS.iloadN X0.here hx rfl (hb hby d_jdk_43_23_4) rfl ?_
    show Steps p.tables e below (T0.setTop (mkF m 5 #[vr t, vi 47, vi 0, vi 12, vi 47, .unset] [(.int 0)])) _
    refine XS.istore X0.here hx rfl (hb hby d_jdk_43_23_5) rfl (l' := #[vr t, vi 47, vi 0, vi 12, vi 47, vi 0]) rfl ?_
    refine XS.iload X0.here hx rfl (hb hby d_jdk_43_23_7) rfl ?_
    refine XS.iloadN X0.here hx rfl (hb hby d_jdk_43_23_9) rfl ?_
    refine XS.icmpNo X0.here hx rfl (hb hby d_jdk_43_23_10) rfl (tlt (by decide)).2.1 ?_
    show Steps p.tables e below (T0.setTop (mkF m 13 #[vr t, vi 47, vi 0, vi 12, vi 47, vi 0] [])) _
    refine XS.aloadN X0.here hx rfl (hb hby d_jdk_43_23_13) rfl rfl ?_
    refine XS.iload X0.here hx rfl (hb hby d_jdk_43_23_14) rfl ?_
    exact k
  obtain ⟨cl_t_1, Ar_t_1, q_t_1, S_t_1, N_t_1, H_t_1, G_t_1⟩ := id V_t
  refine OEnds.st (S' := T0.setTop (mkF m 17 #[vr t, vi 47, vi 0, vi 12, vi 47, vi 0] [(.int 46)])) (X0.baloadBytes hx (j := (0 : Int32)) (v := (.int 46)) (by rw [e0]; exact Ar_t_1.1) (State.isArrayOf_alike hZ.alike Ar_t_1.2.1) Ar_t_1.2.2 (inb_of S_t_1 ⟨by decide, by decide⟩) (H_t_1.at (inb_of S_t_1 ⟨by decide, by decide⟩) rfl) (g := (mkF m 16 #[vr t, vi 47, vi 0, vi 12, vi 47, vi 0] [(.int 0), (.ref t)])) rfl rfl (hb hby d_jdk_43_23_16)) ?_
  refine OEnds.st (S' := T0.setTop (mkF m 16 #[vr t, vi 47, vi 0, vi 12, vi 47, vi 1] [(.int 1), (.ref t)])) (fun _ k => ?_) ?_
  · refine XS.iload X0.here hx rfl (hb hby d_jdk_43_23_17) rfl ?_
    refine XS.icmpYes X0.here hx rfl (pc0 := 19) (pc' := 25) rfl (hb hby d_jdk_43_23_19) rfl (feq (by decide)).2 (by decide) (by decide) ?_
    refine XS.iinc X0.here hx rfl (hb hby d_jdk_43_23_25) rfl (l' := #[vr t, vi 47, vi 0, vi 12, vi 47, vi 1]) rfl ?_
    refine XS.goto X0.here hx rfl (pc0 := 28) (pc' := 7) rfl (hb hby d_jdk_43_23_28) (by decide) (by decide) ?_
    show Steps p.tables e below (T0.setTop (mkF m 7 #[vr t, vi 47, vi 0, vi 12, vi 47, vi 1] [])) _
    refine XS.iload X0.here hx rfl (hb hby d_jdk_43_23_7) rfl ?_
    refine XS.iloadN X0.here hx rfl (hb hby d_jdk_43_23_9) rfl ?_
    refine XS.icmpNo X0.here hx rfl (hb hby d_jdk_43_23_10) rfl (tlt (by decide)).2.1 ?_
    refine XS.aloadN X0.here hx rfl (hb hby d_jdk_43_23_13) rfl rfl ?_
    show Steps p.tables e below (T0.setTop (mkF m 14 #[vr t, vi 47, vi 0, vi 12, vi 47, vi 1] [(.ref t)])) _
    refine XS.iload X0.here hx rfl (hb hby d_jdk_43_23_14) rfl ?_
    exact k
  obtain ⟨cl_t_2, Ar_t_2, q_t_2, S_t_2, N_t_2, H_t_2, G_t_2⟩ := id V_t
  refine OEnds.st (S' := T0.setTop (mkF m 17 #[vr t, vi 47, vi 0, vi 12, vi 47, vi 1] [(.int 36)])) (X0.baloadBytes hx (j := (1 : Int32)) (v := (.int 36)) (by rw [e0]; exact Ar_t_2.1) (State.isArrayOf_alike hZ.alike Ar_t_2.2.1) Ar_t_2.2.2 (inb_of S_t_2 ⟨by decide, by decide⟩) (H_t_2.at (inb_of S_t_2 ⟨by decide, by decide⟩) rfl) (g := (mkF m 16 #[vr t, vi 47, vi 0, vi 12, vi 47, vi 1] [(.int 1), (.ref t)])) rfl rfl (hb hby d_jdk_43_23_16)) ?_
  refine OEnds.st (S' := T0.setTop (mkF m 16 #[vr t, vi 47, vi 0, vi 12, vi 47, vi 2] [(.int 2), (.ref t)])) (fun _ k => ?_) ?_
  · refine XS.iload X0.here hx rfl (hb hby d_jdk_43_23_17) rfl ?_
    refine XS.icmpYes X0.here hx rfl (pc0 := 19) (pc' := 25) rfl (hb hby d_jdk_43_23_19) rfl (feq (by decide)).2 (by decide) (by decide) ?_
    refine XS.iinc X0.here hx rfl (hb hby d_jdk_43_23_25) rfl (l' := #[vr t, vi 47, vi 0, vi 12, vi 47, vi 2]) rfl ?_
    refine XS.goto X0.here hx rfl (pc0 := 28) (pc' := 7) rfl (hb hby d_jdk_43_23_28) (by decide) (by decide) ?_
    show Steps p.tables e below (T0.setTop (mkF m 7 #[vr t, vi 47, vi 0, vi 12, vi 47, vi 2] [])) _
    refine XS.iload X0.here hx rfl (hb hby d_jdk_43_23_7) rfl ?_
    refine XS.iloadN X0.here hx rfl (hb hby d_jdk_43_23_9) rfl ?_
    refine XS.icmpNo X0.here hx rfl (hb hby d_jdk_43_23_10) rfl (tlt (by decide)).2.1 ?_
    refine XS.aloadN X0.here hx rfl (hb hby d_jdk_43_23_13) rfl rfl ?_
    show Steps p.tables e below (T0.setTop (mkF m 14 #[vr t, vi 47, vi 0, vi 12, vi 47, vi 2] [(.ref t)])) _
    refine XS.iload X0.here hx rfl (hb hby d_jdk_43_23_14) rfl ?_
    exact k
  obtain ⟨cl_t_3, Ar_t_3, q_t_3, S_t_3, N_t_3, H_t_3, G_t_3⟩ := id V_t
  refine OEnds.st (S' := T0.setTop (mkF m 17 #[vr t, vi 47, vi 0, vi 12, vi 47, vi 2] [(.int 124)])) (X0.baloadBytes hx (j := (2 : Int32)) (v := (.int 124)) (by rw [e0]; exact Ar_t_3.1) (State.isArrayOf_alike hZ.alike Ar_t_3.2.1) Ar_t_3.2.2 (inb_of S_t_3 ⟨by decide, by decide⟩) (H_t_3.at (inb_of S_t_3 ⟨by decide, by decide⟩) rfl) (g := (mkF m 16 #[vr t, vi 47, vi 0, vi 12, vi 47, vi 2] [(.int 2), (.ref t)])) rfl rfl (hb hby d_jdk_43_23_16)) ?_
  refine OEnds.st (S' := T0.setTop (mkF m 16 #[vr t, vi 47, vi 0, vi 12, vi 47, vi 3] [(.int 3), (.ref t)])) (fun _ k => ?_) ?_
  · refine XS.iload X0.here hx rfl (hb hby d_jdk_43_23_17) rfl ?_
    refine XS.icmpYes X0.here hx rfl (pc0 := 19) (pc' := 25) rfl (hb hby d_jdk_43_23_19) rfl (feq (by decide)).2 (by decide) (by decide) ?_
    refine XS.iinc X0.here hx rfl (hb hby d_jdk_43_23_25) rfl (l' := #[vr t, vi 47, vi 0, vi 12, vi 47, vi 3]) rfl ?_
    refine XS.goto X0.here hx rfl (pc0 := 28) (pc' := 7) rfl (hb hby d_jdk_43_23_28) (by decide) (by decide) ?_
    show Steps p.tables e below (T0.setTop (mkF m 7 #[vr t, vi 47, vi 0, vi 12, vi 47, vi 3] [])) _
    refine XS.iload X0.here hx rfl (hb hby d_jdk_43_23_7) rfl ?_
    refine XS.iloadN X0.here hx rfl (hb hby d_jdk_43_23_9) rfl ?_
    refine XS.icmpNo X0.here hx rfl (hb hby d_jdk_43_23_10) rfl (tlt (by decide)).2.1 ?_
    refine XS.aloadN X0.here hx rfl (hb hby d_jdk_43_23_13) rfl rfl ?_
    show Steps p.tables e below (T0.setTop (mkF m 14 #[vr t, vi 47, vi 0, vi 12, vi 47, vi 3] [(.ref t)])) _
    refine XS.iload X0.here hx rfl (hb hby d_jdk_43_23_14) rfl ?_
    exact k
  obtain ⟨cl_t_4, Ar_t_4, q_t_4, S_t_4, N_t_4, H_t_4, G_t_4⟩ := id V_t
  refine OEnds.st (S' := T0.setTop (mkF m 17 #[vr t, vi 47, vi 0, vi 12, vi 47, vi 3] [(.int 40)])) (X0.baloadBytes hx (j := (3 : Int32)) (v := (.int 40)) (by rw [e0]; exact Ar_t_4.1) (State.isArrayOf_alike hZ.alike Ar_t_4.2.1) Ar_t_4.2.2 (inb_of S_t_4 ⟨by decide, by decide⟩) (H_t_4.at (inb_of S_t_4 ⟨by decide, by decide⟩) rfl) (g := (mkF m 16 #[vr t, vi 47, vi 0, vi 12, vi 47, vi 3] [(.int 3), (.ref t)])) rfl rfl (hb hby d_jdk_43_23_16)) ?_
  refine OEnds.st (S' := T0.setTop (mkF m 16 #[vr t, vi 47, vi 0, vi 12, vi 47, vi 4] [(.int 4), (.ref t)])) (fun _ k => ?_) ?_
  · refine XS.iload X0.here hx rfl (hb hby d_jdk_43_23_17) rfl ?_
    refine XS.icmpYes X0.here hx rfl (pc0 := 19) (pc' := 25) rfl (hb hby d_jdk_43_23_19) rfl (feq (by decide)).2 (by decide) (by decide) ?_
    refine XS.iinc X0.here hx rfl (hb hby d_jdk_43_23_25) rfl (l' := #[vr t, vi 47, vi 0, vi 12, vi 47, vi 4]) rfl ?_
    refine XS.goto X0.here hx rfl (pc0 := 28) (pc' := 7) rfl (hb hby d_jdk_43_23_28) (by decide) (by decide) ?_
    show Steps p.tables e below (T0.setTop (mkF m 7 #[vr t, vi 47, vi 0, vi 12, vi 47, vi 4] [])) _
    refine XS.iload X0.here hx rfl (hb hby d_jdk_43_23_7) rfl ?_
    refine XS.iloadN X0.here hx rfl (hb hby d_jdk_43_23_9) rfl ?_
    refine XS.icmpNo X0.here hx rfl (hb hby d_jdk_43_23_10) rfl (tlt (by decide)).2.1 ?_
    refine XS.aloadN X0.here hx rfl (hb hby d_jdk_43_23_13) rfl rfl ?_
    show Steps p.tables e below (T0.setTop (mkF m 14 #[vr t, vi 47, vi 0, vi 12, vi 47, vi 4] [(.ref t)])) _
    refine XS.iload X0.here hx rfl (hb hby d_jdk_43_23_14) rfl ?_
    exact k
  obtain ⟨cl_t_5, Ar_t_5, q_t_5, S_t_5, N_t_5, H_t_5, G_t_5⟩ := id V_t
  refine OEnds.st (S' := T0.setTop (mkF m 17 #[vr t, vi 47, vi 0, vi 12, vi 47, vi 4] [(.int 41)])) (X0.baloadBytes hx (j := (4 : Int32)) (v := (.int 41)) (by rw [e0]; exact Ar_t_5.1) (State.isArrayOf_alike hZ.alike Ar_t_5.2.1) Ar_t_5.2.2 (inb_of S_t_5 ⟨by decide, by decide⟩) (H_t_5.at (inb_of S_t_5 ⟨by decide, by decide⟩) rfl) (g := (mkF m 16 #[vr t, vi 47, vi 0, vi 12, vi 47, vi 4] [(.int 4), (.ref t)])) rfl rfl (hb hby d_jdk_43_23_16)) ?_
  refine OEnds.st (S' := T0.setTop (mkF m 16 #[vr t, vi 47, vi 0, vi 12, vi 47, vi 5] [(.int 5), (.ref t)])) (fun _ k => ?_) ?_
  · refine XS.iload X0.here hx rfl (hb hby d_jdk_43_23_17) rfl ?_
    refine XS.icmpYes X0.here hx rfl (pc0 := 19) (pc' := 25) rfl (hb hby d_jdk_43_23_19) rfl (feq (by decide)).2 (by decide) (by decide) ?_
    refine XS.iinc X0.here hx rfl (hb hby d_jdk_43_23_25) rfl (l' := #[vr t, vi 47, vi 0, vi 12, vi 47, vi 5]) rfl ?_
    refine XS.goto X0.here hx rfl (pc0 := 28) (pc' := 7) rfl (hb hby d_jdk_43_23_28) (by decide) (by decide) ?_
    show Steps p.tables e below (T0.setTop (mkF m 7 #[vr t, vi 47, vi 0, vi 12, vi 47, vi 5] [])) _
    refine XS.iload X0.here hx rfl (hb hby d_jdk_43_23_7) rfl ?_
    refine XS.iloadN X0.here hx rfl (hb hby d_jdk_43_23_9) rfl ?_
    refine XS.icmpNo X0.here hx rfl (hb hby d_jdk_43_23_10) rfl (tlt (by decide)).2.1 ?_
    refine XS.aloadN X0.here hx rfl (hb hby d_jdk_43_23_13) rfl rfl ?_
    show Steps p.tables e below (T0.setTop (mkF m 14 #[vr t, vi 47, vi 0, vi 12, vi 47, vi 5] [(.ref t)])) _
    refine XS.iload X0.here hx rfl (hb hby d_jdk_43_23_14) rfl ?_
    exact k
  obtain ⟨cl_t_6, Ar_t_6, q_t_6, S_t_6, N_t_6, H_t_6, G_t_6⟩ := id V_t
  refine OEnds.st (S' := T0.setTop (mkF m 17 #[vr t, vi 47, vi 0, vi 12, vi 47, vi 5] [(.int 91)])) (X0.baloadBytes hx (j := (5 : Int32)) (v := (.int 91)) (by rw [e0]; exact Ar_t_6.1) (State.isArrayOf_alike hZ.alike Ar_t_6.2.1) Ar_t_6.2.2 (inb_of S_t_6 ⟨by decide, by decide⟩) (H_t_6.at (inb_of S_t_6 ⟨by decide, by decide⟩) rfl) (g := (mkF m 16 #[vr t, vi 47, vi 0, vi 12, vi 47, vi 5] [(.int 5), (.ref t)])) rfl rfl (hb hby d_jdk_43_23_16)) ?_
  refine OEnds.st (S' := T0.setTop (mkF m 16 #[vr t, vi 47, vi 0, vi 12, vi 47, vi 6] [(.int 6), (.ref t)])) (fun _ k => ?_) ?_
  · refine XS.iload X0.here hx rfl (hb hby d_jdk_43_23_17) rfl ?_
    refine XS.icmpYes X0.here hx rfl (pc0 := 19) (pc' := 25) rfl (hb hby d_jdk_43_23_19) rfl (feq (by decide)).2 (by decide) (by decide) ?_
    refine XS.iinc X0.here hx rfl (hb hby d_jdk_43_23_25) rfl (l' := #[vr t, vi 47, vi 0, vi 12, vi 47, vi 6]) rfl ?_
    refine XS.goto X0.here hx rfl (pc0 := 28) (pc' := 7) rfl (hb hby d_jdk_43_23_28) (by decide) (by decide) ?_
    show Steps p.tables e below (T0.setTop (mkF m 7 #[vr t, vi 47, vi 0, vi 12, vi 47, vi 6] [])) _
    refine XS.iload X0.here hx rfl (hb hby d_jdk_43_23_7) rfl ?_
    refine XS.iloadN X0.here hx rfl (hb hby d_jdk_43_23_9) rfl ?_
    refine XS.icmpNo X0.here hx rfl (hb hby d_jdk_43_23_10) rfl (tlt (by decide)).2.1 ?_
    refine XS.aloadN X0.here hx rfl (hb hby d_jdk_43_23_13) rfl rfl ?_
    show Steps p.tables e below (T0.setTop (mkF m 14 #[vr t, vi 47, vi 0, vi 12, vi 47, vi 6] [(.ref t)])) _
    refine XS.iload X0.here hx rfl (hb hby d_jdk_43_23_14) rfl ?_
    exact k
  obtain ⟨cl_t_7, Ar_t_7, q_t_7, S_t_7, N_t_7, H_t_7, G_t_7⟩ := id V_t
  refine OEnds.st (S' := T0.setTop (mkF m 17 #[vr t, vi 47, vi 0, vi 12, vi 47, vi 6] [(.int 123)])) (X0.baloadBytes hx (j := (6 : Int32)) (v := (.int 123)) (by rw [e0]; exact Ar_t_7.1) (State.isArrayOf_alike hZ.alike Ar_t_7.2.1) Ar_t_7.2.2 (inb_of S_t_7 ⟨by decide, by decide⟩) (H_t_7.at (inb_of S_t_7 ⟨by decide, by decide⟩) rfl) (g := (mkF m 16 #[vr t, vi 47, vi 0, vi 12, vi 47, vi 6] [(.int 6), (.ref t)])) rfl rfl (hb hby d_jdk_43_23_16)) ?_
  refine OEnds.st (S' := T0.setTop (mkF m 16 #[vr t, vi 47, vi 0, vi 12, vi 47, vi 7] [(.int 7), (.ref t)])) (fun _ k => ?_) ?_
  · refine XS.iload X0.here hx rfl (hb hby d_jdk_43_23_17) rfl ?_
    refine XS.icmpYes X0.here hx rfl (pc0 := 19) (pc' := 25) rfl (hb hby d_jdk_43_23_19) rfl (feq (by decide)).2 (by decide) (by decide) ?_
    refine XS.iinc X0.here hx rfl (hb hby d_jdk_43_23_25) rfl (l' := #[vr t, vi 47, vi 0, vi 12, vi 47, vi 7]) rfl ?_
    refine XS.goto X0.here hx rfl (pc0 := 28) (pc' := 7) rfl (hb hby d_jdk_43_23_28) (by decide) (by decide) ?_
    show Steps p.tables e below (T0.setTop (mkF m 7 #[vr t, vi 47, vi 0, vi 12, vi 47, vi 7] [])) _
    refine XS.iload X0.here hx rfl (hb hby d_jdk_43_23_7) rfl ?_
    refine XS.iloadN X0.here hx rfl (hb hby d_jdk_43_23_9) rfl ?_
    refine XS.icmpNo X0.here hx rfl (hb hby d_jdk_43_23_10) rfl (tlt (by decide)).2.1 ?_
    refine XS.aloadN X0.here hx rfl (hb hby d_jdk_43_23_13) rfl rfl ?_
    show Steps p.tables e below (T0.setTop (mkF m 14 #[vr t, vi 47, vi 0, vi 12, vi 47, vi 7] [(.ref t)])) _
    refine XS.iload X0.here hx rfl (hb hby d_jdk_43_23_14) rfl ?_
    exact k
  obtain ⟨cl_t_8, Ar_t_8, q_t_8, S_t_8, N_t_8, H_t_8, G_t_8⟩ := id V_t
  refine OEnds.st (S' := T0.setTop (mkF m 17 #[vr t, vi 47, vi 0, vi 12, vi 47, vi 7] [(.int 94)])) (X0.baloadBytes hx (j := (7 : Int32)) (v := (.int 94)) (by rw [e0]; exact Ar_t_8.1) (State.isArrayOf_alike hZ.alike Ar_t_8.2.1) Ar_t_8.2.2 (inb_of S_t_8 ⟨by decide, by decide⟩) (H_t_8.at (inb_of S_t_8 ⟨by decide, by decide⟩) rfl) (g := (mkF m 16 #[vr t, vi 47, vi 0, vi 12, vi 47, vi 7] [(.int 7), (.ref t)])) rfl rfl (hb hby d_jdk_43_23_16)) ?_
  refine OEnds.st (S' := T0.setTop (mkF m 16 #[vr t, vi 47, vi 0, vi 12, vi 47, vi 8] [(.int 8), (.ref t)])) (fun _ k => ?_) ?_
  · refine XS.iload X0.here hx rfl (hb hby d_jdk_43_23_17) rfl ?_
    refine XS.icmpYes X0.here hx rfl (pc0 := 19) (pc' := 25) rfl (hb hby d_jdk_43_23_19) rfl (feq (by decide)).2 (by decide) (by decide) ?_
    refine XS.iinc X0.here hx rfl (hb hby d_jdk_43_23_25) rfl (l' := #[vr t, vi 47, vi 0, vi 12, vi 47, vi 8]) rfl ?_
    refine XS.goto X0.here hx rfl (pc0 := 28) (pc' := 7) rfl (hb hby d_jdk_43_23_28) (by decide) (by decide) ?_
    show Steps p.tables e below (T0.setTop (mkF m 7 #[vr t, vi 47, vi 0, vi 12, vi 47, vi 8] [])) _
    refine XS.iload X0.here hx rfl (hb hby d_jdk_43_23_7) rfl ?_
    refine XS.iloadN X0.here hx rfl (hb hby d_jdk_43_23_9) rfl ?_
    refine XS.icmpNo X0.here hx rfl (hb hby d_jdk_43_23_10) rfl (tlt (by decide)).2.1 ?_
    refine XS.aloadN X0.here hx rfl (hb hby d_jdk_43_23_13) rfl rfl ?_
    show Steps p.tables e below (T0.setTop (mkF m 14 #[vr t, vi 47, vi 0, vi 12, vi 47, vi 8] [(.ref t)])) _
    refine XS.iload X0.here hx rfl (hb hby d_jdk_43_23_14) rfl ?_
    exact k
  obtain ⟨cl_t_9, Ar_t_9, q_t_9, S_t_9, N_t_9, H_t_9, G_t_9⟩ := id V_t
  refine OEnds.st (S' := T0.setTop (mkF m 17 #[vr t, vi 47, vi 0, vi 12, vi 47, vi 8] [(.int 63)])) (X0.baloadBytes hx (j := (8 : Int32)) (v := (.int 63)) (by rw [e0]; exact Ar_t_9.1) (State.isArrayOf_alike hZ.alike Ar_t_9.2.1) Ar_t_9.2.2 (inb_of S_t_9 ⟨by decide, by decide⟩) (H_t_9.at (inb_of S_t_9 ⟨by decide, by decide⟩) rfl) (g := (mkF m 16 #[vr t, vi 47, vi 0, vi 12, vi 47, vi 8] [(.int 8), (.ref t)])) rfl rfl (hb hby d_jdk_43_23_16)) ?_
  refine OEnds.st (S' := T0.setTop (mkF m 16 #[vr t, vi 47, vi 0, vi 12, vi 47, vi 9] [(.int 9), (.ref t)])) (fun _ k => ?_) ?_
  · refine XS.iload X0.here hx rfl (hb hby d_jdk_43_23_17) rfl ?_
    refine XS.icmpYes X0.here hx rfl (pc0 := 19) (pc' := 25) rfl (hb hby d_jdk_43_23_19) rfl (feq (by decide)).2 (by decide) (by decide) ?_
    refine XS.iinc X0.here hx rfl (hb hby d_jdk_43_23_25) rfl (l' := #[vr t, vi 47, vi 0, vi 12, vi 47, vi 9]) rfl ?_
    refine XS.goto X0.here hx rfl (pc0 := 28) (pc' := 7) rfl (hb hby d_jdk_43_23_28) (by decide) (by decide) ?_
    show Steps p.tables e below (T0.setTop (mkF m 7 #[vr t, vi 47, vi 0, vi 12, vi 47, vi 9] [])) _
    refine XS.iload X0.here hx rfl (hb hby d_jdk_43_23_7) rfl ?_
    refine XS.iloadN X0.here hx rfl (hb hby d_jdk_43_23_9) rfl ?_
    refine XS.icmpNo X0.here hx rfl (hb hby d_jdk_43_23_10) rfl (tlt (by decide)).2.1 ?_
    refine XS.aloadN X0.here hx rfl (hb hby d_jdk_43_23_13) rfl rfl ?_
    show Steps p.tables e below (T0.setTop (mkF m 14 #[vr t, vi 47, vi 0, vi 12, vi 47, vi 9] [(.ref t)])) _
    refine XS.iload X0.here hx rfl (hb hby d_jdk_43_23_14) rfl ?_
    exact k
  obtain ⟨cl_t_10, Ar_t_10, q_t_10, S_t_10, N_t_10, H_t_10, G_t_10⟩ := id V_t
  refine OEnds.st (S' := T0.setTop (mkF m 17 #[vr t, vi 47, vi 0, vi 12, vi 47, vi 9] [(.int 42)])) (X0.baloadBytes hx (j := (9 : Int32)) (v := (.int 42)) (by rw [e0]; exact Ar_t_10.1) (State.isArrayOf_alike hZ.alike Ar_t_10.2.1) Ar_t_10.2.2 (inb_of S_t_10 ⟨by decide, by decide⟩) (H_t_10.at (inb_of S_t_10 ⟨by decide, by decide⟩) rfl) (g := (mkF m 16 #[vr t, vi 47, vi 0, vi 12, vi 47, vi 9] [(.int 9), (.ref t)])) rfl rfl (hb hby d_jdk_43_23_16)) ?_
  refine OEnds.st (S' := T0.setTop (mkF m 16 #[vr t, vi 47, vi 0, vi 12, vi 47, vi 10] [(.int 10), (.ref t)])) (fun _ k => ?_) ?_
  · refine XS.iload X0.here hx rfl (hb hby d_jdk_43_23_17) rfl ?_
    refine XS.icmpYes X0.here hx rfl (pc0 := 19) (pc' := 25) rfl (hb hby d_jdk_43_23_19) rfl (feq (by decide)).2 (by decide) (by decide) ?_
    refine XS.iinc X0.here hx rfl (hb hby d_jdk_43_23_25) rfl (l' := #[vr t, vi 47, vi 0, vi 12, vi 47, vi 10]) rfl ?_
    refine XS.goto X0.here hx rfl (pc0 := 28) (pc' := 7) rfl (hb hby d_jdk_43_23_28) (by decide) (by decide) ?_
    show Steps p.tables e below (T0.setTop (mkF m 7 #[vr t, vi 47, vi 0, vi 12, vi 47, vi 10] [])) _
    refine XS.iload X0.here hx rfl (hb hby d_jdk_43_23_7) rfl ?_
    refine XS.iloadN X0.here hx rfl (hb hby d_jdk_43_23_9) rfl ?_
    refine XS.icmpNo X0.here hx rfl (hb hby d_jdk_43_23_10) rfl (tlt (by decide)).2.1 ?_
    refine XS.aloadN X0.here hx rfl (hb hby d_jdk_43_23_13) rfl rfl ?_
    show Steps p.tables e below (T0.setTop (mkF m 14 #[vr t, vi 47, vi 0, vi 12, vi 47, vi 10] [(.ref t)])) _
    refine XS.iload X0.here hx rfl (hb hby d_jdk_43_23_14) rfl ?_
    exact k
  obtain ⟨cl_t_11, Ar_t_11, q_t_11, S_t_11, N_t_11, H_t_11, G_t_11⟩ := id V_t
  refine OEnds.st (S' := T0.setTop (mkF m 17 #[vr t, vi 47, vi 0, vi 12, vi 47, vi 10] [(.int 43)])) (X0.baloadBytes hx (j := (10 : Int32)) (v := (.int 43)) (by rw [e0]; exact Ar_t_11.1) (State.isArrayOf_alike hZ.alike Ar_t_11.2.1) Ar_t_11.2.2 (inb_of S_t_11 ⟨by decide, by decide⟩) (H_t_11.at (inb_of S_t_11 ⟨by decide, by decide⟩) rfl) (g := (mkF m 16 #[vr t, vi 47, vi 0, vi 12, vi 47, vi 10] [(.int 10), (.ref t)])) rfl rfl (hb hby d_jdk_43_23_16)) ?_
  refine OEnds.st (S' := T0.setTop (mkF m 16 #[vr t, vi 47, vi 0, vi 12, vi 47, vi 11] [(.int 11), (.ref t)])) (fun _ k => ?_) ?_
  · refine XS.iload X0.here hx rfl (hb hby d_jdk_43_23_17) rfl ?_
    refine XS.icmpYes X0.here hx rfl (pc0 := 19) (pc' := 25) rfl (hb hby d_jdk_43_23_19) rfl (feq (by decide)).2 (by decide) (by decide) ?_
    refine XS.iinc X0.here hx rfl (hb hby d_jdk_43_23_25) rfl (l' := #[vr t, vi 47, vi 0, vi 12, vi 47, vi 11]) rfl ?_
    refine XS.goto X0.here hx rfl (pc0 := 28) (pc' := 7) rfl (hb hby d_jdk_43_23_28) (by decide) (by decide) ?_
    show Steps p.tables e below (T0.setTop (mkF m 7 #[vr t, vi 47, vi 0, vi 12, vi 47, vi 11] [])) _
    refine XS.iload X0.here hx rfl (hb hby d_jdk_43_23_7) rfl ?_
    refine XS.iloadN X0.here hx rfl (hb hby d_jdk_43_23_9) rfl ?_
    refine XS.icmpNo X0.here hx rfl (hb hby d_jdk_43_23_10) rfl (tlt (by decide)).2.1 ?_
    refine XS.aloadN X0.here hx rfl (hb hby d_jdk_43_23_13) rfl rfl ?_
    show Steps p.tables e below (T0.setTop (mkF m 14 #[vr t, vi 47, vi 0, vi 12, vi 47, vi 11] [(.ref t)])) _
    refine XS.iload X0.here hx rfl (hb hby d_jdk_43_23_14) rfl ?_
    exact k
  obtain ⟨cl_t_12, Ar_t_12, q_t_12, S_t_12, N_t_12, H_t_12, G_t_12⟩ := id V_t
  refine OEnds.st (S' := T0.setTop (mkF m 17 #[vr t, vi 47, vi 0, vi 12, vi 47, vi 11] [(.int 92)])) (X0.baloadBytes hx (j := (11 : Int32)) (v := (.int 92)) (by rw [e0]; exact Ar_t_12.1) (State.isArrayOf_alike hZ.alike Ar_t_12.2.1) Ar_t_12.2.2 (inb_of S_t_12 ⟨by decide, by decide⟩) (H_t_12.at (inb_of S_t_12 ⟨by decide, by decide⟩) rfl) (g := (mkF m 16 #[vr t, vi 47, vi 0, vi 12, vi 47, vi 11] [(.int 11), (.ref t)])) rfl rfl (hb hby d_jdk_43_23_16)) ?_
  refine OEnds.st (S' := T0.setTop (mkF m 32 #[vr t, vi 47, vi 0, vi 12, vi 47, vi 12] [(.int (-1))])) (fun _ k => ?_) ?_
  · refine XS.iload X0.here hx rfl (hb hby d_jdk_43_23_17) rfl ?_
    refine XS.icmpYes X0.here hx rfl (pc0 := 19) (pc' := 25) rfl (hb hby d_jdk_43_23_19) rfl (feq (by decide)).2 (by decide) (by decide) ?_
    refine XS.iinc X0.here hx rfl (hb hby d_jdk_43_23_25) rfl (l' := #[vr t, vi 47, vi 0, vi 12, vi 47, vi 12]) rfl ?_
    refine XS.goto X0.here hx rfl (pc0 := 28) (pc' := 7) rfl (hb hby d_jdk_43_23_28) (by decide) (by decide) ?_
    show Steps p.tables e below (T0.setTop (mkF m 7 #[vr t, vi 47, vi 0, vi 12, vi 47, vi 12] [])) _
    refine XS.iload X0.here hx rfl (hb hby d_jdk_43_23_7) rfl ?_
    refine XS.iloadN X0.here hx rfl (hb hby d_jdk_43_23_9) rfl ?_
    refine XS.icmpYes X0.here hx rfl (pc0 := 10) (pc' := 31) rfl (hb hby d_jdk_43_23_10) rfl (flt (by decide)).2.1 (by decide) (by decide) ?_
    refine XS.iconst X0.here hx rfl (hb hby d_jdk_43_23_31) ?_
    exact k
  exact OEnds.ret X0 hx hret hlk rfl (Or.inl ⟨rfl, by simp, _, rfl⟩) (hb hby d_jdk_43_23_32) (by decide) (by decide) (by rw [e0]; exact ⟨rfl, N0, rfl⟩)
-- java/lang/StringLatin1.indexOf:([BIII)I
def Q_lioM (Z : State) (t : Addr) (k : ClassId) (h0 : Heap) (v : Option Value) (h : Heap) (L : List Loc) : Prop := v = some (.int (-1)) ∧ Fr Z.heap.size L ∧ h = h0
theorem ef_lioM (m : MethodId) (t : Addr) : entryFrame m #[(.ref t), (.int 47), (.int 0), (.int 12)] 4 = mkF m 0 #[vr t, vi 47, vi 0, vi 12] [] := by first | (simp [entryFrame, mkF, argsToLocals, Value.category, vi, vj, vr]; done) | rfl
set_option maxRecDepth 65536 in
set_option maxHeartbeats 40000000 in
theorem rm_lioM (l : Launch) {Z : State} {a0 : Array Value} (hD : Wd Z a0) (t : Addr) (k : ClassId) {h0 : Heap} (O0 : Ext Z.heap h0) (V_t : Arv Z h0 t k .byte (12 : Int32) [(.int 46), (.int 36), (.int 124), (.int 40), (.int 41), (.int 91), (.int 123), (.int 94), (.int 63), (.int 42), (.int 43), (.int 92)] (.int 0)) :
    Con l Z (⟨"java/lang/StringLatin1", "indexOf", "([BIII)I"⟩ : MethodName) jdk_43_method_22_code 4 (some .int) [] ({ frames := 1, cells := 0, slots := 0, locals := 17 } : Room) #[(.ref t), (.int 47), (.int 0), (.int 12)] h0 (Q_lioM Z t k h0) := by
  refine Con.walk (plainFor_of_name pn_6) ?_
  intro p e s m below meth c T0 X0 hx hZ hby hml hown hnm hret hlk e0
  obtain ⟨hw, ⟨cz, S_CS, hcz⟩, ⟨sf, S_SF, hsf⟩, ⟨xde, xkde, S_DE, V_DE⟩⟩ := id hD
  have N0 := Fr.nil Z.heap.size
  refine OEnds.cast (ef_lioM m t) ?_
  refine OEnds.st (S' := T0.setTop (mkF m 1 #[vr t, vi 47, vi 0, vi 12] [(.int 47)])) (fun _ k => ?_) ?_
  · refine XS.iloadN X0.here hx rfl (hb hby d_jdk_43_22_0) rfl ?_
    exact k
  obtain ⟨_, T1, h1, L1, X1, e1, hQ1, st1⟩ := callC X0 hx hZ hown (wq hw 156 rfl) (wq hw 157 rfl) (wq hw 133 rfl) (wq hw 158 rfl) (by decide) (kc := 0) (ks := 0) (Con.sb (W := 0) (rm_canEnc l hD  O0) hZ (wq hw 158 rfl) (wq hw 133 rfl) (by decide) (by decide)) e0 (g := (mkF m 1 #[vr t, vi 47, vi 0, vi 12] [(.int 47)])) rfl (by rw [hml]; rfl) (argsL := [(.int 47)]) (rest := []) (lenOf pd_10 rfl) rfl (by show 2 * 0 + _ ≤ _; exact Nat.le_of_eq rfl) (hb hby d_jdk_43_22_1) (by decide) (by decide)
  obtain ⟨rfl, Nq1, Hq1⟩ := hQ1
  refine OEnds.st st1 ?_
  replace N0 := Fr.app N0 Nq1
  replace e1 := e1.trans Hq1
  refine OEnds.st (S' := T1.setTop (mkF m 11 #[vr t, vi 47, vi 0, vi 12] [(.int 0), (.int 0)])) (fun _ k => ?_) ?_
  · refine XS.ifYes X1.here hx rfl (pc0 := 4) (pc' := 9) rfl (hb hby d_jdk_43_22_4) rfl ((if0 _ _).trans (feq (by decide)).2) (by decide) (by decide) ?_
    refine XS.iloadN X1.here hx rfl (hb hby d_jdk_43_22_9) rfl ?_
    refine XS.iconst X1.here hx rfl (hb hby d_jdk_43_22_10) ?_
    exact k
  obtain ⟨_, T2, h2, L2, X2, e2, hQ2, st2⟩ := callC X1 hx hZ hown (wq hw 159 rfl) (wq hw 160 rfl) (wq hw 161 rfl) (wq hw 162 rfl) (by decide) (kc := 0) (ks := 0) (Con.sb (W := 0) (rm_max00 l hD  O0) hZ (wq hw 162 rfl) (wq hw 161 rfl) (by decide) (by decide)) e1 (g := (mkF m 11 #[vr t, vi 47, vi 0, vi 12] [(.int 0), (.int 0)])) rfl (by rw [hml]; rfl) (argsL := [(.int 0), (.int 0)]) (rest := []) (lenOf pd_2 rfl) rfl (by show 2 * 0 + _ ≤ _; exact Nat.le_of_eq rfl) (hb hby d_jdk_43_22_11) (by decide) (by decide)
  obtain ⟨rfl, Nq2, Hq2⟩ := hQ2
  refine OEnds.st st2 ?_
  replace N0 := Fr.app N0 Nq2
  replace e2 := e2.trans Hq2
  refine OEnds.st (S' := T2.setTop (mkF m 17 #[vr t, vi 47, vi 0, vi 12] [(.ref t), (.int 12)])) (fun _ k => ?_) ?_
  · refine XS.istoreN X2.here hx rfl (hb hby d_jdk_43_22_14) rfl (l' := #[vr t, vi 47, vi 0, vi 12]) rfl ?_
    refine XS.iloadN X2.here hx rfl (hb hby d_jdk_43_22_15) rfl ?_
    refine XS.aloadN X2.here hx rfl (hb hby d_jdk_43_22_16) rfl rfl ?_
    exact k
  obtain ⟨cl_t_3, Ar_t_3, q_t_3, S_t_3, N_t_3, H_t_3, G_t_3⟩ := id V_t
  refine OEnds.st (S' := T2.setTop (mkF m 18 #[vr t, vi 47, vi 0, vi 12] [(.int 12), (.int 12)])) (fun tg kq9 => X2.arraylength hx (by rw [e2]; exact Ar_t_3.1) (State.isArrayOf_alike hZ.alike Ar_t_3.2.1) (g := (mkF m 17 #[vr t, vi 47, vi 0, vi 12] [(.ref t), (.int 12)])) rfl rfl (hb hby d_jdk_43_22_17) tg (by rw [len_of S_t_3 N_t_3]; exact kq9)) ?_
  obtain ⟨_, T4, h4, L4, X4, e4, hQ4, st4⟩ := callC X2 hx hZ hown (wq hw 163 rfl) (wq hw 164 rfl) (wq hw 161 rfl) (wq hw 165 rfl) (by decide) (kc := 0) (ks := 0) (Con.sb (W := 0) (rm_minSame l hD (12 : Int32) O0) hZ (wq hw 165 rfl) (wq hw 161 rfl) (by decide) (by decide)) e2 (g := (mkF m 18 #[vr t, vi 47, vi 0, vi 12] [(.int 12), (.int 12)])) rfl (by rw [hml]; rfl) (argsL := [(.int 12), (.int 12)]) (rest := []) (lenOf pd_2 rfl) rfl (by show 2 * 0 + _ ≤ _; exact Nat.le_of_eq rfl) (hb hby d_jdk_43_22_18) (by decide) (by decide)
  obtain ⟨rfl, Nq4, Hq4⟩ := hQ4
  refine OEnds.st st4 ?_
  replace N0 := Fr.app N0 Nq4
  replace e4 := e4.trans Hq4
  refine OEnds.st (S' := T4.setTop (mkF m 33 #[vr t, vi 47, vi 0, vi 12] [(.int 12), (.int 0), (.int 47), (.ref t)])) (fun _ k => ?_) ?_
  · refine XS.istoreN X4.here hx rfl (hb hby d_jdk_43_22_21) rfl (l' := #[vr t, vi 47, vi 0, vi 12]) rfl ?_
    refine XS.iloadN X4.here hx rfl (hb hby d_jdk_43_22_22) rfl ?_
    refine XS.iloadN X4.here hx rfl (hb hby d_jdk_43_22_23) rfl ?_
    refine XS.icmpYes X4.here hx rfl (pc0 := 24) (pc' := 29) rfl (hb hby d_jdk_43_22_24) rfl (tlt (by decide)).1 (by decide) (by decide) ?_
    show Steps p.tables e below (T4.setTop (mkF m 29 #[vr t, vi 47, vi 0, vi 12] [])) _
    refine XS.aloadN X4.here hx rfl (hb hby d_jdk_43_22_29) rfl rfl ?_
    refine XS.iloadN X4.here hx rfl (hb hby d_jdk_43_22_30) rfl ?_
    refine XS.iloadN X4.here hx rfl (hb hby d_jdk_43_22_31) rfl ?_
    refine XS.iloadN X4.here hx rfl (hb hby d_jdk_43_22_32) rfl ?_
    exact k
  obtain ⟨_, T5, h5, L5, X5, e5, hQ5, st5⟩ := callC X4 hx hZ hown (wq hw 166 rfl) (wq hw 167 rfl) (wq hw 133 rfl) (wq hw 168 rfl) (by decide) (kc := 0) (ks := 0) (Con.sb (W := 0) (rm_iocM l hD t k O0 V_t) hZ (wq hw 168 rfl) (wq hw 133 rfl) (by decide) (by decide)) e4 (g := (mkF m 33 #[vr t, vi 47, vi 0, vi 12] [(.int 12), (.int 0), (.int 47), (.ref t)])) rfl (by rw [hml]; rfl) (argsL := [(.ref t), (.int 47), (.int 0), (.int 12)]) (rest := []) (lenOf pd_11 rfl) rfl (by show 2 * 0 + _ ≤ _; exact Nat.le_of_eq rfl) (hb hby d_jdk_43_22_33) (by decide) (by decide)
  obtain ⟨rfl, Nq5, Hq5⟩ := hQ5
  refine OEnds.st st5 ?_
  replace N0 := Fr.app N0 Nq5
  replace e5 := e5.trans Hq5
  exact OEnds.ret X5 hx hret hlk rfl (Or.inl ⟨rfl, by simp, _, rfl⟩) (hb hby d_jdk_43_22_36) (by decide) (by decide) (by rw [e5]; exact ⟨rfl, N0, rfl⟩)
-- java/lang/String.indexOf:(II)I
def Q_io2M (Z : State) (a : Addr) (t : Addr) (k : ClassId) (h0 : Heap) (v : Option Value) (h : Heap) (L : List Loc) : Prop := v = some (.int (-1)) ∧ Fr Z.heap.size L ∧ h = h0
theorem ef_io2M (m : MethodId) (a : Addr) : entryFrame m #[(.ref a), (.int 47), (.int 0)] 3 = mkF m 0 #[vr a, vi 47, vi 0] [] := by first | (simp [entryFrame, mkF, argsToLocals, Value.category, vi, vj, vr]; done) | rfl
set_option maxRecDepth 65536 in
set_option maxHeartbeats 40000000 in
theorem rm_io2M (l : Launch) {Z : State} {a0 : Array Value} (hD : Wd Z a0) (a : Addr) (t : Addr) (k : ClassId) {h0 : Heap} (O0 : Ext Z.heap h0) (E_a : Exa Z h0 a "java/lang/String") (F_coder_a : Fld Z h0 a "java/lang/String" "coder" "B" (.int 0)) (F_value_a : Fld Z h0 a "java/lang/String" "value" "[B" (.ref t)) (V_t : Arv Z h0 t k .byte (12 : Int32) [(.int 46), (.int 36), (.int 124), (.int 40), (.int 41), (.int 91), (.int 123), (.int 94), (.int 63), (.int 42), (.int 43), (.int 92)] (.int 0)) :
    Con l Z (⟨"java/lang/String", "indexOf", "(II)I"⟩ : MethodName) jdk_42_method_80_code 3 (some .int) [] ({ frames := 2, cells := 0, slots := 0, locals := 32 } : Room) #[(.ref a), (.int 47), (.int 0)] h0 (Q_io2M Z a t k h0) := by
  refine Con.walk (plainFor_of_name pn_0) ?_
  intro p e s m below meth c T0 X0 hx hZ hby hml hown hnm hret hlk e0
  obtain ⟨hw, ⟨cz, S_CS, hcz⟩, ⟨sf, S_SF, hsf⟩, ⟨xde, xkde, S_DE, V_DE⟩⟩ := id hD
  have N0 := Fr.nil Z.heap.size
  refine OEnds.cast (ef_io2M m a) ?_
  refine OEnds.st (S' := T0.setTop (mkF m 1 #[vr a, vi 47, vi 0] [(.ref a)])) (fun _ k => ?_) ?_
  · refine XS.aloadN X0.here hx rfl (hb hby d_jdk_42_80_0) rfl rfl ?_
    exact k
  obtain ⟨_, T1, h1, L1, X1, e1, hQ1, st1⟩ := virtC X0 hx hZ (y := (⟨"java/lang/String", "isLatin1", "()Z"⟩ : MethodName)) (z := (⟨"java/lang/String", "isLatin1", "()Z"⟩ : MethodName)) hown (wq hw 126 rfl) (wq hw 127 rfl) (nf_sel (args := #[]) (mvT hZ (wq hw 103 rfl)) rfl) (wq hw 129 rfl) (wq hw 128 rfl) (by decide) (kc := 0) (ks := 0) (Con.sb (W := 0) (rm_isLatS l hD a O0 F_coder_a) hZ (wq hw 130 rfl) (wq hw 56 rfl) (by decide) (by decide)) e0 E_a (g := (mkF m 1 #[vr a, vi 47, vi 0] [(.ref a)])) rfl (by rw [hml]; rfl) (argsL := []) (rest := []) (lenOf pd_8 rfl) rfl (by show 2 * 0 + _ ≤ _; exact Nat.le_of_eq rfl) (hb hby d_jdk_42_80_1) (by decide) (by decide)
  obtain ⟨rfl, Nq1, Hq1⟩ := hQ1
  refine OEnds.st st1 ?_
  replace N0 := Fr.app N0 Nq1
  replace e1 := e1.trans Hq1
  refine OEnds.st (S' := T1.setTop (mkF m 8 #[vr a, vi 47, vi 0] [(.ref a)])) (fun _ k => ?_) ?_
  · refine XS.ifNo X1.here hx rfl (hb hby d_jdk_42_80_4) rfl ((if0 _ _).trans (feq (by decide)).1) ?_
    refine XS.aloadN X1.here hx rfl (hb hby d_jdk_42_80_7) rfl rfl ?_
    exact k
  obtain ⟨T2, X2, e2, st2⟩ := getF X1 hx hZ hown (host := "") (Or.inl (wq hw 79 rfl)) Via.refl e1 F_value_a (g := (mkF m 8 #[vr a, vi 47, vi 0] [(.ref a)])) rfl rfl (hb hby d_jdk_42_80_8)
  refine OEnds.st st2 ?_
  refine OEnds.st (S' := T2.setTop (mkF m 14 #[vr a, vi 47, vi 0] [(.ref a), (.int 0), (.int 47), (.ref t)])) (fun _ k => ?_) ?_
  · refine XS.iloadN X2.here hx rfl (hb hby d_jdk_42_80_11) rfl ?_
    refine XS.iloadN X2.here hx rfl (hb hby d_jdk_42_80_12) rfl ?_
    refine XS.aloadN X2.here hx rfl (hb hby d_jdk_42_80_13) rfl rfl ?_
    exact k
  obtain ⟨_, T3, h3, L3, X3, e3, hQ3, st3⟩ := virtC X2 hx hZ (y := (⟨"java/lang/String", "length", "()I"⟩ : MethodName)) (z := (⟨"java/lang/String", "length", "()I"⟩ : MethodName)) hown (wq hw 110 rfl) (wq hw 111 rfl) (nf_sel (args := #[]) (mvT hZ (wq hw 103 rfl)) rfl) (wq hw 113 rfl) (wq hw 112 rfl) (by decide) (kc := 0) (ks := 0) (Con.sb (W := 3) (rm_strLen l hD a t k (12 : Int32) [(.int 46), (.int 36), (.int 124), (.int 40), (.int 41), (.int 91), (.int 123), (.int 94), (.int 63), (.int 42), (.int 43), (.int 92)] O0 E_a F_coder_a F_value_a V_t) hZ (wq hw 114 rfl) (wq hw 56 rfl) (by decide) (by decide)) e2 E_a (g := (mkF m 14 #[vr a, vi 47, vi 0] [(.ref a), (.int 0), (.int 47), (.ref t)])) rfl (by rw [hml]; rfl) (argsL := []) (rest := [(.int 0), (.int 47), (.ref t)]) (lenOf pd_12 rfl) rfl (by show 2 * 0 + _ ≤ _; exact Nat.le_of_eq rfl) (hb hby d_jdk_42_80_14) (by decide) (by decide)
  obtain ⟨rfl, Nq3, Hq3⟩ := hQ3
  refine OEnds.st st3 ?_
  replace N0 := Fr.app N0 Nq3
  replace e3 := e3.trans Hq3
  obtain ⟨_, T4, h4, L4, X4, e4, hQ4, st4⟩ := callC X3 hx hZ hown (wq hw 153 rfl) (wq hw 154 rfl) (wq hw 133 rfl) (wq hw 155 rfl) (by decide) (kc := 0) (ks := 0) (Con.sb (W := 0) (rm_lioM l hD t k O0 V_t) hZ (wq hw 155 rfl) (wq hw 133 rfl) (by decide) (by decide)) e3 (g := (mkF m 17 #[vr a, vi 47, vi 0] [(.int 12), (.int 0), (.int 47), (.ref t)])) rfl (by rw [hml]; rfl) (argsL := [(.ref t), (.int 47), (.int 0), (.int 12)]) (rest := []) (lenOf pd_11 rfl) rfl (by show 2 * 0 + _ ≤ _; exact Nat.le_of_eq rfl) (hb hby d_jdk_42_80_17) (by decide) (by decide)
  obtain ⟨rfl, Nq4, Hq4⟩ := hQ4
  refine OEnds.st st4 ?_
  replace N0 := Fr.app N0 Nq4
  replace e4 := e4.trans Hq4
  refine OEnds.st (S' := T4.setTop (mkF m 36 #[vr a, vi 47, vi 0] [(.int (-1))])) (fun _ k => ?_) ?_
  · refine XS.goto X4.here hx rfl (pc0 := 20) (pc' := 36) rfl (hb hby d_jdk_42_80_20) (by decide) (by decide) ?_
    exact k
  exact OEnds.ret X4 hx hret hlk rfl (Or.inl ⟨rfl, by simp, _, rfl⟩) (hb hby d_jdk_42_80_36) (by decide) (by decide) (by rw [e4]; exact ⟨rfl, N0, rfl⟩)
-- java/lang/String.indexOf:(I)I
def Q_io1M (Z : State) (a : Addr) (t : Addr) (k : ClassId) (h0 : Heap) (v : Option Value) (h : Heap) (L : List Loc) : Prop := v = some (.int (-1)) ∧ Fr Z.heap.size L ∧ h = h0
theorem ef_io1M (m : MethodId) (a : Addr) : entryFrame m #[(.ref a), (.int 47)] 2 = mkF m 0 #[vr a, vi 47] [] := by first | (simp [entryFrame, mkF, argsToLocals, Value.category, vi, vj, vr]; done) | rfl
theorem d_jdk_42_79_0 : decode jdk_42_method_79_code 0 = .ok (.aload_n 0, 1) := by decide +kernel
theorem d_jdk_42_79_1 : decode jdk_42_method_79_code 1 = .ok (.iload_n 1, 1) := by decide +kernel
theorem d_jdk_42_79_2 : decode jdk_42_method_79_code 2 = .ok (.iconst 0, 1) := by decide +kernel
theorem d_jdk_42_79_3 : decode jdk_42_method_79_code 3 = .ok (.invokevirtual 633, 3) := by decide +kernel
theorem d_jdk_42_79_6 : decode jdk_42_method_79_code 6 = .ok (.ireturn, 1) := by decide +kernel
set_option maxRecDepth 65536 in
set_option maxHeartbeats 40000000 in
theorem rm_io1M (l : Launch) {Z : State} {a0 : Array Value} (hD : Wd Z a0) (a : Addr) (t : Addr) (k : ClassId) {h0 : Heap} (O0 : Ext Z.heap h0) (E_a : Exa Z h0 a "java/lang/String") (F_coder_a : Fld Z h0 a "java/lang/String" "coder" "B" (.int 0)) (F_value_a : Fld Z h0 a "java/lang/String" "value" "[B" (.ref t)) (V_t : Arv Z h0 t k .byte (12 : Int32) [(.int 46), (.int 36), (.int 124), (.int 40), (.int 41), (.int 91), (.int 123), (.int 94), (.int 63), (.int 42), (.int 43), (.int 92)] (.int 0)) :
    Con l Z (⟨"java/lang/String", "indexOf", "(I)I"⟩ : MethodName) jdk_42_method_79_code 2 (some .int) [] ({ frames := 3, cells := 0, slots := 0, locals := 46 } : Room) #[(.ref a), (.int 47)] h0 (Q_io1M Z a t k h0) := by
  refine Con.walk (plainFor_of_name pn_0) ?_
  intro p e s m below meth c T0 X0 hx hZ hby hml hown hnm hret hlk e0
  obtain ⟨hw, ⟨cz, S_CS, hcz⟩, ⟨sf, S_SF, hsf⟩, ⟨xde, xkde, S_DE, V_DE⟩⟩ := id hD
  have N0 := Fr.nil Z.heap.size
  refine OEnds.cast (ef_io1M m a) ?_
  refine OEnds.st (S' := T0.setTop (mkF m 3 #[vr a, vi 47] [(.int 0), (.int 47), (.ref a)])) (fun _ k => ?_) ?_
  · refine XS.aloadN X0.here hx rfl (hb hby d_jdk_42_79_0) rfl rfl ?_
    refine XS.iloadN X0.here hx rfl (hb hby d_jdk_42_79_1) rfl ?_
    refine XS.iconst X0.here hx rfl (hb hby d_jdk_42_79_2) ?_
    exact k
  obtain ⟨_, T1, h1, L1, X1, e1, hQ1, st1⟩ := virtC X0 hx hZ (y := (⟨"java/lang/String", "indexOf", "(II)I"⟩ : MethodName)) (z := (⟨"java/lang/String", "indexOf", "(II)I"⟩ : MethodName)) hown (wq hw 148 rfl) (wq hw 149 rfl) (nf_sel (args := #[]) (mvT hZ (wq hw 103 rfl)) rfl) (wq hw 151 rfl) (wq hw 150 rfl) (by decide) (kc := 0) (ks := 0) (Con.sb (W := 0) (rm_io2M l hD a t k O0 E_a F_coder_a F_value_a V_t) hZ (wq hw 152 rfl) (wq hw 56 rfl) (by decide) (by decide)) e0 E_a (g := (mkF m 3 #[vr a, vi 47] [(.int 0), (.int 47), (.ref a)])) rfl (by rw [hml]; rfl) (argsL := [(.int 47), (.int 0)]) (rest := []) (lenOf pd_2 rfl) rfl (by show 2 * 0 + _ ≤ _; exact Nat.le_of_eq rfl) (hb hby d_jdk_42_79_3) (by decide) (by decide)
  obtain ⟨rfl, Nq1, Hq1⟩ := hQ1
  refine OEnds.st st1 ?_
  replace N0 := Fr.app N0 Nq1
  replace e1 := e1.trans Hq1
  exact OEnds.ret X1 hx hret hlk rfl (Or.inl ⟨rfl, by simp, _, rfl⟩) (hb hby d_jdk_42_79_6) (by decide) (by decide) (by rw [e1]; exact ⟨rfl, N0, rfl⟩)
-- java/lang/String.split:(CIZ)[Ljava/lang/String;
def Q_splitC (Z : State) (a : Addr) (t : Addr) (k : ClassId) (h0 : Heap) (v : Option Value) (h : Heap) (L : List Loc) : Prop := ∃ (r : Addr) (kr : ClassId), v = some (.ref r) ∧ Fr Z.heap.size L ∧ Keep h0 h [] ∧ Arv Z h r kr (.object "java/lang/String") (1 : Int32) [.ref a] .null
theorem ef_splitC (m : MethodId) (a : Addr) : entryFrame m #[(.ref a), (.int 47), (.int (-1)), (.int 0)] 12 = mkF m 0 #[vr a, vi 47, vi (-1), vi 0, .unset, .unset, .unset, .unset, .unset, .unset, .unset, .unset] [] := by first | (simp [entryFrame, mkF, argsToLocals, Value.category, vi, vj, vr]; done) | rfl
theorem d_jdk_42_104_0 : decode jdk_42_method_104_code 0 = .ok (.iconst 0, 1) := by decide +kernel
theorem d_jdk_42_104_1 : decode jdk_42_method_104_code 1 = .ok (.istore 4, 2) := by decide +kernel
theorem d_jdk_42_104_3 : decode jdk_42_method_104_code 3 = .ok (.iconst 0, 1) := by decide +kernel
theorem d_jdk_42_104_4 : decode jdk_42_method_104_code 4 = .ok (.istore 5, 2) := by decide +kernel
theorem d_jdk_42_104_6 : decode jdk_42_method_104_code 6 = .ok (.iload_n 2, 1) := by decide +kernel
theorem d_jdk_42_104_7 : decode jdk_42_method_104_code 7 = .ok (.ifCond .le 7, 3) := by decide +kernel
theorem d_jdk_42_104_14 : decode jdk_42_method_104_code 14 = .ok (.iconst 0, 1) := by decide +kernel
theorem d_jdk_42_104_15 : decode jdk_42_method_104_code 15 = .ok (.istore 7, 2) := by decide +kernel
theorem d_jdk_42_104_17 : decode jdk_42_method_104_code 17 = .ok (.new 777, 3) := by decide +kernel
theorem d_jdk_42_104_20 : decode jdk_42_method_104_code 20 = .ok (.dup, 1) := by decide +kernel
theorem d_jdk_42_104_21 : decode jdk_42_method_104_code 21 = .ok (.invokespecial 779, 3) := by decide +kernel
theorem d_jdk_42_104_24 : decode jdk_42_method_104_code 24 = .ok (.astore 8, 2) := by decide +kernel
theorem d_jdk_42_104_26 : decode jdk_42_method_104_code 26 = .ok (.iload_n 3, 1) := by decide +kernel
theorem d_jdk_42_104_27 : decode jdk_42_method_104_code 27 = .ok (.ifCond .eq 10, 3) := by decide +kernel
theorem d_jdk_42_104_37 : decode jdk_42_method_104_code 37 = .ok (.aconst_null, 1) := by decide +kernel
theorem d_jdk_42_104_38 : decode jdk_42_method_104_code 38 = .ok (.astore 9, 2) := by decide +kernel
theorem d_jdk_42_104_40 : decode jdk_42_method_104_code 40 = .ok (.aload_n 0, 1) := by decide +kernel
theorem d_jdk_42_104_41 : decode jdk_42_method_104_code 41 = .ok (.iload_n 1, 1) := by decide +kernel
theorem d_jdk_42_104_42 : decode jdk_42_method_104_code 42 = .ok (.iload 5, 2) := by decide +kernel
theorem d_jdk_42_104_44 : decode jdk_42_method_104_code 44 = .ok (.invokevirtual 633, 3) := by decide +kernel
theorem d_jdk_42_104_47 : decode jdk_42_method_104_code 47 = .ok (.dup, 1) := by decide +kernel
theorem d_jdk_42_104_48 : decode jdk_42_method_104_code 48 = .ok (.istore 6, 2) := by decide +kernel
theorem d_jdk_42_104_50 : decode jdk_42_method_104_code 50 = .ok (.iconst (-1), 1) := by decide +kernel
theorem d_jdk_42_104_51 : decode jdk_42_method_104_code 51 = .ok (.if_icmp .eq 84, 3) := by decide +kernel
theorem d_jdk_42_104_135 : decode jdk_42_method_104_code 135 = .ok (.iload 5, 2) := by decide +kernel
theorem d_jdk_42_104_137 : decode jdk_42_method_104_code 137 = .ok (.ifCond .ne 12, 3) := by decide +kernel
theorem d_jdk_42_104_140 : decode jdk_42_method_104_code 140 = .ok (.iconst 1, 1) := by decide +kernel
theorem d_jdk_42_104_141 : decode jdk_42_method_104_code 141 = .ok (.anewarray 10, 3) := by decide +kernel
theorem d_jdk_42_104_144 : decode jdk_42_method_104_code 144 = .ok (.dup, 1) := by decide +kernel
theorem d_jdk_42_104_145 : decode jdk_42_method_104_code 145 = .ok (.iconst 0, 1) := by decide +kernel
theorem d_jdk_42_104_146 : decode jdk_42_method_104_code 146 = .ok (.aload_n 0, 1) := by decide +kernel
theorem d_jdk_42_104_147 : decode jdk_42_method_104_code 147 = .ok (.aastore, 1) := by decide +kernel
theorem d_jdk_42_104_148 : decode jdk_42_method_104_code 148 = .ok (.areturn, 1) := by decide +kernel
set_option maxRecDepth 65536 in
set_option maxHeartbeats 40000000 in
theorem rm_splitC (l : Launch) {Z : State} {a0 : Array Value} (hD : Wd Z a0) (a : Addr) (t : Addr) (k : ClassId) {h0 : Heap} (O0 : Ext Z.heap h0) (E_a : Exa Z h0 a "java/lang/String") (F_coder_a : Fld Z h0 a "java/lang/String" "coder" "B" (.int 0)) (F_value_a : Fld Z h0 a "java/lang/String" "value" "[B" (.ref t)) (V_t : Arv Z h0 t k .byte (1 : Int32) [(.int 97)] (.int 0)) :
    Con l Z (⟨"java/lang/String", "split", "(CIZ)[Ljava/lang/String;"⟩ : MethodName) jdk_42_method_104_code 12 (some (.array (.object "java/lang/String"))) [] ({ frames := 4, cells := 2, slots := 4, locals := 49 } : Room) #[(.ref a), (.int 47), (.int (-1)), (.int 0)] h0 (Q_splitC Z a t k h0) := by
  refine Con.walk (plainFor_of_name pn_0) ?_
  intro p e s m below meth c T0 X0 hx hZ hby hml hown hnm hret hlk e0
  obtain ⟨hw, ⟨cz, S_CS, hcz⟩, ⟨sf, S_SF, hsf⟩, ⟨xde, xkde, S_DE, V_DE⟩⟩ := id hD
  have N0 := Fr.nil Z.heap.size
  have K0 : Keep h0 h0 [] := Keep.refl _ _
  refine OEnds.cast (ef_splitC m a) ?_
  refine OEnds.st (S' := T0.setTop (mkF m 17 #[vr a, vi 47, vi (-1), vi 0, vi 0, vi 0, .unset, vi 0, .unset, .unset, .unset, .unset] [])) (fun _ k => ?_) ?_
  · refine XS.iconst X0.here hx rfl (hb hby d_jdk_42_104_0) ?_
    refine XS.istore X0.here hx rfl (hb hby d_jdk_42_104_1) rfl (l' := #[vr a, vi 47, vi (-1), vi 0, vi 0, .unset, .unset, .unset, .unset, .unset, .unset, .unset]) rfl ?_
    refine XS.iconst X0.here hx rfl (hb hby d_jdk_42_104_3) ?_
    refine XS.istore X0.here hx rfl (hb hby d_jdk_42_104_4) rfl (l' := #[vr a, vi 47, vi (-1), vi 0, vi 0, vi 0, .unset, .unset, .unset, .unset, .unset, .unset]) rfl ?_
    show Steps p.tables e below (T0.setTop (mkF m 6 #[vr a, vi 47, vi (-1), vi 0, vi 0, vi 0, .unset, .unset, .unset, .unset, .unset, .unset] [])) _
    refine XS.iloadN X0.here hx rfl (hb hby d_jdk_42_104_6) rfl ?_
    refine XS.ifYes X0.here hx rfl (pc0 := 7) (pc' := 14) rfl (hb hby d_jdk_42_104_7) rfl ((if0 _ _).trans (flt (by decide)).2.2.2) (by decide) (by decide) ?_
    refine XS.iconst X0.here hx rfl (hb hby d_jdk_42_104_14) ?_
    refine XS.istore X0.here hx rfl (hb hby d_jdk_42_104_15) rfl (l' := #[vr a, vi 47, vi (-1), vi 0, vi 0, vi 0, .unset, vi 0, .unset, .unset, .unset, .unset]) rfl ?_
    exact k
  obtain ⟨T1, h1, X1, e1, E1, A1, D1, U1, st1⟩ := newO X0 hx hZ hown (wq hw 175 rfl) (wq hw 1 rfl) (wq hw 2 rfl) e0 (g := (mkF m 17 #[vr a, vi 47, vi (-1), vi 0, vi 0, vi 0, .unset, vi 0, .unset, .unset, .unset, .unset] [])) rfl (hb hby d_jdk_42_104_17) (by decide) (by decide)
  obtain ⟨b1, g1⟩ : ∃ z, z = h0.size := ⟨_, rfl⟩
  rw [← g1] at A1 D1 U1 st1
  refine OEnds.st st1 ?_
  have ne_a_b1 : a ≠ b1 := Nat.ne_of_lt (Nat.lt_of_lt_of_le E_a.lt (Nat.le_of_eq g1.symm))
  have ne_t_b1 : t ≠ b1 := Nat.ne_of_lt (Nat.lt_of_lt_of_le V_t.lt (Nat.le_of_eq g1.symm))
  have ge_b1 : Z.heap.size ≤ b1 := Nat.le_trans O0.1 (Nat.le_of_eq g1.symm)
  have sz_b1 : h0.size ≤ b1 := Nat.le_trans K0.1 (Nat.le_of_eq g1.symm)
  replace E_a := E_a.ext E1
  replace F_coder_a := F_coder_a.ext E1
  replace F_value_a := F_value_a.ext E1
  replace V_t := V_t.ext E1
  replace O0 : Ext Z.heap h1 := ext_trans O0 E1
  replace K0 : Keep h0 h1 [] := K0.ext E1
  have F_modCount_b1 : Fld Z h1 b1 "java/util/AbstractList" "modCount" "I" (.int 0) := D1 (Or.inl (wq hw 22 rfl)) (ty := .int) (by decide)
  have F_elementData_b1 : Fld Z h1 b1 "java/util/ArrayList" "elementData" "[Ljava/lang/Object;" .null := D1 (Or.inl (wq hw 25 rfl)) (ty := (.array (.object "java/lang/Object"))) (by decide)
  have F_size_b1 : Fld Z h1 b1 "java/util/ArrayList" "size" "I" (.int 0) := D1 (Or.inl (wq hw 209 rfl)) (ty := .int) (by decide)
  refine OEnds.st (S' := T1.setTop (mkF m 21 #[vr a, vi 47, vi (-1), vi 0, vi 0, vi 0, .unset, vi 0, .unset, .unset, .unset, .unset] [(.ref b1), (.ref b1)])) (fun _ k => ?_) ?_
  · refine XS.dup X1.here hx rfl (hb hby d_jdk_42_104_20) rfl rfl ?_
    exact k
  obtain ⟨_, T2, h2, L2, X2, e2, hQ2, st2⟩ := specC X1 hx hZ rfl hown (wq hw 176 rfl) (wq hw 4 rfl) (wq hw 5 rfl) (by decide) (kc := 0) (ks := 0) (Con.sb (W := 1) (rm_alInit l hD b1 xde O0 A1 F_elementData_b1 F_size_b1 F_modCount_b1 ge_b1 S_DE) hZ (wq hw 5 rfl) (wq hw 2 rfl) (by decide) (by decide)) e1 (a := b1) (g := (mkF m 21 #[vr a, vi 47, vi (-1), vi 0, vi 0, vi 0, .unset, vi 0, .unset, .unset, .unset, .unset] [(.ref b1), (.ref b1)])) rfl (by rw [hml]; rfl) (argsL := []) (rest := [(.ref b1)]) (lenOf pd_1 rfl) rfl (by show 2 * 0 + _ ≤ _; exact Nat.le_of_eq rfl) (hb hby d_jdk_42_104_21) (by decide) (by decide)
  obtain ⟨rfl, Nq2, Kq2, Eq2, Fe2, Fs2, Fm2⟩ := hQ2
  refine OEnds.st st2 ?_
  replace N0 := Fr.app N0 Nq2
  replace E_a := E_a.keep Kq2
  replace F_coder_a := F_coder_a.keep Kq2 (ninS ne_a_b1 nin0)
  replace F_value_a := F_value_a.keep Kq2 (ninS ne_a_b1 nin0)
  replace V_t := V_t.keep Kq2 (ninS ne_t_b1 nin0)
  replace A1 := A1.keep Kq2
  replace O0 : Ext Z.heap h2 := ext_keep O0 Kq2 (allS ge_b1 all0)
  replace K0 : Keep h0 h2 [] := K0.trans Kq2 (allS (Or.inr sz_b1) all0)
  clear A1
  refine OEnds.st (S' := T2.setTop (mkF m 44 #[vr a, vi 47, vi (-1), vi 0, vi 0, vi 0, .unset, vi 0, vr b1, .val .null, .unset, .unset] [(.int 0), (.int 47), (.ref a)])) (fun _ k => ?_) ?_
  · refine XS.astore X2.here hx rfl (hb hby d_jdk_42_104_24) rfl rfl (l' := #[vr a, vi 47, vi (-1), vi 0, vi 0, vi 0, .unset, vi 0, vr b1, .unset, .unset, .unset]) rfl ?_
    refine XS.iloadN X2.here hx rfl (hb hby d_jdk_42_104_26) rfl ?_
    refine XS.ifYes X2.here hx rfl (pc0 := 27) (pc' := 37) rfl (hb hby d_jdk_42_104_27) rfl ((if0 _ _).trans (teq (by decide)).1) (by decide) (by decide) ?_
    refine XS.aconstNull X2.here hx rfl (hb hby d_jdk_42_104_37) ?_
    show Steps p.tables e below (T2.setTop (mkF m 38 #[vr a, vi 47, vi (-1), vi 0, vi 0, vi 0, .unset, vi 0, vr b1, .unset, .unset, .unset] [.null])) _
    refine XS.astore X2.here hx rfl (hb hby d_jdk_42_104_38) rfl rfl (l' := #[vr a, vi 47, vi (-1), vi 0, vi 0, vi 0, .unset, vi 0, vr b1, .val .null, .unset, .unset]) rfl ?_
    refine XS.aloadN X2.here hx rfl (hb hby d_jdk_42_104_40) rfl rfl ?_
    refine XS.iloadN X2.here hx rfl (hb hby d_jdk_42_104_41) rfl ?_
    refine XS.iload X2.here hx rfl (hb hby d_jdk_42_104_42) rfl ?_
    exact k
  obtain ⟨_, T3, h3, L3, X3, e3, hQ3, st3⟩ := virtC X2 hx hZ (y := (⟨"java/lang/String", "indexOf", "(II)I"⟩ : MethodName)) (z := (⟨"java/lang/String", "indexOf", "(II)I"⟩ : MethodName)) hown (wq hw 148 rfl) (wq hw 149 rfl) (nf_sel (args := #[]) (mvT hZ (wq hw 103 rfl)) rfl) (wq hw 151 rfl) (wq hw 150 rfl) (by decide) (kc := 0) (ks := 0) (Con.sb (W := 0) (rm_io2A l hD a t k O0 E_a F_coder_a F_value_a V_t) hZ (wq hw 152 rfl) (wq hw 56 rfl) (by decide) (by decide)) e2 E_a (g := (mkF m 44 #[vr a, vi 47, vi (-1), vi 0, vi 0, vi 0, .unset, vi 0, vr b1, .val .null, .unset, .unset] [(.int 0), (.int 47), (.ref a)])) rfl (by rw [hml]; rfl) (argsL := [(.int 47), (.int 0)]) (rest := []) (lenOf pd_2 rfl) rfl (by show 2 * 0 + _ ≤ _; exact Nat.le_of_eq rfl) (hb hby d_jdk_42_104_44) (by decide) (by decide)
  obtain ⟨rfl, Nq3, Hq3⟩ := hQ3
  refine OEnds.st st3 ?_
  replace N0 := Fr.app N0 Nq3
  replace e3 := e3.trans Hq3
  refine OEnds.st (S' := T3.setTop (mkF m 141 #[vr a, vi 47, vi (-1), vi 0, vi 0, vi 0, vi (-1), vi 0, vr b1, .val .null, .unset, .unset] [(.int 1)])) (fun _ k => ?_) ?_
  · refine XS.dup X3.here hx rfl (hb hby d_jdk_42_104_47) rfl rfl ?_
    refine XS.istore X3.here hx rfl (hb hby d_jdk_42_104_48) rfl (l' := #[vr a, vi 47, vi (-1), vi 0, vi 0, vi 0, vi (-1), vi 0, vr b1, .val .null, .unset, .unset]) rfl ?_
    refine XS.iconst X3.here hx rfl (hb hby d_jdk_42_104_50) ?_
    refine XS.icmpYes X3.here hx rfl (pc0 := 51) (pc' := 135) rfl (hb hby d_jdk_42_104_51) rfl (teq (by decide)).1 (by decide) (by decide) ?_
    show Steps p.tables e below (T3.setTop (mkF m 135 #[vr a, vi 47, vi (-1), vi 0, vi 0, vi 0, vi (-1), vi 0, vr b1, .val .null, .unset, .unset] [])) _
    refine XS.iload X3.here hx rfl (hb hby d_jdk_42_104_135) rfl ?_
    refine XS.ifNo X3.here hx rfl (hb hby d_jdk_42_104_137) rfl ((if0 _ _).trans (teq (by decide)).2) ?_
    refine XS.iconst X3.here hx rfl (hb hby d_jdk_42_104_140) ?_
    exact k
  obtain ⟨T4, h4, k4, X4, e4, E4, A4, Ex4, Ov4, st4⟩ := newRE X3 hx hZ hown (wq hw 178 rfl) (wq hw 179 rfl) e3 (g := (mkF m 141 #[vr a, vi 47, vi (-1), vi 0, vi 0, vi 0, vi (-1), vi 0, vr b1, .val .null, .unset, .unset] [(.int 1)])) rfl (hb hby d_jdk_42_104_141) rfl (by decide) (cap := 1) (by decide) (by decide) (by decide) (by decide) (ad := "[Ljava/lang/String;") (by decide)
  obtain ⟨b4, g4⟩ : ∃ z, z = h2.size := ⟨_, rfl⟩
  rw [← g4] at A4 Ex4 st4
  refine OEnds.st st4 ?_
  have ne_a_b4 : a ≠ b4 := Nat.ne_of_lt (Nat.lt_of_lt_of_le E_a.lt (Nat.le_of_eq g4.symm))
  have ne_t_b4 : t ≠ b4 := Nat.ne_of_lt (Nat.lt_of_lt_of_le V_t.lt (Nat.le_of_eq g4.symm))
  have ge_b4 : Z.heap.size ≤ b4 := Nat.le_trans O0.1 (Nat.le_of_eq g4.symm)
  have sz_b4 : h0.size ≤ b4 := Nat.le_trans K0.1 (Nat.le_of_eq g4.symm)
  replace E_a := E_a.ext E4
  replace F_coder_a := F_coder_a.ext E4
  replace F_value_a := F_value_a.ext E4
  replace V_t := V_t.ext E4
  replace O0 : Ext Z.heap h4 := ext_trans O0 E4
  replace K0 : Keep h0 h4 [] := K0.ext E4
  have V_b4 : Arv Z h4 b4 k4 (.object "java/lang/String") (1 : Int32) [.null] .null := (Arv.new A4 (by decide)).pad (pad_rep [] .null 1)
  refine OEnds.st (S' := T4.setTop (mkF m 147 #[vr a, vi 47, vi (-1), vi 0, vi 0, vi 0, vi (-1), vi 0, vr b1, .val .null, .unset, .unset] [(.ref a), (.int 0), (.ref b4), (.ref b4)])) (fun _ k => ?_) ?_
  · refine XS.dup X4.here hx rfl (hb hby d_jdk_42_104_144) rfl rfl ?_
    refine XS.iconst X4.here hx rfl (hb hby d_jdk_42_104_145) ?_
    refine XS.aloadN X4.here hx rfl (hb hby d_jdk_42_104_146) rfl rfl ?_
    exact k
  obtain ⟨cl_b4_5, Ar_b4_5, q_b4_5, S_b4_5, N_b4_5, H_b4_5, G_b4_5⟩ := V_b4
  obtain ⟨T5, h5, X5, e5, W5, st5⟩ := stR X4 hx hZ e4 Ar_b4_5 (j := (0 : Int32)) (inb_of S_b4_5 ⟨by decide, by decide⟩) rfl (Sto.ofV Ar_b4_5 q_b4_5 Ov4 (Ins.self E_a)) (g := (mkF m 147 #[vr a, vi 47, vi (-1), vi 0, vi 0, vi 0, vi (-1), vi 0, vr b1, .val .null, .unset, .unset] [(.ref a), (.int 0), (.ref b4), (.ref b4)])) rfl rfl (hb hby d_jdk_42_104_147)
  have V_b4_5 : Arv Z h5 b4 k4 (.object "java/lang/String") (1 : Int32) [(.ref a)] .null := Arv.set Ar_b4_5 q_b4_5 S_b4_5 N_b4_5 H_b4_5 G_b4_5 rfl W5 0 rfl (Nat.le_of_ble_eq_true rfl)
  refine OEnds.st st5 ?_
  replace E_a := E_a.wr W5
  replace F_coder_a := F_coder_a.other W5 (Or.inl ne_a_b4)
  replace F_value_a := F_value_a.other W5 (Or.inl ne_a_b4)
  replace V_t := V_t.other W5 ne_t_b4
  replace Ex4 := Ex4.wr W5
  replace O0 : Ext Z.heap h5 := ext_wr O0 W5 ge_b4
  replace N0 := Fr.snoc X5 N0 ge_b4
  replace K0 : Keep h0 h5 [] := K0.wr W5 (Or.inr sz_b4)
  exact OEnds.ret X5 hx hret hlk rfl (Or.inr (Or.inr (Or.inr (Or.inr ⟨rfl, rfl, rfl⟩)))) (hb hby d_jdk_42_104_148) (by decide) (by decide) (by rw [e5]; exact ⟨b4, _, rfl, N0, K0, V_b4_5⟩)
-- java/lang/String.split:(Ljava/lang/String;IZ)[Ljava/lang/String;
def Q_split3 (Z : State) (a : Addr) (b : Addr) (t : Addr) (k : ClassId) (tb : Addr) (kb : ClassId) (h0 : Heap) (v : Option Value) (h : Heap) (L : List Loc) : Prop := ∃ (r : Addr) (kr : ClassId), v = some (.ref r) ∧ Fr Z.heap.size L ∧ Keep h0 h [] ∧ Arv Z h r kr (.object "java/lang/String") (1 : Int32) [.ref a] .null
theorem ef_split3 (m : MethodId) (a : Addr) (b : Addr) : entryFrame m #[(.ref a), (.ref b), (.int (-1)), (.int 0)] 6 = mkF m 0 #[vr a, vr b, vi (-1), vi 0, .unset, .unset] [] := by first | (simp [entryFrame, mkF, argsToLocals, Value.category, vi, vj, vr]; done) | rfl
theorem d_jdk_42_103_0 : decode jdk_42_method_103_code 0 = .ok (.iconst 0, 1) := by decide +kernel
theorem d_jdk_42_103_1 : decode jdk_42_method_103_code 1 = .ok (.istore 4, 2) := by decide +kernel
theorem d_jdk_42_103_3 : decode jdk_42_method_103_code 3 = .ok (.aload_n 1, 1) := by decide +kernel
theorem d_jdk_42_103_4 : decode jdk_42_method_103_code 4 = .ok (.invokevirtual 505, 3) := by decide +kernel
theorem d_jdk_42_103_7 : decode jdk_42_method_103_code 7 = .ok (.iconst 1, 1) := by decide +kernel
theorem d_jdk_42_103_8 : decode jdk_42_method_103_code 8 = .ok (.if_icmp .ne 21, 3) := by decide +kernel
theorem d_jdk_42_103_11 : decode jdk_42_method_103_code 11 = .ok (.ldc_w 761, 3) := by decide +kernel
theorem d_jdk_42_103_14 : decode jdk_42_method_103_code 14 = .ok (.aload_n 1, 1) := by decide +kernel
theorem d_jdk_42_103_15 : decode jdk_42_method_103_code 15 = .ok (.iconst 0, 1) := by decide +kernel
theorem d_jdk_42_103_16 : decode jdk_42_method_103_code 16 = .ok (.invokevirtual 656, 3) := by decide +kernel
theorem pd_13 : parseMethodDescriptor "(I)C" = some ⟨[.int], some .char⟩ := by decide +kernel
theorem d_jdk_42_103_19 : decode jdk_42_method_103_code 19 = .ok (.dup, 1) := by decide +kernel
theorem d_jdk_42_103_20 : decode jdk_42_method_103_code 20 = .ok (.istore 4, 2) := by decide +kernel
theorem d_jdk_42_103_22 : decode jdk_42_method_103_code 22 = .ok (.invokevirtual 763, 3) := by decide +kernel
theorem pd_14 : parseMethodDescriptor "(I)I" = some ⟨[.int], some .int⟩ := by decide +kernel
theorem d_jdk_42_103_25 : decode jdk_42_method_103_code 25 = .ok (.iconst (-1), 1) := by decide +kernel
theorem d_jdk_42_103_26 : decode jdk_42_method_103_code 26 = .ok (.if_icmp .eq 69, 3) := by decide +kernel
theorem d_jdk_42_103_95 : decode jdk_42_method_103_code 95 = .ok (.iload 4, 2) := by decide +kernel
theorem d_jdk_42_103_97 : decode jdk_42_method_103_code 97 = .ok (.ldc_w 766, 3) := by decide +kernel
theorem d_jdk_42_103_100 : decode jdk_42_method_103_code 100 = .ok (.if_icmp .lt 11, 3) := by decide +kernel
theorem d_jdk_42_103_111 : decode jdk_42_method_103_code 111 = .ok (.aload_n 0, 1) := by decide +kernel
theorem d_jdk_42_103_112 : decode jdk_42_method_103_code 112 = .ok (.iload 4, 2) := by decide +kernel
theorem d_jdk_42_103_114 : decode jdk_42_method_103_code 114 = .ok (.iload_n 2, 1) := by decide +kernel
theorem d_jdk_42_103_115 : decode jdk_42_method_103_code 115 = .ok (.iload_n 3, 1) := by decide +kernel
theorem d_jdk_42_103_116 : decode jdk_42_method_103_code 116 = .ok (.invokevirtual 768, 3) := by decide +kernel
theorem pd_15 : parseMethodDescriptor "(CIZ)[Ljava/lang/String;" = some ⟨[.char, .int, .boolean], some (.array (.object "java/lang/String"))⟩ := by decide +kernel
theorem d_jdk_42_103_119 : decode jdk_42_method_103_code 119 = .ok (.areturn, 1) := by decide +kernel
set_option maxRecDepth 65536 in
set_option maxHeartbeats 40000000 in
theorem rm_split3 (l : Launch) {Z : State} {a0 : Array Value} (hD : Wd Z a0) (a : Addr) (b : Addr) (t : Addr) (k : ClassId) (tb : Addr) (kb : ClassId) {h0 : Heap} (O0 : Ext Z.heap h0) (E_a : Exa Z h0 a "java/lang/String") (F_coder_a : Fld Z h0 a "java/lang/String" "coder" "B" (.int 0)) (F_value_a : Fld Z h0 a "java/lang/String" "value" "[B" (.ref t)) (V_t : Arv Z h0 t k .byte (1 : Int32) [(.int 97)] (.int 0)) (E_b : Exa Z h0 b "java/lang/String") (F_coder_b : Fld Z h0 b "java/lang/String" "coder" "B" (.int 0)) (F_value_b : Fld Z h0 b "java/lang/String" "value" "[B" (.ref tb)) (V_tb : Arv Z h0 tb kb .byte (1 : Int32) [(.int 47)] (.int 0)) :
    ConH l Z EL (⟨"java/lang/String", "split", "(Ljava/lang/String;IZ)[Ljava/lang/String;"⟩ : MethodName) jdk_42_method_103_code 6 (some (.array (.object "java/lang/String"))) [] ({ frames := 5, cells := 4, slots := 56, locals := 72 } : Room) #[(.ref a), (.ref b), (.int (-1)), (.int 0)] h0 [] (Q_split3 Z a b t k tb kb h0) := by
  refine ConH.walk (plainFor_of_name pn_0) ?_
  intro p e s vm0 k0 m below meth c T0 X0 hS0 hk0 hx hZ hby hml hown hnm hret hlk e0 A0 hss
  obtain ⟨hw, ⟨cz, S_CS, hcz⟩, ⟨sf, S_SF, hsf⟩, ⟨xde, xkde, S_DE, V_DE⟩⟩ := id hD
  have N0 := Fr.nil Z.heap.size
  have K0 : Keep h0 h0 [] := Keep.refl _ _
  have hEL : EW Z a0 EL := el_of hw
  have hsa : ∀ a ∈ Bundle.stringAtoms, a.before a0 Z = true := fun d hd => hw d (words_sa d hd)
  refine OEndsH.cast (ef_split3 m a b) ?_
  refine OEndsH.st (S' := T0.setTop (mkF m 4 #[vr a, vr b, vi (-1), vi 0, vi 0, .unset] [(.ref b)])) (fun _ k => ?_) ?_
  · refine XS.iconst X0.here hx rfl (hb hby d_jdk_42_103_0) ?_
    refine XS.istore X0.here hx rfl (hb hby d_jdk_42_103_1) rfl (l' := #[vr a, vr b, vi (-1), vi 0, vi 0, .unset]) rfl ?_
    refine XS.aloadN X0.here hx rfl (hb hby d_jdk_42_103_3) rfl rfl ?_
    exact k
  obtain ⟨_, T1, h1, L1, X1, e1, hQ1, st1⟩ := virtC X0 hx hZ (y := (⟨"java/lang/String", "length", "()I"⟩ : MethodName)) (z := (⟨"java/lang/String", "length", "()I"⟩ : MethodName)) hown (wq hw 110 rfl) (wq hw 111 rfl) (nf_sel (args := #[]) (mvT hZ (wq hw 103 rfl)) rfl) (wq hw 113 rfl) (wq hw 112 rfl) (by decide) (kc := 0) (ks := 0) (Con.sb (W := 0) (rm_strLen l hD b tb kb (1 : Int32) [(.int 47)] O0 E_b F_coder_b F_value_b V_tb) hZ (wq hw 114 rfl) (wq hw 56 rfl) (by decide) (by decide)) e0 E_b (g := (mkF m 4 #[vr a, vr b, vi (-1), vi 0, vi 0, .unset] [(.ref b)])) rfl (by rw [hml]; rfl) (argsL := []) (rest := []) (lenOf pd_12 rfl) rfl (by show 2 * 0 + _ ≤ _; exact Nat.le_of_eq rfl) (hb hby d_jdk_42_103_4) (by decide) (by decide)
  obtain ⟨rfl, Nq1, Hq1⟩ := hQ1
  refine OEndsH.st st1 ?_
  replace N0 := Fr.app N0 Nq1
  replace e1 := e1.trans Hq1
  refine OEndsH.st (S' := T1.setTop (mkF m 11 #[vr a, vr b, vi (-1), vi 0, vi 0, .unset] [])) (fun _ k => ?_) ?_
  · refine XS.iconst X1.here hx rfl (hb hby d_jdk_42_103_7) ?_
    refine XS.icmpNo X1.here hx rfl (hb hby d_jdk_42_103_8) rfl (teq (by decide)).2 ?_
    exact k
  obtain ⟨b2, T2, h2, k12, t2, kb2, X2, e2, E2, hS2, hk2, hZ2, hown2, Es2, Fc2, Fv2, V2, -, -, Aq2, -, nes2, st2⟩ := ldcWCH X1 hx hZ hown (wq hw 120 rfl) hsa e1 hS0 hk0 hEL (List.mem_of_getElem? (i := 6) rfl) A0.1 (vs := [(.int 46), (.int 36), (.int 124), (.int 40), (.int 41), (.int 91), (.int 123), (.int 94), (.int 63), (.int 42), (.int 43), (.int 92)]) (z := (12 : Int32)) ⟨by decide, by decide⟩ (by decide) rfl (g := (mkF m 11 #[vr a, vr b, vi (-1), vi 0, vi 0, .unset] [])) rfl (hb hby d_jdk_42_103_11) (n := 48) (by decide) (by decide) (by decide) (by decide)
  replace hZ2 : Z.Warmed39 T2.vm := hZ2
  replace hown2 : T2.vm.findClass "java/lang/String" = some m.cls := hown2
  replace A0 : CHr Z EL s.vm s.heap T2.vm h2 := A0.trans Aq2
  refine OEndsH.st st2 ?_
  replace E_a := E_a.ext E2
  replace F_coder_a := F_coder_a.ext E2
  replace F_value_a := F_value_a.ext E2
  replace V_t := V_t.ext E2
  replace E_b := E_b.ext E2
  replace F_coder_b := F_coder_b.ext E2
  replace F_value_b := F_value_b.ext E2
  replace V_tb := V_tb.ext E2
  replace O0 : Ext Z.heap h2 := ext_trans O0 E2
  replace K0 : Keep h0 h2 [] := K0.ext E2
  refine OEndsH.st (S' := T2.setTop (mkF m 16 #[vr a, vr b, vi (-1), vi 0, vi 0, .unset] [(.int 0), (.ref b), (.ref b2)])) (fun _ k => ?_) ?_
  · refine XS.aloadN X2.here hx rfl (hb hby d_jdk_42_103_14) rfl rfl ?_
    refine XS.iconst X2.here hx rfl (hb hby d_jdk_42_103_15) ?_
    exact k
  obtain ⟨_, T3, h3, L3, X3, e3, hQ3, st3⟩ := virtC X2 hx hZ2 (y := (⟨"java/lang/String", "charAt", "(I)C"⟩ : MethodName)) (z := (⟨"java/lang/String", "charAt", "(I)C"⟩ : MethodName)) hown2 (wq hw 121 rfl) (wq hw 122 rfl) (nf_sel (args := #[]) (mvT hZ2 (wq hw 103 rfl)) rfl) (wq hw 124 rfl) (wq hw 123 rfl) (by decide) (kc := 0) (ks := 0) (Con.sb (W := 1) (rm_chAt l hD b tb kb O0 E_b F_coder_b F_value_b V_tb) hZ2 (wq hw 125 rfl) (wq hw 56 rfl) (by decide) (by decide)) e2 E_b (g := (mkF m 16 #[vr a, vr b, vi (-1), vi 0, vi 0, .unset] [(.int 0), (.ref b), (.ref b2)])) rfl (by rw [hml]; rfl) (argsL := [(.int 0)]) (rest := [(.ref b2)]) (lenOf pd_13 rfl) rfl (by show 2 * 0 + _ ≤ _; exact Nat.le_of_eq rfl) (hb hby d_jdk_42_103_16) (by decide) (by decide)
  obtain ⟨rfl, Nq3, Hq3⟩ := hQ3
  refine OEndsH.st st3 ?_
  replace N0 := Fr.app N0 Nq3
  replace e3 := e3.trans Hq3
  refine OEndsH.st (S' := T3.setTop (mkF m 22 #[vr a, vr b, vi (-1), vi 0, vi 47, .unset] [(.int 47), (.ref b2)])) (fun _ k => ?_) ?_
  · refine XS.dup X3.here hx rfl (hb hby d_jdk_42_103_19) rfl rfl ?_
    refine XS.istore X3.here hx rfl (hb hby d_jdk_42_103_20) rfl (l' := #[vr a, vr b, vi (-1), vi 0, vi 47, .unset]) rfl ?_
    exact k
  obtain ⟨_, T4, h4, L4, X4, e4, hQ4, st4⟩ := virtC X3 hx hZ2 (y := (⟨"java/lang/String", "indexOf", "(I)I"⟩ : MethodName)) (z := (⟨"java/lang/String", "indexOf", "(I)I"⟩ : MethodName)) hown2 (wq hw 143 rfl) (wq hw 144 rfl) (nf_sel (args := #[]) (mvT hZ2 (wq hw 103 rfl)) rfl) (wq hw 146 rfl) (wq hw 145 rfl) (by decide) (kc := 0) (ks := 0) (Con.sb (W := 0) (rm_io1M l hD b2 t2 kb2 O0 Es2 Fc2 Fv2 V2) hZ2 (wq hw 147 rfl) (wq hw 56 rfl) (by decide) (by decide)) e3 Es2 (g := (mkF m 22 #[vr a, vr b, vi (-1), vi 0, vi 47, .unset] [(.int 47), (.ref b2)])) rfl (by rw [hml]; rfl) (argsL := [(.int 47)]) (rest := []) (lenOf pd_14 rfl) rfl (by show 2 * 0 + _ ≤ _; exact Nat.le_of_eq rfl) (hb hby d_jdk_42_103_22) (by decide) (by decide)
  obtain ⟨rfl, Nq4, Hq4⟩ := hQ4
  refine OEndsH.st st4 ?_
  replace N0 := Fr.app N0 Nq4
  replace e4 := e4.trans Hq4
  refine OEndsH.st (S' := T4.setTop (mkF m 116 #[vr a, vr b, vi (-1), vi 0, vi 47, .unset] [(.int 0), (.int (-1)), (.int 47), (.ref a)])) (fun _ k => ?_) ?_
  · refine XS.iconst X4.here hx rfl (hb hby d_jdk_42_103_25) ?_
    refine XS.icmpYes X4.here hx rfl (pc0 := 26) (pc' := 95) rfl (hb hby d_jdk_42_103_26) rfl (teq (by decide)).1 (by decide) (by decide) ?_
    refine XS.iload X4.here hx rfl (hb hby d_jdk_42_103_95) rfl ?_
    refine X4.ldcwInt hx hown2 (mvT hZ2 (wq hw 169 rfl)) (g := (mkF m 97 #[vr a, vr b, vi (-1), vi 0, vi 47, .unset] [(.int 47)])) rfl (hb hby d_jdk_42_103_97) _ ?_
    show Steps p.tables e below (T4.setTop (mkF m 100 #[vr a, vr b, vi (-1), vi 0, vi 47, .unset] [(.int 55296), (.int 47)])) _
    refine XS.icmpYes X4.here hx rfl (pc0 := 100) (pc' := 111) rfl (hb hby d_jdk_42_103_100) rfl (tlt (by decide)).1 (by decide) (by decide) ?_
    refine XS.aloadN X4.here hx rfl (hb hby d_jdk_42_103_111) rfl rfl ?_
    refine XS.iload X4.here hx rfl (hb hby d_jdk_42_103_112) rfl ?_
    refine XS.iloadN X4.here hx rfl (hb hby d_jdk_42_103_114) rfl ?_
    show Steps p.tables e below (T4.setTop (mkF m 115 #[vr a, vr b, vi (-1), vi 0, vi 47, .unset] [(.int (-1)), (.int 47), (.ref a)])) _
    refine XS.iloadN X4.here hx rfl (hb hby d_jdk_42_103_115) rfl ?_
    exact k
  obtain ⟨_, T5, h5, L5, X5, e5, hQ5, st5⟩ := privC X4 hx hZ2 (y := (⟨"java/lang/String", "split", "(CIZ)[Ljava/lang/String;"⟩ : MethodName)) hown2 (wq hw 170 rfl) (wq hw 171 rfl) (wq hw 173 rfl) (wq hw 172 rfl) (wq hw 174 rfl) (by decide) (kc := 2) (ks := 4) (Con.sb (W := 0) (rm_splitC l hD a t k O0 E_a F_coder_a F_value_a V_t) hZ2 (wq hw 174 rfl) (wq hw 56 rfl) (by decide) (by decide)) e4 E_a (g := (mkF m 116 #[vr a, vr b, vi (-1), vi 0, vi 47, .unset] [(.int 0), (.int (-1)), (.int 47), (.ref a)])) rfl (by rw [hml]; rfl) (argsL := [(.int 47), (.int (-1)), (.int 0)]) (rest := []) (lenOf pd_15 rfl) rfl (by show 2 * 0 + _ ≤ _; exact Nat.le_of_eq rfl) (hb hby d_jdk_42_103_116) (by decide) (by decide)
  obtain ⟨r5, kr5, rfl, Nq5, Kq5, V5⟩ := hQ5
  refine OEndsH.st st5 ?_
  replace N0 := Fr.app N0 Nq5
  replace E_a := E_a.keep Kq5
  replace F_coder_a := F_coder_a.keep Kq5 nin0
  replace F_value_a := F_value_a.keep Kq5 nin0
  replace V_t := V_t.keep Kq5 nin0
  replace E_b := E_b.keep Kq5
  replace F_coder_b := F_coder_b.keep Kq5 nin0
  replace F_value_b := F_value_b.keep Kq5 nin0
  replace V_tb := V_tb.keep Kq5 nin0
  replace Es2 := Es2.keep Kq5
  replace Fc2 := Fc2.keep Kq5 nin0
  replace Fv2 := Fv2.keep Kq5 nin0
  replace V2 := V2.keep Kq5 nin0
  have A' : CHr Z EL s.vm s.heap T2.vm h5 := A0.trans (CHr.keep Kq5 sf0 A0.1)
  replace A0 := A'
  replace hk2 := Nat.le_trans hk2 Kq5.1
  replace O0 : Ext Z.heap h5 := ext_keep O0 Kq5 all0
  replace K0 : Keep h0 h5 [] := K0.trans Kq5 all0
  exact OEndsH.ret X5 hx hZ2 hEL e5 hS2 hk2 A0 hret hlk rfl (Or.inr (Or.inr (Or.inr (Or.inr ⟨rfl, rfl, rfl⟩)))) (hb hby d_jdk_42_103_119) (by decide) (by decide) ⟨r5, kr5, rfl, N0, K0, V5⟩
-- java/lang/String.split:(Ljava/lang/String;I)[Ljava/lang/String;
def Q_split2 (Z : State) (a : Addr) (b : Addr) (t : Addr) (k : ClassId) (tb : Addr) (kb : ClassId) (h0 : Heap) (v : Option Value) (h : Heap) (L : List Loc) : Prop := ∃ (r : Addr) (kr : ClassId), v = some (.ref r) ∧ Fr Z.heap.size L ∧ Keep h0 h [] ∧ Arv Z h r kr (.object "java/lang/String") (1 : Int32) [.ref a] .null
theorem ef_split2 (m : MethodId) (a : Addr) (b : Addr) : entryFrame m #[(.ref a), (.ref b), (.int (-1))] 3 = mkF m 0 #[vr a, vr b, vi (-1)] [] := by first | (simp [entryFrame, mkF, argsToLocals, Value.category, vi, vj, vr]; done) | rfl
theorem d_jdk_42_101_0 : decode jdk_42_method_101_code 0 = .ok (.aload_n 0, 1) := by decide +kernel
theorem d_jdk_42_101_1 : decode jdk_42_method_101_code 1 = .ok (.aload_n 1, 1) := by decide +kernel
theorem d_jdk_42_101_2 : decode jdk_42_method_101_code 2 = .ok (.iload_n 2, 1) := by decide +kernel
theorem d_jdk_42_101_3 : decode jdk_42_method_101_code 3 = .ok (.iconst 0, 1) := by decide +kernel
theorem d_jdk_42_101_4 : decode jdk_42_method_101_code 4 = .ok (.invokevirtual 757, 3) := by decide +kernel
theorem pd_16 : parseMethodDescriptor "(Ljava/lang/String;IZ)[Ljava/lang/String;" = some ⟨[(.object "java/lang/String"), .int, .boolean], some (.array (.object "java/lang/String"))⟩ := by decide +kernel
theorem d_jdk_42_101_7 : decode jdk_42_method_101_code 7 = .ok (.areturn, 1) := by decide +kernel
set_option maxRecDepth 65536 in
set_option maxHeartbeats 40000000 in
theorem rm_split2 (l : Launch) {Z : State} {a0 : Array Value} (hD : Wd Z a0) (a : Addr) (b : Addr) (t : Addr) (k : ClassId) (tb : Addr) (kb : ClassId) {h0 : Heap} (O0 : Ext Z.heap h0) (E_a : Exa Z h0 a "java/lang/String") (F_coder_a : Fld Z h0 a "java/lang/String" "coder" "B" (.int 0)) (F_value_a : Fld Z h0 a "java/lang/String" "value" "[B" (.ref t)) (V_t : Arv Z h0 t k .byte (1 : Int32) [(.int 97)] (.int 0)) (E_b : Exa Z h0 b "java/lang/String") (F_coder_b : Fld Z h0 b "java/lang/String" "coder" "B" (.int 0)) (F_value_b : Fld Z h0 b "java/lang/String" "value" "[B" (.ref tb)) (V_tb : Arv Z h0 tb kb .byte (1 : Int32) [(.int 47)] (.int 0)) :
    ConH l Z EL (⟨"java/lang/String", "split", "(Ljava/lang/String;I)[Ljava/lang/String;"⟩ : MethodName) jdk_42_method_101_code 3 (some (.array (.object "java/lang/String"))) [] ({ frames := 6, cells := 4, slots := 56, locals := 89 } : Room) #[(.ref a), (.ref b), (.int (-1))] h0 [] (Q_split2 Z a b t k tb kb h0) := by
  refine ConH.walk (plainFor_of_name pn_0) ?_
  intro p e s vm0 k0 m below meth c T0 X0 hS0 hk0 hx hZ hby hml hown hnm hret hlk e0 A0 hss
  obtain ⟨hw, ⟨cz, S_CS, hcz⟩, ⟨sf, S_SF, hsf⟩, ⟨xde, xkde, S_DE, V_DE⟩⟩ := id hD
  have N0 := Fr.nil Z.heap.size
  have K0 : Keep h0 h0 [] := Keep.refl _ _
  have hEL : EW Z a0 EL := el_of hw
  have hsa : ∀ a ∈ Bundle.stringAtoms, a.before a0 Z = true := fun d hd => hw d (words_sa d hd)
  refine OEndsH.cast (ef_split2 m a b) ?_
  refine OEndsH.st (S' := T0.setTop (mkF m 4 #[vr a, vr b, vi (-1)] [(.int 0), (.int (-1)), (.ref b), (.ref a)])) (fun _ k => ?_) ?_
  · refine XS.aloadN X0.here hx rfl (hb hby d_jdk_42_101_0) rfl rfl ?_
    refine XS.aloadN X0.here hx rfl (hb hby d_jdk_42_101_1) rfl rfl ?_
    refine XS.iloadN X0.here hx rfl (hb hby d_jdk_42_101_2) rfl ?_
    refine XS.iconst X0.here hx rfl (hb hby d_jdk_42_101_3) ?_
    exact k
  obtain ⟨_, T1, h1, L1, vm1, k11, X1, e1, hQ1, hS1, hk1, hZ1, hown1, Aq1, st1⟩ := privH X0 hx hZ (y := (⟨"java/lang/String", "split", "(Ljava/lang/String;IZ)[Ljava/lang/String;"⟩ : MethodName)) hown (wq hw 105 rfl) (wq hw 106 rfl) (wq hw 108 rfl) (wq hw 107 rfl) (wq hw 109 rfl) (by decide) (kc := 4) (ks := 56) (ConH.sb (W := 0) (rm_split3 l hD a b t k tb kb O0 E_a F_coder_a F_value_a V_t E_b F_coder_b F_value_b V_tb) hZ (wq hw 109 rfl) (wq hw 56 rfl) (by decide) (by decide) hEL A0.1 all0) e0 hS0 hk0 E_a (g := (mkF m 4 #[vr a, vr b, vi (-1)] [(.int 0), (.int (-1)), (.ref b), (.ref a)])) rfl (by rw [hml]; rfl) (argsL := [(.ref b), (.int (-1)), (.int 0)]) (rest := []) (lenOf pd_16 rfl) rfl (by show 2 * 0 + _ ≤ _; exact Nat.le_of_eq rfl) (hb hby d_jdk_42_101_4) (by decide) (by decide)
  obtain ⟨r1, kr1, rfl, Nq1, Kq1, V1⟩ := hQ1
  replace A0 : CHr Z EL s.vm s.heap vm1 h1 := A0.trans Aq1
  refine OEndsH.st st1 ?_
  replace N0 := Fr.app N0 Nq1
  replace E_a := E_a.keep Kq1
  replace F_coder_a := F_coder_a.keep Kq1 nin0
  replace F_value_a := F_value_a.keep Kq1 nin0
  replace V_t := V_t.keep Kq1 nin0
  replace E_b := E_b.keep Kq1
  replace F_coder_b := F_coder_b.keep Kq1 nin0
  replace F_value_b := F_value_b.keep Kq1 nin0
  replace V_tb := V_tb.keep Kq1 nin0
  replace O0 : Ext Z.heap h1 := ext_keep O0 Kq1 all0
  replace K0 : Keep h0 h1 [] := K0.trans Kq1 all0
  exact OEndsH.ret X1 hx hZ1 hEL e1 hS1 hk1 A0 hret hlk rfl (Or.inr (Or.inr (Or.inr (Or.inr ⟨rfl, rfl, rfl⟩)))) (hb hby d_jdk_42_101_7) (by decide) (by decide) ⟨r1, kr1, rfl, N0, K0, V1⟩
-- java/util/Objects.requireNonNull:(Ljava/lang/Object;Ljava/lang/String;)Ljava/lang/Object;
def Q_reqNN (Z : State) (a : Addr) (b : Addr) (h0 : Heap) (v : Option Value) (h : Heap) (L : List Loc) : Prop := v = some (.ref a) ∧ Fr Z.heap.size L ∧ h = h0
theorem ef_reqNN (m : MethodId) (a : Addr) (b : Addr) : entryFrame m #[(.ref a), (.ref b)] 2 = mkF m 0 #[vr a, vr b] [] := by first | (simp [entryFrame, mkF, argsToLocals, Value.category, vi, vj, vr]; done) | rfl
theorem pn_7 : plainName "java/util/Objects" = true := by first | (simp [plainName, overriddenIn]; done) | decide +kernel
theorem d_jdk_31_11_0 : decode jdk_31_method_11_code 0 = .ok (.aload_n 0, 1) := by decide +kernel
theorem d_jdk_31_11_1 : decode jdk_31_method_11_code 1 = .ok (.ifnonnull 12, 3) := by decide +kernel
theorem d_jdk_31_11_13 : decode jdk_31_method_11_code 13 = .ok (.aload_n 0, 1) := by decide +kernel
theorem d_jdk_31_11_14 : decode jdk_31_method_11_code 14 = .ok (.areturn, 1) := by decide +kernel
set_option maxRecDepth 65536 in
set_option maxHeartbeats 40000000 in
theorem rm_reqNN (l : Launch) {Z : State} {a0 : Array Value} (hD : Wd Z a0) (a : Addr) (b : Addr) {h0 : Heap} (O0 : Ext Z.heap h0) :
    Con l Z (⟨"java/util/Objects", "requireNonNull", "(Ljava/lang/Object;Ljava/lang/String;)Ljava/lang/Object;"⟩ : MethodName) jdk_31_method_11_code 2 (some (.object "java/lang/Object")) [] ({ frames := 0, cells := 0, slots := 0, locals := 0 } : Room) #[(.ref a), (.ref b)] h0 (Q_reqNN Z a b h0) := by
  refine Con.walk (plainFor_of_name pn_7) ?_
  intro p e s m below meth c T0 X0 hx hZ hby hml hown hnm hret hlk e0
  obtain ⟨hw, ⟨cz, S_CS, hcz⟩, ⟨sf, S_SF, hsf⟩, ⟨xde, xkde, S_DE, V_DE⟩⟩ := id hD
  have N0 := Fr.nil Z.heap.size
  refine OEnds.cast (ef_reqNN m a b) ?_
  refine OEnds.st (S' := T0.setTop (mkF m 14 #[vr a, vr b] [(.ref a)])) (fun _ k => ?_) ?_
  · refine XS.aloadN X0.here hx rfl (hb hby d_jdk_31_11_0) rfl rfl ?_
    refine XS.ifnonnullYes X0.here hx rfl (pc0 := 1) (pc' := 13) rfl (hb hby d_jdk_31_11_1) rfl (by decide) (by decide) ?_
    refine XS.aloadN X0.here hx rfl (hb hby d_jdk_31_11_13) rfl rfl ?_
    exact k
  exact OEnds.ret X0 hx hret hlk rfl (Or.inr (Or.inr (Or.inr (Or.inr ⟨rfl, rfl, rfl⟩)))) (hb hby d_jdk_31_11_14) (by decide) (by decide) (by rw [e0]; exact ⟨rfl, N0, rfl⟩)
-- java/lang/String.isEmpty:()Z
def Q_strEmp (Z : State) (a : Addr) (t : Addr) (k : ClassId) (h0 : Heap) (v : Option Value) (h : Heap) (L : List Loc) : Prop := v = some (.int 0) ∧ Fr Z.heap.size L ∧ h = h0
theorem ef_strEmp (m : MethodId) (a : Addr) : entryFrame m #[(.ref a)] 1 = mkF m 0 #[vr a] [] := by first | (simp [entryFrame, mkF, argsToLocals, Value.category, vi, vj, vr]; done) | rfl
theorem d_jdk_42_55_0 : decode jdk_42_method_55_code 0 = .ok (.aload_n 0, 1) := by decide +kernel
theorem d_jdk_42_55_1 : decode jdk_42_method_55_code 1 = .ok (.getfield 9, 3) := by decide +kernel
theorem d_jdk_42_55_4 : decode jdk_42_method_55_code 4 = .ok (.arraylength, 1) := by decide +kernel
theorem d_jdk_42_55_5 : decode jdk_42_method_55_code 5 = .ok (.ifCond .ne 7, 3) := by decide +kernel
theorem d_jdk_42_55_12 : decode jdk_42_method_55_code 12 = .ok (.iconst 0, 1) := by decide +kernel
theorem d_jdk_42_55_13 : decode jdk_42_method_55_code 13 = .ok (.ireturn, 1) := by decide +kernel
set_option maxRecDepth 65536 in
set_option maxHeartbeats 40000000 in
theorem rm_strEmp (l : Launch) {Z : State} {a0 : Array Value} (hD : Wd Z a0) (a : Addr) (t : Addr) (k : ClassId) {h0 : Heap} (O0 : Ext Z.heap h0) (E_a : Exa Z h0 a "java/lang/String") (F_coder_a : Fld Z h0 a "java/lang/String" "coder" "B" (.int 0)) (F_value_a : Fld Z h0 a "java/lang/String" "value" "[B" (.ref t)) (V_t : Arv Z h0 t k .byte (1 : Int32) [(.int 97)] (.int 0)) :
    Con l Z (⟨"java/lang/String", "isEmpty", "()Z"⟩ : MethodName) jdk_42_method_55_code 1 (some .boolean) [] ({ frames := 0, cells := 0, slots := 0, locals := 0 } : Room) #[(.ref a)] h0 (Q_strEmp Z a t k h0) := by
  refine Con.walk (plainFor_of_name pn_0) ?_
  intro p e s m below meth c T0 X0 hx hZ hby hml hown hnm hret hlk e0
  obtain ⟨hw, ⟨cz, S_CS, hcz⟩, ⟨sf, S_SF, hsf⟩, ⟨xde, xkde, S_DE, V_DE⟩⟩ := id hD
  have N0 := Fr.nil Z.heap.size
  refine OEnds.cast (ef_strEmp m a) ?_
  refine OEnds.st (S' := T0.setTop (mkF m 1 #[vr a] [(.ref a)])) (fun _ k => ?_) ?_
  · refine XS.aloadN X0.here hx rfl (hb hby d_jdk_42_55_0) rfl rfl ?_
    exact k
  obtain ⟨T1, X1, e1, st1⟩ := getF X0 hx hZ hown (host := "") (Or.inl (wq hw 79 rfl)) Via.refl e0 F_value_a (g := (mkF m 1 #[vr a] [(.ref a)])) rfl rfl (hb hby d_jdk_42_55_1)
  refine OEnds.st st1 ?_
  obtain ⟨cl_t_2, Ar_t_2, q_t_2, S_t_2, N_t_2, H_t_2, G_t_2⟩ := id V_t
  refine OEnds.st (S' := T1.setTop (mkF m 5 #[vr a] [(.int 1)])) (fun tg kq9 => X1.arraylength hx (by rw [e1]; exact Ar_t_2.1) (State.isArrayOf_alike hZ.alike Ar_t_2.2.1) (g := (mkF m 4 #[vr a] [(.ref t)])) rfl rfl (hb hby d_jdk_42_55_4) tg (by rw [len_of S_t_2 N_t_2]; exact kq9)) ?_
  refine OEnds.st (S' := T1.setTop (mkF m 13 #[vr a] [(.int 0)])) (fun _ k => ?_) ?_
  · refine XS.ifYes X1.here hx rfl (pc0 := 5) (pc' := 12) rfl (hb hby d_jdk_42_55_5) rfl ((if0 _ _).trans (feq (by decide)).2) (by decide) (by decide) ?_
    refine XS.iconst X1.here hx rfl (hb hby d_jdk_42_55_12) ?_
    exact k
  exact OEnds.ret X1 hx hret hlk (by decide) (Or.inl ⟨rfl, by simp, _, rfl⟩) (hb hby d_jdk_42_55_13) (by decide) (by decide) (by rw [e1]; exact ⟨rfl, N0, rfl⟩)
theorem ne_p : ¬ ([97] : List Int32) = ([46] : List Int32) := by decide
theorem ne_pp : ¬ ([97] : List Int32) = ([46, 46] : List Int32) := by decide
theorem cod_a : StrChars.Road.CodA ([97] : List Int32) 0 (1 : Int32) [(.int 97)] := Or.inl ⟨rfl, rfl, rfl, by decide⟩
theorem bnd_a : ∀ c ∈ ([97] : List Int32), ¬ c < 0 ∧ ¬ (65535 : Int32) < c := by decide
theorem len_a : ([97] : List Int32).length ≤ 4000 := by decide
theorem cod_p : StrChars.Road.CodA ([46] : List Int32) 0 (1 : Int32) [(.int 46)] := Or.inl ⟨rfl, rfl, rfl, by decide⟩
theorem bnd_p : ∀ c ∈ ([46] : List Int32), ¬ c < 0 ∧ ¬ (65535 : Int32) < c := by decide
theorem len_p : ([46] : List Int32).length ≤ 4000 := by decide
theorem cod_pp : StrChars.Road.CodA ([46, 46] : List Int32) 0 (2 : Int32) [(.int 46), (.int 46)] := Or.inl ⟨rfl, rfl, rfl, by decide⟩
theorem bnd_pp : ∀ c ∈ ([46, 46] : List Int32), ¬ c < 0 ∧ ¬ (65535 : Int32) < c := by decide
theorem len_pp : ([46, 46] : List Int32).length ≤ 4000 := by decide
-- com/example/anteroom/anteroom/store/LogicalPath.isValid:(Ljava/lang/String;)Z
def Q_isValid (Z : State) (a : Addr) (t : Addr) (k : ClassId) (h0 : Heap) (v : Option Value) (h : Heap) (L : List Loc) : Prop := v = some (.int 1) ∧ Fr Z.heap.size L ∧ Keep h0 h []
theorem ef_isValid (m : MethodId) (a : Addr) : entryFrame m #[(.ref a)] 5 = mkF m 0 #[vr a, .unset, .unset, .unset, .unset] [] := by first | (simp [entryFrame, mkF, argsToLocals, Value.category, vi, vj, vr]; done) | rfl
theorem pn_8 : plainName "com/example/anteroom/anteroom/store/LogicalPath" = true := by first | (simp [plainName, overriddenIn]; done) | decide +kernel
theorem d_prog_35_2_0 : decode prog_35_method_2_code 0 = .ok (.aload_n 0, 1) := by decide +kernel
theorem d_prog_35_2_1 : decode prog_35_method_2_code 1 = .ok (.ldc 26, 2) := by decide +kernel
theorem d_prog_35_2_3 : decode prog_35_method_2_code 3 = .ok (.invokestatic 27, 3) := by decide +kernel
theorem pd_17 : parseMethodDescriptor "(Ljava/lang/Object;Ljava/lang/String;)Ljava/lang/Object;" = some ⟨[(.object "java/lang/Object"), (.object "java/lang/String")], some (.object "java/lang/Object")⟩ := by decide +kernel
theorem d_prog_35_2_6 : decode prog_35_method_2_code 6 = .ok (.pop, 1) := by decide +kernel
theorem d_prog_35_2_7 : decode prog_35_method_2_code 7 = .ok (.aload_n 0, 1) := by decide +kernel
theorem d_prog_35_2_8 : decode prog_35_method_2_code 8 = .ok (.ldc 33, 2) := by decide +kernel
theorem d_prog_35_2_10 : decode prog_35_method_2_code 10 = .ok (.iconst (-1), 1) := by decide +kernel
theorem d_prog_35_2_11 : decode prog_35_method_2_code 11 = .ok (.invokevirtual 35, 3) := by decide +kernel
theorem pd_18 : parseMethodDescriptor "(Ljava/lang/String;I)[Ljava/lang/String;" = some ⟨[(.object "java/lang/String"), .int], some (.array (.object "java/lang/String"))⟩ := by decide +kernel
theorem d_prog_35_2_14 : decode prog_35_method_2_code 14 = .ok (.astore_n 1, 1) := by decide +kernel
theorem d_prog_35_2_15 : decode prog_35_method_2_code 15 = .ok (.aload_n 1, 1) := by decide +kernel
theorem d_prog_35_2_16 : decode prog_35_method_2_code 16 = .ok (.arraylength, 1) := by decide +kernel
theorem d_prog_35_2_17 : decode prog_35_method_2_code 17 = .ok (.istore_n 2, 1) := by decide +kernel
theorem d_prog_35_2_18 : decode prog_35_method_2_code 18 = .ok (.iconst 0, 1) := by decide +kernel
theorem d_prog_35_2_19 : decode prog_35_method_2_code 19 = .ok (.istore_n 3, 1) := by decide +kernel
theorem d_prog_35_2_20 : decode prog_35_method_2_code 20 = .ok (.iload_n 3, 1) := by decide +kernel
theorem d_prog_35_2_21 : decode prog_35_method_2_code 21 = .ok (.iload_n 2, 1) := by decide +kernel
theorem d_prog_35_2_22 : decode prog_35_method_2_code 22 = .ok (.if_icmp .ge 44, 3) := by decide +kernel
theorem d_prog_35_2_25 : decode prog_35_method_2_code 25 = .ok (.aload_n 1, 1) := by decide +kernel
theorem d_prog_35_2_26 : decode prog_35_method_2_code 26 = .ok (.iload_n 3, 1) := by decide +kernel
theorem d_prog_35_2_27 : decode prog_35_method_2_code 27 = .ok (.aaload, 1) := by decide +kernel
theorem d_prog_35_2_28 : decode prog_35_method_2_code 28 = .ok (.astore 4, 2) := by decide +kernel
theorem d_prog_35_2_30 : decode prog_35_method_2_code 30 = .ok (.aload 4, 2) := by decide +kernel
theorem d_prog_35_2_32 : decode prog_35_method_2_code 32 = .ok (.invokevirtual 41, 3) := by decide +kernel
theorem d_prog_35_2_35 : decode prog_35_method_2_code 35 = .ok (.ifCond .ne 23, 3) := by decide +kernel
theorem d_prog_35_2_38 : decode prog_35_method_2_code 38 = .ok (.aload 4, 2) := by decide +kernel
theorem d_prog_35_2_40 : decode prog_35_method_2_code 40 = .ok (.ldc 45, 2) := by decide +kernel
theorem d_prog_35_2_42 : decode prog_35_method_2_code 42 = .ok (.invokevirtual 47, 3) := by decide +kernel
theorem pd_19 : parseMethodDescriptor "(Ljava/lang/Object;)Z" = some ⟨[(.object "java/lang/Object")], some .boolean⟩ := by decide +kernel
theorem d_prog_35_2_45 : decode prog_35_method_2_code 45 = .ok (.ifCond .ne 13, 3) := by decide +kernel
theorem d_prog_35_2_48 : decode prog_35_method_2_code 48 = .ok (.aload 4, 2) := by decide +kernel
theorem d_prog_35_2_50 : decode prog_35_method_2_code 50 = .ok (.ldc 51, 2) := by decide +kernel
theorem d_prog_35_2_52 : decode prog_35_method_2_code 52 = .ok (.invokevirtual 47, 3) := by decide +kernel
theorem d_prog_35_2_55 : decode prog_35_method_2_code 55 = .ok (.ifCond .eq 5, 3) := by decide +kernel
theorem d_prog_35_2_60 : decode prog_35_method_2_code 60 = .ok (.iinc 3 1, 3) := by decide +kernel
theorem d_prog_35_2_63 : decode prog_35_method_2_code 63 = .ok (.goto (-43), 3) := by decide +kernel
theorem d_prog_35_2_66 : decode prog_35_method_2_code 66 = .ok (.iconst 1, 1) := by decide +kernel
theorem d_prog_35_2_67 : decode prog_35_method_2_code 67 = .ok (.ireturn, 1) := by decide +kernel
set_option maxRecDepth 65536 in
set_option maxHeartbeats 40000000 in
theorem rm_isValid (l : Launch) {Z : State} {a0 : Array Value} (hD : Wd Z a0) (a : Addr) (t : Addr) (k : ClassId) {h0 : Heap} (O0 : Ext Z.heap h0) (E_a : Exa Z h0 a "java/lang/String") (F_coder_a : Fld Z h0 a "java/lang/String" "coder" "B" (.int 0)) (F_value_a : Fld Z h0 a "java/lang/String" "value" "[B" (.ref t)) (V_t : Arv Z h0 t k .byte (1 : Int32) [(.int 97)] (.int 0)) :
    ConH l Z EL (⟨"com/example/anteroom/anteroom/store/LogicalPath", "isValid", "(Ljava/lang/String;)Z"⟩ : MethodName) prog_35_method_2_code 5 (some .boolean) [] ({ frames := 7, cells := 12, slots := 108, locals := 103 } : Room) #[(.ref a)] h0 [] (Q_isValid Z a t k h0) := by
  refine ConH.walk (plainFor_of_name pn_8) ?_
  intro p e s vm0 k0 m below meth c T0 X0 hS0 hk0 hx hZ hby hml hown hnm hret hlk e0 A0 hss
  obtain ⟨hw, ⟨cz, S_CS, hcz⟩, ⟨sf, S_SF, hsf⟩, ⟨xde, xkde, S_DE, V_DE⟩⟩ := id hD
  have N0 := Fr.nil Z.heap.size
  have K0 : Keep h0 h0 [] := Keep.refl _ _
  have hEL : EW Z a0 EL := el_of hw
  have hsa : ∀ a ∈ Bundle.stringAtoms, a.before a0 Z = true := fun d hd => hw d (words_sa d hd)
  refine OEndsH.cast (ef_isValid m a) ?_
  refine OEndsH.st (S' := T0.setTop (mkF m 1 #[vr a, .unset, .unset, .unset, .unset] [(.ref a)])) (fun _ k => ?_) ?_
  · refine XS.aloadN X0.here hx rfl (hb hby d_prog_35_2_0) rfl rfl ?_
    exact k
  obtain ⟨b1, T1, h1, k11, t1, kb1, X1, e1, E1, hS1, hk1, hZ1, hown1, Es1, Fc1, Fv1, V1, -, -, Aq1, -, nes1, st1⟩ := ldcCH X0 hx hZ hown (wq hw 94 rfl) hsa e0 hS0 hk0 hEL (List.mem_of_getElem? (i := 0) rfl) A0.1 (vs := [(.int 118), (.int 97), (.int 108), (.int 117), (.int 101)]) (z := (5 : Int32)) ⟨by decide, by decide⟩ (by decide) rfl (g := (mkF m 1 #[vr a, .unset, .unset, .unset, .unset] [(.ref a)])) rfl (hb hby d_prog_35_2_1) (n := 20) (by decide) (by decide) (by decide) (by decide)
  replace hZ1 : Z.Warmed39 T1.vm := hZ1
  replace hown1 : T1.vm.findClass "com/example/anteroom/anteroom/store/LogicalPath" = some m.cls := hown1
  replace A0 : CHr Z EL s.vm s.heap T1.vm h1 := A0.trans Aq1
  refine OEndsH.st st1 ?_
  replace E_a := E_a.ext E1
  replace F_coder_a := F_coder_a.ext E1
  replace F_value_a := F_value_a.ext E1
  replace V_t := V_t.ext E1
  replace O0 : Ext Z.heap h1 := ext_trans O0 E1
  replace K0 : Keep h0 h1 [] := K0.ext E1
  obtain ⟨_, T2, h2, L2, X2, e2, hQ2, st2⟩ := callC X1 hx hZ1 hown1 (wq hw 95 rfl) (wq hw 96 rfl) (wq hw 97 rfl) (wq hw 98 rfl) (by decide) (kc := 0) (ks := 0) (Con.sb (W := 0) (rm_reqNN l hD a b1 O0) hZ1 (wq hw 98 rfl) (wq hw 97 rfl) (by decide) (by decide)) e1 (g := (mkF m 3 #[vr a, .unset, .unset, .unset, .unset] [(.ref b1), (.ref a)])) rfl (by rw [hml]; rfl) (argsL := [(.ref a), (.ref b1)]) (rest := []) (lenOf pd_17 rfl) rfl (by show 2 * 0 + _ ≤ _; exact Nat.le_of_eq rfl) (hb hby d_prog_35_2_3) (by decide) (by decide)
  obtain ⟨rfl, Nq2, Hq2⟩ := hQ2
  refine OEndsH.st st2 ?_
  replace N0 := Fr.app N0 Nq2
  replace e2 := e2.trans Hq2
  refine OEndsH.st (S' := T2.setTop (mkF m 8 #[vr a, .unset, .unset, .unset, .unset] [(.ref a)])) (fun _ k => ?_) ?_
  · refine XS.pop X2.here hx rfl (hb hby d_prog_35_2_6) rfl rfl ?_
    refine XS.aloadN X2.here hx rfl (hb hby d_prog_35_2_7) rfl rfl ?_
    exact k
  obtain ⟨b3, T3, h3, k13, t3, kb3, X3, e3, E3, hS3, hk3, hZ3, hown3, Es3, Fc3, Fv3, V3, -, -, Aq3, -, nes3, st3⟩ := ldcCH X2 hx hZ1 hown1 (wq hw 99 rfl) hsa e2 hS1 hk1 hEL (List.mem_of_getElem? (i := 1) rfl) A0.1 (vs := [(.int 47)]) (z := (1 : Int32)) ⟨by decide, by decide⟩ (by decide) rfl (g := (mkF m 8 #[vr a, .unset, .unset, .unset, .unset] [(.ref a)])) rfl (hb hby d_prog_35_2_8) (n := 4) (by decide) (by decide) (by decide) (by decide)
  replace hZ3 : Z.Warmed39 T3.vm := hZ3
  replace hown3 : T3.vm.findClass "com/example/anteroom/anteroom/store/LogicalPath" = some m.cls := hown3
  replace A0 : CHr Z EL s.vm s.heap T3.vm h3 := A0.trans Aq3
  refine OEndsH.st st3 ?_
  replace E_a := E_a.ext E3
  replace F_coder_a := F_coder_a.ext E3
  replace F_value_a := F_value_a.ext E3
  replace V_t := V_t.ext E3
  replace Es1 := Es1.ext E3
  replace Fc1 := Fc1.ext E3
  replace Fv1 := Fv1.ext E3
  replace V1 := V1.ext E3
  replace O0 : Ext Z.heap h3 := ext_trans O0 E3
  replace K0 : Keep h0 h3 [] := K0.ext E3
  refine OEndsH.st (S' := T3.setTop (mkF m 11 #[vr a, .unset, .unset, .unset, .unset] [(.int (-1)), (.ref b3), (.ref a)])) (fun _ k => ?_) ?_
  · refine XS.iconst X3.here hx rfl (hb hby d_prog_35_2_10) ?_
    exact k
  obtain ⟨_, T4, h4, L4, vm4, k14, X4, e4, hQ4, hS4, hk4, hZ4, hown4, Aq4, st4⟩ := virtH X3 hx hZ3 (y := (⟨"java/lang/String", "split", "(Ljava/lang/String;I)[Ljava/lang/String;"⟩ : MethodName)) (z := (⟨"java/lang/String", "split", "(Ljava/lang/String;I)[Ljava/lang/String;"⟩ : MethodName)) hown3 (wq hw 100 rfl) (wq hw 101 rfl) (nf_sel (args := #[]) (mvT hZ3 (wq hw 103 rfl)) rfl) (wq hw 103 rfl) (wq hw 102 rfl) (by decide) (kc := 4) (ks := 56) (ConH.sb (W := 0) (rm_split2 l hD a b3 t k t3 kb3 O0 E_a F_coder_a F_value_a V_t Es3 Fc3 Fv3 V3) hZ3 (wq hw 104 rfl) (wq hw 56 rfl) (by decide) (by decide) hEL A0.1 all0) e3 hS3 hk3 E_a (g := (mkF m 11 #[vr a, .unset, .unset, .unset, .unset] [(.int (-1)), (.ref b3), (.ref a)])) rfl (by rw [hml]; rfl) (argsL := [(.ref b3), (.int (-1))]) (rest := []) (lenOf pd_18 rfl) rfl (by show 2 * 0 + _ ≤ _; exact Nat.le_of_eq rfl) (hb hby d_prog_35_2_11) (by decide) (by decide)
  obtain ⟨r4, kr4, rfl, Nq4, Kq4, V4⟩ := hQ4
  replace A0 : CHr Z EL s.vm s.heap vm4 h4 := A0.trans Aq4
  refine OEndsH.st st4 ?_
  replace N0 := Fr.app N0 Nq4
  replace E_a := E_a.keep Kq4
  replace F_coder_a := F_coder_a.keep Kq4 nin0
  replace F_value_a := F_value_a.keep Kq4 nin0
  replace V_t := V_t.keep Kq4 nin0
  replace Es1 := Es1.keep Kq4
  replace Fc1 := Fc1.keep Kq4 nin0
  replace Fv1 := Fv1.keep Kq4 nin0
  replace V1 := V1.keep Kq4 nin0
  replace Es3 := Es3.keep Kq4
  replace Fc3 := Fc3.keep Kq4 nin0
  replace Fv3 := Fv3.keep Kq4 nin0
  replace V3 := V3.keep Kq4 nin0
  replace O0 : Ext Z.heap h4 := ext_keep O0 Kq4 all0
  replace K0 : Keep h0 h4 [] := K0.trans Kq4 all0
  refine OEndsH.st (S' := T4.setTop (mkF m 16 #[vr a, vr r4, .unset, .unset, .unset] [(.ref r4)])) (fun _ k => ?_) ?_
  · refine XS.astoreN X4.here hx rfl (hb hby d_prog_35_2_14) rfl rfl (l' := #[vr a, vr r4, .unset, .unset, .unset]) rfl ?_
    refine XS.aloadN X4.here hx rfl (hb hby d_prog_35_2_15) rfl rfl ?_
    exact k
  obtain ⟨cl_r4_5, Ar_r4_5, q_r4_5, S_r4_5, N_r4_5, H_r4_5, G_r4_5⟩ := id V4
  refine OEndsH.st (S' := T4.setTop (mkF m 17 #[vr a, vr r4, .unset, .unset, .unset] [(.int 1)])) (fun tg kq9 => X4.arraylength hx (by rw [e4]; exact Ar_r4_5.1) (State.isArrayOf_alike hZ4.alike Ar_r4_5.2.1) (g := (mkF m 16 #[vr a, vr r4, .unset, .unset, .unset] [(.ref r4)])) rfl rfl (hb hby d_prog_35_2_16) tg (by rw [len_of S_r4_5 N_r4_5]; exact kq9)) ?_
  refine OEndsH.st (S' := T4.setTop (mkF m 27 #[vr a, vr r4, vi 1, vi 0, .unset] [(.int 0), (.ref r4)])) (fun _ k => ?_) ?_
  · refine XS.istoreN X4.here hx rfl (hb hby d_prog_35_2_17) rfl (l' := #[vr a, vr r4, vi 1, .unset, .unset]) rfl ?_
    refine XS.iconst X4.here hx rfl (hb hby d_prog_35_2_18) ?_
    refine XS.istoreN X4.here hx rfl (hb hby d_prog_35_2_19) rfl (l' := #[vr a, vr r4, vi 1, vi 0, .unset]) rfl ?_
    refine XS.iloadN X4.here hx rfl (hb hby d_prog_35_2_20) rfl ?_
    show Steps p.tables e below (T4.setTop (mkF m 21 #[vr a, vr r4, vi 1, vi 0, .unset] [(.int 0)])) _
    refine XS.iloadN X4.here hx rfl (hb hby d_prog_35_2_21) rfl ?_
    refine XS.icmpNo X4.here hx rfl (hb hby d_prog_35_2_22) rfl (tlt (by decide)).2.1 ?_
    refine XS.aloadN X4.here hx rfl (hb hby d_prog_35_2_25) rfl rfl ?_
    refine XS.iloadN X4.here hx rfl (hb hby d_prog_35_2_26) rfl ?_
    exact k
  obtain ⟨cl_r4_6, Ar_r4_6, q_r4_6, S_r4_6, N_r4_6, H_r4_6, G_r4_6⟩ := id V4
  refine OEndsH.st (S' := T4.setTop (mkF m 28 #[vr a, vr r4, vi 1, vi 0, .unset] [(.ref a)])) (X4.aaload hx (j := (0 : Int32)) (v := (.ref a)) (by rw [e4]; exact Ar_r4_6.1) (State.isArrayOf_alike hZ4.alike Ar_r4_6.2.1) rfl Ar_r4_6.2.2 (inb_of S_r4_6 ⟨by decide, by decide⟩) (H_r4_6.at (inb_of S_r4_6 ⟨by decide, by decide⟩) rfl) (g := (mkF m 27 #[vr a, vr r4, vi 1, vi 0, .unset] [(.int 0), (.ref r4)])) rfl rfl (hb hby d_prog_35_2_27)) ?_
  refine OEndsH.st (S' := T4.setTop (mkF m 32 #[vr a, vr r4, vi 1, vi 0, vr a] [(.ref a)])) (fun _ k => ?_) ?_
  · refine XS.astore X4.here hx rfl (hb hby d_prog_35_2_28) rfl rfl (l' := #[vr a, vr r4, vi 1, vi 0, vr a]) rfl ?_
    refine XS.aload X4.here hx rfl (hb hby d_prog_35_2_30) rfl rfl ?_
    exact k
  obtain ⟨_, T7, h7, L7, X7, e7, hQ7, st7⟩ := virtC X4 hx hZ4 (y := (⟨"java/lang/String", "isEmpty", "()Z"⟩ : MethodName)) (z := (⟨"java/lang/String", "isEmpty", "()Z"⟩ : MethodName)) hown4 (wq hw 180 rfl) (wq hw 181 rfl) (nf_sel (args := #[]) (mvT hZ4 (wq hw 103 rfl)) rfl) (wq hw 183 rfl) (wq hw 182 rfl) (by decide) (kc := 0) (ks := 0) (Con.sb (W := 0) (rm_strEmp l hD a t k O0 E_a F_coder_a F_value_a V_t) hZ4 (wq hw 184 rfl) (wq hw 56 rfl) (by decide) (by decide)) e4 E_a (g := (mkF m 32 #[vr a, vr r4, vi 1, vi 0, vr a] [(.ref a)])) rfl (by rw [hml]; rfl) (argsL := []) (rest := []) (lenOf pd_8 rfl) rfl (by show 2 * 0 + _ ≤ _; exact Nat.le_of_eq rfl) (hb hby d_prog_35_2_32) (by decide) (by decide)
  obtain ⟨rfl, Nq7, Hq7⟩ := hQ7
  refine OEndsH.st st7 ?_
  replace N0 := Fr.app N0 Nq7
  replace e7 := e7.trans Hq7
  refine OEndsH.st (S' := T7.setTop (mkF m 40 #[vr a, vr r4, vi 1, vi 0, vr a] [(.ref a)])) (fun _ k => ?_) ?_
  · refine XS.ifNo X7.here hx rfl (hb hby d_prog_35_2_35) rfl ((if0 _ _).trans (teq (by decide)).2) ?_
    refine XS.aload X7.here hx rfl (hb hby d_prog_35_2_38) rfl rfl ?_
    exact k
  obtain ⟨b8, T8, h8, k18, t8, kb8, X8, e8, E8, hS8, hk8, hZ8, hown8, Es8, Fc8, Fv8, V8, -, -, Aq8, -, nes8, st8⟩ := ldcCH X7 hx hZ4 hown4 (wq hw 185 rfl) hsa e7 hS4 hk4 hEL (List.mem_of_getElem? (i := 2) rfl) A0.1 (vs := [(.int 46)]) (z := (1 : Int32)) ⟨by decide, by decide⟩ (by decide) rfl (g := (mkF m 40 #[vr a, vr r4, vi 1, vi 0, vr a] [(.ref a)])) rfl (hb hby d_prog_35_2_40) (n := 4) (by decide) (by decide) (by decide) (by decide)
  replace hZ8 : Z.Warmed39 T8.vm := hZ8
  replace hown8 : T8.vm.findClass "com/example/anteroom/anteroom/store/LogicalPath" = some m.cls := hown8
  replace A0 : CHr Z EL s.vm s.heap T8.vm h8 := A0.trans Aq8
  refine OEndsH.st st8 ?_
  replace E_a := E_a.ext E8
  replace F_coder_a := F_coder_a.ext E8
  replace F_value_a := F_value_a.ext E8
  replace V_t := V_t.ext E8
  replace Es1 := Es1.ext E8
  replace Fc1 := Fc1.ext E8
  replace Fv1 := Fv1.ext E8
  replace V1 := V1.ext E8
  replace Es3 := Es3.ext E8
  replace Fc3 := Fc3.ext E8
  replace Fv3 := Fv3.ext E8
  replace V3 := V3.ext E8
  replace V4 := V4.ext E8
  replace O0 : Ext Z.heap h8 := ext_trans O0 E8
  replace K0 : Keep h0 h8 [] := K0.ext E8
  obtain ⟨_, T9, h9, L9, X9, e9, hQ9, st9⟩ := virtC X8 hx hZ8 (y := (⟨"java/lang/String", "equals", "(Ljava/lang/Object;)Z"⟩ : MethodName)) (z := (⟨"java/lang/String", "equals", "(Ljava/lang/Object;)Z"⟩ : MethodName)) hown8 (wq hw 186 rfl) (wq hw 187 rfl) (nf_sel (args := #[]) (mvT hZ8 (wq hw 103 rfl)) rfl) (wq hw 189 rfl) (wq hw 188 rfl) (by decide) (kc := 0) (ks := 0) (SB.mono (SB.of (Q := fun v h' L => ((v = some (.int 1) ∧ ([97] : List Int32) = ([46] : List Int32)) ∨ (v = some (.int 0) ∧ ¬ ([97] : List Int32) = ([46] : List Int32))) ∧ L = [] ∧ h' = h8) (StrChars.Road.eqW (s := s.setVm T8.vm) (W := 0) hZ8 (fun d hd => hw d (words_eq d hd)) (kI := 4) (wq hw 55 rfl) (cs := ([97] : List Int32)) (ds := ([46] : List Int32)) E_a F_value_a F_coder_a V_t cod_a bnd_a len_a Es8 Fv8 Fc8 V8 cod_p bnd_p len_p (S_CS.ext O0) hcz (by decide) (by decide))) (Q' := fun v h' L => v = some (.int 0) ∧ Fr Z.heap.size L ∧ h' = h8) (fun v h' L q => ⟨q.1.elim (fun r => absurd r.2 ne_p) (·.1), q.2.1 ▸ Fr.nil _, q.2.2⟩)) e8 E_a (g := (mkF m 42 #[vr a, vr r4, vi 1, vi 0, vr a] [(.ref b8), (.ref a)])) rfl (by rw [hml]; rfl) (argsL := [(.ref b8)]) (rest := []) (lenOf pd_19 rfl) rfl (by show 2 * 0 + _ ≤ _; exact Nat.le_of_eq rfl) (hb hby d_prog_35_2_42) (by decide) (by decide)
  obtain ⟨rfl, Nq9, Hq9⟩ := hQ9
  refine OEndsH.st st9 ?_
  replace N0 := Fr.app N0 Nq9
  replace e9 := e9.trans Hq9
  refine OEndsH.st (S' := T9.setTop (mkF m 50 #[vr a, vr r4, vi 1, vi 0, vr a] [(.ref a)])) (fun _ k => ?_) ?_
  · refine XS.ifNo X9.here hx rfl (hb hby d_prog_35_2_45) rfl ((if0 _ _).trans (teq (by decide)).2) ?_
    refine XS.aload X9.here hx rfl (hb hby d_prog_35_2_48) rfl rfl ?_
    exact k
  obtain ⟨b10, T10, h10, k110, t10, kb10, X10, e10, E10, hS10, hk10, hZ10, hown10, Es10, Fc10, Fv10, V10, -, -, Aq10, -, nes10, st10⟩ := ldcCH X9 hx hZ8 hown8 (wq hw 194 rfl) hsa e9 hS8 hk8 hEL (List.mem_of_getElem? (i := 3) rfl) A0.1 (vs := [(.int 46), (.int 46)]) (z := (2 : Int32)) ⟨by decide, by decide⟩ (by decide) rfl (g := (mkF m 50 #[vr a, vr r4, vi 1, vi 0, vr a] [(.ref a)])) rfl (hb hby d_prog_35_2_50) (n := 8) (by decide) (by decide) (by decide) (by decide)
  replace hZ10 : Z.Warmed39 T10.vm := hZ10
  replace hown10 : T10.vm.findClass "com/example/anteroom/anteroom/store/LogicalPath" = some m.cls := hown10
  replace A0 : CHr Z EL s.vm s.heap T10.vm h10 := A0.trans Aq10
  refine OEndsH.st st10 ?_
  replace E_a := E_a.ext E10
  replace F_coder_a := F_coder_a.ext E10
  replace F_value_a := F_value_a.ext E10
  replace V_t := V_t.ext E10
  replace Es1 := Es1.ext E10
  replace Fc1 := Fc1.ext E10
  replace Fv1 := Fv1.ext E10
  replace V1 := V1.ext E10
  replace Es3 := Es3.ext E10
  replace Fc3 := Fc3.ext E10
  replace Fv3 := Fv3.ext E10
  replace V3 := V3.ext E10
  replace V4 := V4.ext E10
  replace Es8 := Es8.ext E10
  replace Fc8 := Fc8.ext E10
  replace Fv8 := Fv8.ext E10
  replace V8 := V8.ext E10
  replace O0 : Ext Z.heap h10 := ext_trans O0 E10
  replace K0 : Keep h0 h10 [] := K0.ext E10
  obtain ⟨_, T11, h11, L11, X11, e11, hQ11, st11⟩ := virtC X10 hx hZ10 (y := (⟨"java/lang/String", "equals", "(Ljava/lang/Object;)Z"⟩ : MethodName)) (z := (⟨"java/lang/String", "equals", "(Ljava/lang/Object;)Z"⟩ : MethodName)) hown10 (wq hw 186 rfl) (wq hw 187 rfl) (nf_sel (args := #[]) (mvT hZ10 (wq hw 103 rfl)) rfl) (wq hw 189 rfl) (wq hw 188 rfl) (by decide) (kc := 0) (ks := 0) (SB.mono (SB.of (Q := fun v h' L => ((v = some (.int 1) ∧ ([97] : List Int32) = ([46, 46] : List Int32)) ∨ (v = some (.int 0) ∧ ¬ ([97] : List Int32) = ([46, 46] : List Int32))) ∧ L = [] ∧ h' = h10) (StrChars.Road.eqW (s := s.setVm T10.vm) (W := 0) hZ10 (fun d hd => hw d (words_eq d hd)) (kI := 4) (wq hw 55 rfl) (cs := ([97] : List Int32)) (ds := ([46, 46] : List Int32)) E_a F_value_a F_coder_a V_t cod_a bnd_a len_a Es10 Fv10 Fc10 V10 cod_pp bnd_pp len_pp (S_CS.ext O0) hcz (by decide) (by decide))) (Q' := fun v h' L => v = some (.int 0) ∧ Fr Z.heap.size L ∧ h' = h10) (fun v h' L q => ⟨q.1.elim (fun r => absurd r.2 ne_pp) (·.1), q.2.1 ▸ Fr.nil _, q.2.2⟩)) e10 E_a (g := (mkF m 52 #[vr a, vr r4, vi 1, vi 0, vr a] [(.ref b10), (.ref a)])) rfl (by rw [hml]; rfl) (argsL := [(.ref b10)]) (rest := []) (lenOf pd_19 rfl) rfl (by show 2 * 0 + _ ≤ _; exact Nat.le_of_eq rfl) (hb hby d_prog_35_2_52) (by decide) (by decide)
  obtain ⟨rfl, Nq11, Hq11⟩ := hQ11
  refine OEndsH.st st11 ?_
  replace N0 := Fr.app N0 Nq11
  replace e11 := e11.trans Hq11
  refine OEndsH.st (S' := T11.setTop (mkF m 67 #[vr a, vr r4, vi 1, vi 1, vr a] [(.int 1)])) (fun _ k => ?_) ?_
  · refine XS.ifYes X11.here hx rfl (pc0 := 55) (pc' := 60) rfl (hb hby d_prog_35_2_55) rfl ((if0 _ _).trans (teq (by decide)).1) (by decide) (by decide) ?_
    refine XS.iinc X11.here hx rfl (hb hby d_prog_35_2_60) rfl (l' := #[vr a, vr r4, vi 1, vi 1, vr a]) rfl ?_
    refine XS.goto X11.here hx rfl (pc0 := 63) (pc' := 20) rfl (hb hby d_prog_35_2_63) (by decide) (by decide) ?_
    refine XS.iloadN X11.here hx rfl (hb hby d_prog_35_2_20) rfl ?_
    show Steps p.tables e below (T11.setTop (mkF m 21 #[vr a, vr r4, vi 1, vi 1, vr a] [(.int 1)])) _
    refine XS.iloadN X11.here hx rfl (hb hby d_prog_35_2_21) rfl ?_
    refine XS.icmpYes X11.here hx rfl (pc0 := 22) (pc' := 66) rfl (hb hby d_prog_35_2_22) rfl (flt (by decide)).2.1 (by decide) (by decide) ?_
    refine XS.iconst X11.here hx rfl (hb hby d_prog_35_2_66) ?_
    exact k
  exact OEndsH.ret X11 hx hZ10 hEL e11 hS10 hk10 A0 hret hlk (by decide) (Or.inl ⟨rfl, by simp, _, rfl⟩) (hb hby d_prog_35_2_67) (by decide) (by decide) ⟨rfl, N0, K0⟩
-- com/example/anteroom/anteroom/store/LogicalPath.<init>:(Ljava/lang/String;)V
def Q_lpInit (Z : State) (x : Addr) (a : Addr) (t : Addr) (k : ClassId) (h0 : Heap) (v : Option Value) (h : Heap) (L : List Loc) : Prop := v = none ∧ Fr Z.heap.size L ∧ Keep h0 h [x]
theorem ef_lpInit (m : MethodId) (x : Addr) (a : Addr) : entryFrame m #[(.ref x), (.ref a)] 2 = mkF m 0 #[vr x, vr a] [] := by first | (simp [entryFrame, mkF, argsToLocals, Value.category, vi, vj, vr]; done) | rfl
theorem d_prog_35_1_0 : decode prog_35_method_1_code 0 = .ok (.aload_n 0, 1) := by decide +kernel
theorem d_prog_35_1_1 : decode prog_35_method_1_code 1 = .ok (.invokespecial 1, 3) := by decide +kernel
theorem d_prog_35_1_4 : decode prog_35_method_1_code 4 = .ok (.aload_n 1, 1) := by decide +kernel
theorem d_prog_35_1_5 : decode prog_35_method_1_code 5 = .ok (.invokestatic 7, 3) := by decide +kernel
theorem pd_20 : parseMethodDescriptor "(Ljava/lang/String;)Z" = some ⟨[(.object "java/lang/String")], some .boolean⟩ := by decide +kernel
theorem d_prog_35_1_8 : decode prog_35_method_1_code 8 = .ok (.ifCond .ne 17, 3) := by decide +kernel
theorem d_prog_35_1_25 : decode prog_35_method_1_code 25 = .ok (.aload_n 0, 1) := by decide +kernel
theorem d_prog_35_1_26 : decode prog_35_method_1_code 26 = .ok (.aload_n 1, 1) := by decide +kernel
theorem d_prog_35_1_27 : decode prog_35_method_1_code 27 = .ok (.putfield 22, 3) := by decide +kernel
theorem d_prog_35_1_30 : decode prog_35_method_1_code 30 = .ok (.return_, 1) := by decide +kernel
set_option maxRecDepth 65536 in
set_option maxHeartbeats 40000000 in
theorem rm_lpInit (l : Launch) {Z : State} {a0 : Array Value} (hD : Wd Z a0) (x : Addr) (a : Addr) (t : Addr) (k : ClassId) {h0 : Heap} (O0 : Ext Z.heap h0) (E_x : Exa Z h0 x "com/example/anteroom/anteroom/store/LogicalPath") (F_value_x : Fld Z h0 x "com/example/anteroom/anteroom/store/LogicalPath" "value" "Ljava/lang/String;" .null) (ge_x : Z.heap.size ≤ x) (E_a : Exa Z h0 a "java/lang/String") (F_coder_a : Fld Z h0 a "java/lang/String" "coder" "B" (.int 0)) (F_value_a : Fld Z h0 a "java/lang/String" "value" "[B" (.ref t)) (V_t : Arv Z h0 t k .byte (1 : Int32) [(.int 97)] (.int 0)) :
    ConH l Z EL (⟨"com/example/anteroom/anteroom/store/LogicalPath", "<init>", "(Ljava/lang/String;)V"⟩ : MethodName) prog_35_method_1_code 2 none [] ({ frames := 8, cells := 12, slots := 108, locals := 119 } : Room) #[(.ref x), (.ref a)] h0 [x] (Q_lpInit Z x a t k h0) := by
  refine ConH.walk (plainFor_of_name pn_8) ?_
  intro p e s vm0 k0 m below meth c T0 X0 hS0 hk0 hx hZ hby hml hown hnm hret hlk e0 A0 hss
  obtain ⟨hw, ⟨cz, S_CS, hcz⟩, ⟨sf, S_SF, hsf⟩, ⟨xde, xkde, S_DE, V_DE⟩⟩ := id hD
  have N0 := Fr.nil Z.heap.size
  have K0 : Keep h0 h0 [x] := Keep.refl _ _
  have S_x := hss x (List.mem_of_getElem? (i := 0) rfl)
  have hEL : EW Z a0 EL := el_of hw
  have hsa : ∀ a ∈ Bundle.stringAtoms, a.before a0 Z = true := fun d hd => hw d (words_sa d hd)
  refine OEndsH.cast (ef_lpInit m x a) ?_
  refine OEndsH.st (S' := T0.setTop (mkF m 1 #[vr x, vr a] [(.ref x)])) (fun _ k => ?_) ?_
  · refine XS.aloadN X0.here hx rfl (hb hby d_prog_35_1_0) rfl rfl ?_
    exact k
  obtain ⟨_, T1, h1, L1, X1, e1, hQ1, st1⟩ := specC X0 hx hZ rfl hown (wq hw 90 rfl) (wq hw 33 rfl) (wq hw 36 rfl) (by decide) (kc := 0) (ks := 0) (Con.sb (W := 0) (rm_recInit l hD x O0) hZ (wq hw 36 rfl) (wq hw 35 rfl) (by decide) (by decide)) e0 (a := x) (g := (mkF m 1 #[vr x, vr a] [(.ref x)])) rfl (by rw [hml]; rfl) (argsL := []) (rest := []) (lenOf pd_1 rfl) rfl (by show 2 * 0 + _ ≤ _; exact Nat.le_of_eq rfl) (hb hby d_prog_35_1_1) (by decide) (by decide)
  obtain ⟨rfl, Nq1, Hq1⟩ := hQ1
  refine OEndsH.st st1 ?_
  replace N0 := Fr.app N0 Nq1
  replace e1 := e1.trans Hq1
  refine OEndsH.st (S' := T1.setTop (mkF m 5 #[vr x, vr a] [(.ref a)])) (fun _ k => ?_) ?_
  · refine XS.aloadN X1.here hx rfl (hb hby d_prog_35_1_4) rfl rfl ?_
    exact k
  obtain ⟨_, T2, h2, L2, vm2, k12, X2, e2, hQ2, hS2, hk2, hZ2, hown2, Aq2, st2⟩ := callH X1 hx hZ hown (wq hw 91 rfl) (wq hw 92 rfl) (wq hw 83 rfl) (wq hw 93 rfl) (by decide) (kc := 12) (ks := 108) (ConH.sb (W := 0) (rm_isValid l hD a t k O0 E_a F_coder_a F_value_a V_t) hZ (wq hw 93 rfl) (wq hw 83 rfl) (by decide) (by decide) hEL A0.1 all0) e1 hS0 hk0 (g := (mkF m 5 #[vr x, vr a] [(.ref a)])) rfl (by rw [hml]; rfl) (argsL := [(.ref a)]) (rest := []) (lenOf pd_20 rfl) rfl (by show 2 * 0 + _ ≤ _; exact Nat.le_of_eq rfl) (hb hby d_prog_35_1_5) (by decide) (by decide)
  obtain ⟨rfl, Nq2, Kq2⟩ := hQ2
  replace S_x : Safe Z EL vm2 h2 x := Aq2.safe E_x.lt S_x
  replace A0 : CHr Z EL s.vm s.heap vm2 h2 := A0.trans Aq2
  refine OEndsH.st st2 ?_
  replace N0 := Fr.app N0 Nq2
  replace E_a := E_a.keep Kq2
  replace F_coder_a := F_coder_a.keep Kq2 nin0
  replace F_value_a := F_value_a.keep Kq2 nin0
  replace V_t := V_t.keep Kq2 nin0
  replace E_x := E_x.keep Kq2
  replace F_value_x := F_value_x.keep Kq2 nin0
  replace O0 : Ext Z.heap h2 := ext_keep O0 Kq2 all0
  replace K0 : Keep h0 h2 [x] := K0.trans Kq2 all0
  refine OEndsH.st (S' := T2.setTop (mkF m 27 #[vr x, vr a] [(.ref a), (.ref x)])) (fun _ k => ?_) ?_
  · refine XS.ifYes X2.here hx rfl (pc0 := 8) (pc' := 25) rfl (hb hby d_prog_35_1_8) rfl ((if0 _ _).trans (feq (by decide)).2) (by decide) (by decide) ?_
    refine XS.aloadN X2.here hx rfl (hb hby d_prog_35_1_25) rfl rfl ?_
    refine XS.aloadN X2.here hx rfl (hb hby d_prog_35_1_26) rfl rfl ?_
    exact k
  have ne_a_x : a ≠ x := ne_exa E_a E_x (by decide)
  have ne_t_x : t ≠ x := Ne.symm (ne_arv E_x (wq hw 82 rfl) V_t)
  obtain ⟨T3, h3, X3, e3, W3, st3⟩ := putF X2 hx hZ2 hown2 (host := "") (Or.inl (wq hw 195 rfl)) Via.refl e2 F_value_x E_x (Or.inr ⟨(wq hw 196 rfl), rfl, hnm⟩) (wq hw 82 rfl) (ty := (.object "java/lang/String")) (by decide) rfl rfl (g := (mkF m 27 #[vr x, vr a] [(.ref a), (.ref x)])) rfl rfl (hb hby d_prog_35_1_27)
  refine OEndsH.st st3 ?_
  replace E_a := E_a.wr W3
  replace F_coder_a := F_coder_a.other W3 (Or.inl ne_a_x)
  replace F_value_a := F_value_a.other W3 (Or.inl ne_a_x)
  replace V_t := V_t.other W3 ne_t_x
  replace E_x := E_x.wr W3
  replace F_value_x := F_value_x.same W3
  have S_x' : Safe Z EL vm2 h3 x := Safe.wr W3 S_x A0.1 S_x
  have A' : CHr Z EL s.vm s.heap vm2 h3 := A0.trans (CHr.wr W3 S_x A0.1)
  replace S_x := S_x'
  replace A0 := A'
  replace hk2 := Nat.le_trans hk2 (Keep.of_wr W3).1
  replace O0 : Ext Z.heap h3 := ext_wr O0 W3 ge_x
  replace N0 := Fr.snoc X3 N0 ge_x
  replace K0 : Keep h0 h3 [x] := K0.wr W3 (Or.inl (List.mem_of_getElem? (i := 0) rfl))
  exact OEndsH.retV X3 hx hZ2 hEL e3 hS2 hk2 A0 hret hlk (hb hby d_prog_35_1_30) (by decide) (by decide) ⟨rfl, N0, K0⟩
-- com/example/anteroom/anteroom/store/VersionChanges.<init>:(Ljava/lang/String;JJLjava/util/List;J)V
def Q_vcInit (Z : State) (a : Addr) (pv : Value) (ad : Int64) (mo : Int64) (rm : Addr) (un : Int64) (h0 : Heap) (v : Option Value) (h : Heap) (L : List Loc) : Prop := v = none ∧ Fr Z.heap.size L ∧ Keep h0 h [a] ∧ Exa Z h a "com/example/anteroom/anteroom/store/VersionChanges" ∧ Fld Z h a "com/example/anteroom/anteroom/store/VersionChanges" "previous" "Ljava/lang/String;" pv ∧ Fld Z h a "com/example/anteroom/anteroom/store/VersionChanges" "added" "J" (.long ad) ∧ Fld Z h a "com/example/anteroom/anteroom/store/VersionChanges" "modified" "J" (.long mo) ∧ Fld Z h a "com/example/anteroom/anteroom/store/VersionChanges" "removed" "Ljava/util/List;" (.ref rm) ∧ Fld Z h a "com/example/anteroom/anteroom/store/VersionChanges" "unchanged" "J" (.long un)
theorem ef_vcInit (m : MethodId) (a : Addr) (pv : Value) (ad : Int64) (mo : Int64) (rm : Addr) (un : Int64) (hr_pv : pv.category = 1) : entryFrame m #[(.ref a), pv, (.long ad), (.long mo), (.ref rm), (.long un)] 9 = mkF m 0 #[vr a, .val pv, vj ad, .second, vj mo, .second, vr rm, vj un, .second] [] := by first | (simp [entryFrame, mkF, argsToLocals, cat_i, cat_j, cat_r, cat_n, vi, vj, vr, hr_pv]; done) | rfl
theorem pn_9 : plainName "com/example/anteroom/anteroom/store/VersionChanges" = true := by first | (simp [plainName, overriddenIn]; done) | decide +kernel
theorem d_prog_51_1_0 : decode prog_51_method_1_code 0 = .ok (.aload_n 0, 1) := by decide +kernel
theorem d_prog_51_1_1 : decode prog_51_method_1_code 1 = .ok (.invokespecial 1, 3) := by decide +kernel
theorem d_prog_51_1_4 : decode prog_51_method_1_code 4 = .ok (.aload_n 0, 1) := by decide +kernel
theorem d_prog_51_1_5 : decode prog_51_method_1_code 5 = .ok (.aload_n 1, 1) := by decide +kernel
theorem d_prog_51_1_6 : decode prog_51_method_1_code 6 = .ok (.putfield 7, 3) := by decide +kernel
theorem d_prog_51_1_9 : decode prog_51_method_1_code 9 = .ok (.aload_n 0, 1) := by decide +kernel
theorem d_prog_51_1_10 : decode prog_51_method_1_code 10 = .ok (.lload_n 2, 1) := by decide +kernel
theorem d_prog_51_1_11 : decode prog_51_method_1_code 11 = .ok (.putfield 13, 3) := by decide +kernel
theorem d_prog_51_1_14 : decode prog_51_method_1_code 14 = .ok (.aload_n 0, 1) := by decide +kernel
theorem d_prog_51_1_15 : decode prog_51_method_1_code 15 = .ok (.lload 4, 2) := by decide +kernel
theorem d_prog_51_1_17 : decode prog_51_method_1_code 17 = .ok (.putfield 17, 3) := by decide +kernel
theorem d_prog_51_1_20 : decode prog_51_method_1_code 20 = .ok (.aload_n 0, 1) := by decide +kernel
theorem d_prog_51_1_21 : decode prog_51_method_1_code 21 = .ok (.aload 6, 2) := by decide +kernel
theorem d_prog_51_1_23 : decode prog_51_method_1_code 23 = .ok (.putfield 20, 3) := by decide +kernel
theorem d_prog_51_1_26 : decode prog_51_method_1_code 26 = .ok (.aload_n 0, 1) := by decide +kernel
theorem d_prog_51_1_27 : decode prog_51_method_1_code 27 = .ok (.lload 7, 2) := by decide +kernel
theorem d_prog_51_1_29 : decode prog_51_method_1_code 29 = .ok (.putfield 24, 3) := by decide +kernel
theorem d_prog_51_1_32 : decode prog_51_method_1_code 32 = .ok (.return_, 1) := by decide +kernel
set_option maxRecDepth 65536 in
set_option maxHeartbeats 40000000 in
theorem rm_vcInit (l : Launch) {Z : State} {a0 : Array Value} (hD : Wd Z a0) (a : Addr) (pv : Value) (ad : Int64) (mo : Int64) (rm : Addr) (un : Int64) {h0 : Heap} (O0 : Ext Z.heap h0) (E_a : Exa Z h0 a "com/example/anteroom/anteroom/store/VersionChanges") (F_previous_a : Fld Z h0 a "com/example/anteroom/anteroom/store/VersionChanges" "previous" "Ljava/lang/String;" .null) (F_added_a : Fld Z h0 a "com/example/anteroom/anteroom/store/VersionChanges" "added" "J" (.long 0)) (F_modified_a : Fld Z h0 a "com/example/anteroom/anteroom/store/VersionChanges" "modified" "J" (.long 0)) (F_removed_a : Fld Z h0 a "com/example/anteroom/anteroom/store/VersionChanges" "removed" "Ljava/util/List;" .null) (F_unchanged_a : Fld Z h0 a "com/example/anteroom/anteroom/store/VersionChanges" "unchanged" "J" (.long 0)) (ge_a : Z.heap.size ≤ a) (hpv : pv.isRef = true) :
    Con l Z (⟨"com/example/anteroom/anteroom/store/VersionChanges", "<init>", "(Ljava/lang/String;JJLjava/util/List;J)V"⟩ : MethodName) prog_51_method_1_code 9 none [] ({ frames := 2, cells := 0, slots := 0, locals := 24 } : Room) #[(.ref a), pv, (.long ad), (.long mo), (.ref rm), (.long un)] h0 (Q_vcInit Z a pv ad mo rm un h0) := by
  refine Con.walk (plainFor_of_name pn_9) ?_
  intro p e s m below meth c T0 X0 hx hZ hby hml hown hnm hret hlk e0
  obtain ⟨hw, ⟨cz, S_CS, hcz⟩, ⟨sf, S_SF, hsf⟩, ⟨xde, xkde, S_DE, V_DE⟩⟩ := id hD
  have N0 := Fr.nil Z.heap.size
  have K0 : Keep h0 h0 [a] := Keep.refl _ _
  refine OEnds.cast (ef_vcInit m a pv ad mo rm un (Jvm.Free.XT.cat1 hpv)) ?_
  refine OEnds.st (S' := T0.setTop (mkF m 1 #[vr a, .val pv, vj ad, .second, vj mo, .second, vr rm, vj un, .second] [(.ref a)])) (fun _ k => ?_) ?_
  · refine XS.aloadN X0.here hx rfl (hb hby d_prog_51_1_0) rfl rfl ?_
    exact k
  obtain ⟨_, T1, h1, L1, X1, e1, hQ1, st1⟩ := specC X0 hx hZ rfl hown (wq hw 32 rfl) (wq hw 33 rfl) (wq hw 36 rfl) (by decide) (kc := 0) (ks := 0) (Con.sb (W := 0) (rm_recInit l hD a O0) hZ (wq hw 36 rfl) (wq hw 35 rfl) (by decide) (by decide)) e0 (a := a) (g := (mkF m 1 #[vr a, .val pv, vj ad, .second, vj mo, .second, vr rm, vj un, .second] [(.ref a)])) rfl (by rw [hml]; rfl) (argsL := []) (rest := []) (lenOf pd_1 rfl) rfl (by show 2 * 0 + _ ≤ _; exact Nat.le_of_eq rfl) (hb hby d_prog_51_1_1) (by decide) (by decide)
  obtain ⟨rfl, Nq1, Hq1⟩ := hQ1
  refine OEnds.st st1 ?_
  replace N0 := Fr.app N0 Nq1
  replace e1 := e1.trans Hq1
  refine OEnds.st (S' := T1.setTop (mkF m 6 #[vr a, .val pv, vj ad, .second, vj mo, .second, vr rm, vj un, .second] [pv, (.ref a)])) (fun _ k => ?_) ?_
  · refine XS.aloadN X1.here hx rfl (hb hby d_prog_51_1_4) rfl rfl ?_
    refine XS.aloadN X1.here hx rfl (hb hby d_prog_51_1_5) rfl hpv ?_
    exact k
  obtain ⟨T2, h2, X2, e2, W2, st2⟩ := putF X1 hx hZ hown (host := "") (Or.inl (wq hw 38 rfl)) Via.refl e1 F_previous_a E_a (Or.inr ⟨(wq hw 39 rfl), rfl, hnm⟩) (wq hw 27 rfl) (ty := (.object "java/lang/String")) (by decide) (Jvm.RoadKit.narrow_isRef (by rfl)) (fits_isRef (by rfl) hpv) (g := (mkF m 6 #[vr a, .val pv, vj ad, .second, vj mo, .second, vr rm, vj un, .second] [pv, (.ref a)])) rfl rfl (hb hby d_prog_51_1_6)
  refine OEnds.st st2 ?_
  replace E_a := E_a.wr W2
  replace F_previous_a := F_previous_a.same W2
  replace F_added_a := F_added_a.other W2 (Or.inr (slot_ne (Or.inr (wq hw 41 rfl)) (Or.inr (wq hw 39 rfl)) (by decide) (t := .long) (t' := (.object "java/lang/String")) (by decide) (by decide)))
  replace F_modified_a := F_modified_a.other W2 (Or.inr (slot_ne (Or.inr (wq hw 43 rfl)) (Or.inr (wq hw 39 rfl)) (by decide) (t := .long) (t' := (.object "java/lang/String")) (by decide) (by decide)))
  replace F_removed_a := F_removed_a.other W2 (Or.inr (slot_ne (Or.inr (wq hw 45 rfl)) (Or.inr (wq hw 39 rfl)) (by decide) (t := (.object "java/util/List")) (t' := (.object "java/lang/String")) (by decide) (by decide)))
  replace F_unchanged_a := F_unchanged_a.other W2 (Or.inr (slot_ne (Or.inr (wq hw 47 rfl)) (Or.inr (wq hw 39 rfl)) (by decide) (t := .long) (t' := (.object "java/lang/String")) (by decide) (by decide)))
  replace O0 : Ext Z.heap h2 := ext_wr O0 W2 ge_a
  replace N0 := Fr.snoc X2 N0 ge_a
  replace K0 : Keep h0 h2 [a] := K0.wr W2 (Or.inl (List.mem_of_getElem? (i := 0) rfl))
  refine OEnds.st (S' := T2.setTop (mkF m 11 #[vr a, .val pv, vj ad, .second, vj mo, .second, vr rm, vj un, .second] [(.long ad), (.ref a)])) (fun _ k => ?_) ?_
  · refine XS.aloadN X2.here hx rfl (hb hby d_prog_51_1_9) rfl rfl ?_
    refine XS.lloadN X2.here hx rfl (hb hby d_prog_51_1_10) rfl ?_
    exact k
  obtain ⟨T3, h3, X3, e3, W3, st3⟩ := putF X2 hx hZ hown (host := "") (Or.inl (wq hw 40 rfl)) Via.refl e2 F_added_a E_a (Or.inr ⟨(wq hw 41 rfl), rfl, hnm⟩) (wq hw 27 rfl) (ty := .long) (by decide) rfl rfl (g := (mkF m 11 #[vr a, .val pv, vj ad, .second, vj mo, .second, vr rm, vj un, .second] [(.long ad), (.ref a)])) rfl rfl (hb hby d_prog_51_1_11)
  refine OEnds.st st3 ?_
  replace E_a := E_a.wr W3
  replace F_previous_a := F_previous_a.other W3 (Or.inr (slot_ne (Or.inr (wq hw 39 rfl)) (Or.inr (wq hw 41 rfl)) (by decide) (t := (.object "java/lang/String")) (t' := .long) (by decide) (by decide)))
  replace F_added_a := F_added_a.same W3
  replace F_modified_a := F_modified_a.other W3 (Or.inr (slot_ne (Or.inr (wq hw 43 rfl)) (Or.inr (wq hw 41 rfl)) (by decide) (t := .long) (t' := .long) (by decide) (by decide)))
  replace F_removed_a := F_removed_a.other W3 (Or.inr (slot_ne (Or.inr (wq hw 45 rfl)) (Or.inr (wq hw 41 rfl)) (by decide) (t := (.object "java/util/List")) (t' := .long) (by decide) (by decide)))
  replace F_unchanged_a := F_unchanged_a.other W3 (Or.inr (slot_ne (Or.inr (wq hw 47 rfl)) (Or.inr (wq hw 41 rfl)) (by decide) (t := .long) (t' := .long) (by decide) (by decide)))
  replace O0 : Ext Z.heap h3 := ext_wr O0 W3 ge_a
  replace N0 := Fr.snoc X3 N0 ge_a
  replace K0 : Keep h0 h3 [a] := K0.wr W3 (Or.inl (List.mem_of_getElem? (i := 0) rfl))
  refine OEnds.st (S' := T3.setTop (mkF m 17 #[vr a, .val pv, vj ad, .second, vj mo, .second, vr rm, vj un, .second] [(.long mo), (.ref a)])) (fun _ k => ?_) ?_
  · refine XS.aloadN X3.here hx rfl (hb hby d_prog_51_1_14) rfl rfl ?_
    refine XS.lload X3.here hx rfl (hb hby d_prog_51_1_15) rfl ?_
    exact k
  obtain ⟨T4, h4, X4, e4, W4, st4⟩ := putF X3 hx hZ hown (host := "") (Or.inl (wq hw 42 rfl)) Via.refl e3 F_modified_a E_a (Or.inr ⟨(wq hw 43 rfl), rfl, hnm⟩) (wq hw 27 rfl) (ty := .long) (by decide) rfl rfl (g := (mkF m 17 #[vr a, .val pv, vj ad, .second, vj mo, .second, vr rm, vj un, .second] [(.long mo), (.ref a)])) rfl rfl (hb hby d_prog_51_1_17)
  refine OEnds.st st4 ?_
  replace E_a := E_a.wr W4
  replace F_previous_a := F_previous_a.other W4 (Or.inr (slot_ne (Or.inr (wq hw 39 rfl)) (Or.inr (wq hw 43 rfl)) (by decide) (t := (.object "java/lang/String")) (t' := .long) (by decide) (by decide)))
  replace F_added_a := F_added_a.other W4 (Or.inr (slot_ne (Or.inr (wq hw 41 rfl)) (Or.inr (wq hw 43 rfl)) (by decide) (t := .long) (t' := .long) (by decide) (by decide)))
  replace F_modified_a := F_modified_a.same W4
  replace F_removed_a := F_removed_a.other W4 (Or.inr (slot_ne (Or.inr (wq hw 45 rfl)) (Or.inr (wq hw 43 rfl)) (by decide) (t := (.object "java/util/List")) (t' := .long) (by decide) (by decide)))
  replace F_unchanged_a := F_unchanged_a.other W4 (Or.inr (slot_ne (Or.inr (wq hw 47 rfl)) (Or.inr (wq hw 43 rfl)) (by decide) (t := .long) (t' := .long) (by decide) (by decide)))
  replace O0 : Ext Z.heap h4 := ext_wr O0 W4 ge_a
  replace N0 := Fr.snoc X4 N0 ge_a
  replace K0 : Keep h0 h4 [a] := K0.wr W4 (Or.inl (List.mem_of_getElem? (i := 0) rfl))
  refine OEnds.st (S' := T4.setTop (mkF m 23 #[vr a, .val pv, vj ad, .second, vj mo, .second, vr rm, vj un, .second] [(.ref rm), (.ref a)])) (fun _ k => ?_) ?_
  · refine XS.aloadN X4.here hx rfl (hb hby d_prog_51_1_20) rfl rfl ?_
    refine XS.aload X4.here hx rfl (hb hby d_prog_51_1_21) rfl rfl ?_
    exact k
  obtain ⟨T5, h5, X5, e5, W5, st5⟩ := putF X4 hx hZ hown (host := "") (Or.inl (wq hw 44 rfl)) Via.refl e4 F_removed_a E_a (Or.inr ⟨(wq hw 45 rfl), rfl, hnm⟩) (wq hw 27 rfl) (ty := (.object "java/util/List")) (by decide) rfl rfl (g := (mkF m 23 #[vr a, .val pv, vj ad, .second, vj mo, .second, vr rm, vj un, .second] [(.ref rm), (.ref a)])) rfl rfl (hb hby d_prog_51_1_23)
  refine OEnds.st st5 ?_
  replace E_a := E_a.wr W5
  replace F_previous_a := F_previous_a.other W5 (Or.inr (slot_ne (Or.inr (wq hw 39 rfl)) (Or.inr (wq hw 45 rfl)) (by decide) (t := (.object "java/lang/String")) (t' := (.object "java/util/List")) (by decide) (by decide)))
  replace F_added_a := F_added_a.other W5 (Or.inr (slot_ne (Or.inr (wq hw 41 rfl)) (Or.inr (wq hw 45 rfl)) (by decide) (t := .long) (t' := (.object "java/util/List")) (by decide) (by decide)))
  replace F_modified_a := F_modified_a.other W5 (Or.inr (slot_ne (Or.inr (wq hw 43 rfl)) (Or.inr (wq hw 45 rfl)) (by decide) (t := .long) (t' := (.object "java/util/List")) (by decide) (by decide)))
  replace F_removed_a := F_removed_a.same W5
  replace F_unchanged_a := F_unchanged_a.other W5 (Or.inr (slot_ne (Or.inr (wq hw 47 rfl)) (Or.inr (wq hw 45 rfl)) (by decide) (t := .long) (t' := (.object "java/util/List")) (by decide) (by decide)))
  replace O0 : Ext Z.heap h5 := ext_wr O0 W5 ge_a
  replace N0 := Fr.snoc X5 N0 ge_a
  replace K0 : Keep h0 h5 [a] := K0.wr W5 (Or.inl (List.mem_of_getElem? (i := 0) rfl))
  refine OEnds.st (S' := T5.setTop (mkF m 29 #[vr a, .val pv, vj ad, .second, vj mo, .second, vr rm, vj un, .second] [(.long un), (.ref a)])) (fun _ k => ?_) ?_
  · refine XS.aloadN X5.here hx rfl (hb hby d_prog_51_1_26) rfl rfl ?_
    refine XS.lload X5.here hx rfl (hb hby d_prog_51_1_27) rfl ?_
    exact k
  obtain ⟨T6, h6, X6, e6, W6, st6⟩ := putF X5 hx hZ hown (host := "") (Or.inl (wq hw 46 rfl)) Via.refl e5 F_unchanged_a E_a (Or.inr ⟨(wq hw 47 rfl), rfl, hnm⟩) (wq hw 27 rfl) (ty := .long) (by decide) rfl rfl (g := (mkF m 29 #[vr a, .val pv, vj ad, .second, vj mo, .second, vr rm, vj un, .second] [(.long un), (.ref a)])) rfl rfl (hb hby d_prog_51_1_29)
  refine OEnds.st st6 ?_
  replace E_a := E_a.wr W6
  replace F_previous_a := F_previous_a.other W6 (Or.inr (slot_ne (Or.inr (wq hw 39 rfl)) (Or.inr (wq hw 47 rfl)) (by decide) (t := (.object "java/lang/String")) (t' := .long) (by decide) (by decide)))
  replace F_added_a := F_added_a.other W6 (Or.inr (slot_ne (Or.inr (wq hw 41 rfl)) (Or.inr (wq hw 47 rfl)) (by decide) (t := .long) (t' := .long) (by decide) (by decide)))
  replace F_modified_a := F_modified_a.other W6 (Or.inr (slot_ne (Or.inr (wq hw 43 rfl)) (Or.inr (wq hw 47 rfl)) (by decide) (t := .long) (t' := .long) (by decide) (by decide)))
  replace F_removed_a := F_removed_a.other W6 (Or.inr (slot_ne (Or.inr (wq hw 45 rfl)) (Or.inr (wq hw 47 rfl)) (by decide) (t := (.object "java/util/List")) (t' := .long) (by decide) (by decide)))
  replace F_unchanged_a := F_unchanged_a.same W6
  replace O0 : Ext Z.heap h6 := ext_wr O0 W6 ge_a
  replace N0 := Fr.snoc X6 N0 ge_a
  replace K0 : Keep h0 h6 [a] := K0.wr W6 (Or.inl (List.mem_of_getElem? (i := 0) rfl))
  exact OEnds.retV X6 hx hret hlk (hb hby d_prog_51_1_32) (by decide) (by decide) (by rw [e6]; exact ⟨rfl, N0, K0, E_a, F_previous_a, F_added_a, F_modified_a, F_removed_a, F_unchanged_a⟩)
-- com/example/anteroom/anteroom/store/VersionChanges.isNone:()Z
def Q_isNone0 (Z : State) (a : Addr) (pv : Value) (ad mo : Int64) (rm : Addr) (h0 : Heap) (v : Option Value) (h : Heap) (L : List Loc) : Prop := ∃ r : Int32, v = some (.int r) ∧ ((r = 1 ∧ (¬ pv = .null ∧ lcmpW ad 0 = 0 ∧ lcmpW mo 0 = 0 ∧ True)) ∨ (r = 0 ∧ ¬ (¬ pv = .null ∧ lcmpW ad 0 = 0 ∧ lcmpW mo 0 = 0 ∧ True))) ∧ Fr Z.heap.size L ∧ h = h0
theorem ef_isNone0 (m : MethodId) (a : Addr) : entryFrame m #[(.ref a)] 1 = mkF m 0 #[vr a] [] := by first | (simp [entryFrame, mkF, argsToLocals, Value.category, vi, vj, vr]; done) | rfl
theorem d_prog_51_2_0 : decode prog_51_method_2_code 0 = .ok (.aload_n 0, 1) := by decide +kernel
theorem d_prog_51_2_1 : decode prog_51_method_2_code 1 = .ok (.getfield 7, 3) := by decide +kernel
theorem d_prog_51_2_4 : decode prog_51_method_2_code 4 = .ok (.ifnull 37, 3) := by decide +kernel
theorem d_prog_51_2_41 : decode prog_51_method_2_code 41 = .ok (.iconst 0, 1) := by decide +kernel
theorem d_prog_51_2_42 : decode prog_51_method_2_code 42 = .ok (.ireturn, 1) := by decide +kernel
theorem d_prog_51_2_7 : decode prog_51_method_2_code 7 = .ok (.aload_n 0, 1) := by decide +kernel
theorem d_prog_51_2_8 : decode prog_51_method_2_code 8 = .ok (.getfield 13, 3) := by decide +kernel
theorem d_prog_51_2_11 : decode prog_51_method_2_code 11 = .ok (.lconst 0, 1) := by decide +kernel
theorem d_prog_51_2_12 : decode prog_51_method_2_code 12 = .ok (.lcmp, 1) := by decide +kernel
theorem d_prog_51_2_13 : decode prog_51_method_2_code 13 = .ok (.ifCond .ne 28, 3) := by decide +kernel
theorem d_prog_51_2_16 : decode prog_51_method_2_code 16 = .ok (.aload_n 0, 1) := by decide +kernel
theorem d_prog_51_2_17 : decode prog_51_method_2_code 17 = .ok (.getfield 17, 3) := by decide +kernel
theorem d_prog_51_2_20 : decode prog_51_method_2_code 20 = .ok (.lconst 0, 1) := by decide +kernel
theorem d_prog_51_2_21 : decode prog_51_method_2_code 21 = .ok (.lcmp, 1) := by decide +kernel
theorem d_prog_51_2_22 : decode prog_51_method_2_code 22 = .ok (.ifCond .ne 19, 3) := by decide +kernel
theorem d_prog_51_2_25 : decode prog_51_method_2_code 25 = .ok (.aload_n 0, 1) := by decide +kernel
theorem d_prog_51_2_26 : decode prog_51_method_2_code 26 = .ok (.getfield 20, 3) := by decide +kernel
theorem d_prog_51_2_29 : decode prog_51_method_2_code 29 = .ok (.invokeinterface 27 1, 5) := by decide +kernel
theorem d_prog_51_2_34 : decode prog_51_method_2_code 34 = .ok (.ifCond .eq 7, 3) := by decide +kernel
theorem d_prog_51_2_37 : decode prog_51_method_2_code 37 = .ok (.iconst 1, 1) := by decide +kernel
theorem d_prog_51_2_38 : decode prog_51_method_2_code 38 = .ok (.goto 4, 3) := by decide +kernel
set_option maxRecDepth 65536 in
set_option maxHeartbeats 40000000 in
theorem rm_isNone0 (l : Launch) {Z : State} {a0 : Array Value} (hD : Wd Z a0) (a : Addr) (pv : Value) (ad mo : Int64) (rm : Addr) {h0 : Heap} (O0 : Ext Z.heap h0) (E_a : Exa Z h0 a "com/example/anteroom/anteroom/store/VersionChanges") (F_previous_a : Fld Z h0 a "com/example/anteroom/anteroom/store/VersionChanges" "previous" "Ljava/lang/String;" pv) (F_added_a : Fld Z h0 a "com/example/anteroom/anteroom/store/VersionChanges" "added" "J" (.long ad)) (F_modified_a : Fld Z h0 a "com/example/anteroom/anteroom/store/VersionChanges" "modified" "J" (.long mo)) (F_removed_a : Fld Z h0 a "com/example/anteroom/anteroom/store/VersionChanges" "removed" "Ljava/util/List;" (.ref rm)) (E_rm : Exa Z h0 rm "java/util/ArrayList") (F_size_rm : Fld Z h0 rm "java/util/ArrayList" "size" "I" (.int 0)) (hpv : pv.isRef = true) :
    Con l Z (⟨"com/example/anteroom/anteroom/store/VersionChanges", "isNone", "()Z"⟩ : MethodName) prog_51_method_2_code 1 (some .boolean) [] ({ frames := 1, cells := 0, slots := 0, locals := 12 } : Room) #[(.ref a)] h0 (Q_isNone0 Z a pv ad mo rm h0) := by
  refine Con.walk (plainFor_of_name pn_9) ?_
  intro p e s m below meth c T0 X0 hx hZ hby hml hown hnm hret hlk e0
  obtain ⟨hw, ⟨cz, S_CS, hcz⟩, ⟨sf, S_SF, hsf⟩, ⟨xde, xkde, S_DE, V_DE⟩⟩ := id hD
  have N0 := Fr.nil Z.heap.size
  refine OEnds.cast (ef_isNone0 m a) ?_
  refine OEnds.st (S' := T0.setTop (mkF m 1 #[vr a] [(.ref a)])) (fun _ k => ?_) ?_
  · refine XS.aloadN X0.here hx rfl (hb hby d_prog_51_2_0) rfl rfl ?_
    exact k
  obtain ⟨T1, X1, e1, st1⟩ := getF X0 hx hZ hown (host := "") (Or.inl (wq hw 38 rfl)) Via.refl e0 F_previous_a (g := (mkF m 1 #[vr a] [(.ref a)])) rfl rfl (hb hby d_prog_51_2_1)
  refine OEnds.st st1 ?_
  rcases Classical.em (pv = .null) with q0 | q0
  · refine OEnds.st (S' := T1.setTop (mkF m 42 #[vr a] [(.int 0)])) (fun _ k => ?_) ?_
    · refine Jvm.Free.XT.nullYes X1.here hx rfl (pc0 := 4) (pc' := 41) rfl (hb hby d_prog_51_2_4) rfl q0 (by decide) (by decide) ?_
      refine XS.iconst X1.here hx rfl (hb hby d_prog_51_2_41) ?_
      exact k
    exact OEnds.ret X1 hx hret hlk (by decide) (Or.inl ⟨rfl, by simp, _, rfl⟩) (hb hby d_prog_51_2_42) (by decide) (by decide) (by rw [e1]; exact ⟨_, rfl, Or.inr ⟨rfl, fun q => q.1 q0⟩, N0, rfl⟩)
  · refine OEnds.st (S' := T1.setTop (mkF m 8 #[vr a] [(.ref a)])) (fun _ k => ?_) ?_
    · refine Jvm.Free.XT.nullNo X1.here hx rfl (hb hby d_prog_51_2_4) rfl hpv q0 ?_
      refine XS.aloadN X1.here hx rfl (hb hby d_prog_51_2_7) rfl rfl ?_
      exact k
    obtain ⟨T2, X2, e2, st2⟩ := getF X1 hx hZ hown (host := "") (Or.inl (wq hw 40 rfl)) Via.refl e1 F_added_a (g := (mkF m 8 #[vr a] [(.ref a)])) rfl rfl (hb hby d_prog_51_2_8)
    refine OEnds.st st2 ?_
    refine OEnds.st (S' := T2.setTop (mkF m 13 #[vr a] [(.int (lcmpW ad (0 : Int64)))])) (fun _ k => ?_) ?_
    · refine XS.lconst X2.here hx rfl (hb hby d_prog_51_2_11) ?_
      refine XS.lcmp X2.here hx rfl (hb hby d_prog_51_2_12) rfl ?_
      exact k
    rcases Classical.em ((lcmpW ad (0 : Int64)) = (0 : Int32)) with q1 | q1
    · refine OEnds.st (S' := T2.setTop (mkF m 17 #[vr a] [(.ref a)])) (fun _ k => ?_) ?_
      · refine XS.ifNo X2.here hx rfl (hb hby d_prog_51_2_13) rfl ((if0 _ _).trans (teq q1).2) ?_
        refine XS.aloadN X2.here hx rfl (hb hby d_prog_51_2_16) rfl rfl ?_
        exact k
      obtain ⟨T3, X3, e3, st3⟩ := getF X2 hx hZ hown (host := "") (Or.inl (wq hw 42 rfl)) Via.refl e2 F_modified_a (g := (mkF m 17 #[vr a] [(.ref a)])) rfl rfl (hb hby d_prog_51_2_17)
      refine OEnds.st st3 ?_
      refine OEnds.st (S' := T3.setTop (mkF m 22 #[vr a] [(.int (lcmpW mo (0 : Int64)))])) (fun _ k => ?_) ?_
      · refine XS.lconst X3.here hx rfl (hb hby d_prog_51_2_20) ?_
        refine XS.lcmp X3.here hx rfl (hb hby d_prog_51_2_21) rfl ?_
        exact k
      rcases Classical.em ((lcmpW mo (0 : Int64)) = (0 : Int32)) with q2 | q2
      · refine OEnds.st (S' := T3.setTop (mkF m 26 #[vr a] [(.ref a)])) (fun _ k => ?_) ?_
        · refine XS.ifNo X3.here hx rfl (hb hby d_prog_51_2_22) rfl ((if0 _ _).trans (teq q2).2) ?_
          refine XS.aloadN X3.here hx rfl (hb hby d_prog_51_2_25) rfl rfl ?_
          exact k
        obtain ⟨T4, X4, e4, st4⟩ := getF X3 hx hZ hown (host := "") (Or.inl (wq hw 44 rfl)) Via.refl e3 F_removed_a (g := (mkF m 26 #[vr a] [(.ref a)])) rfl rfl (hb hby d_prog_51_2_26)
        refine OEnds.st st4 ?_
        obtain ⟨_, T5, h5, L5, X5, e5, hQ5, st5⟩ := faceC X4 hx hZ (xi := (⟨"java/util/List", "isEmpty", "()Z"⟩ : MethodName)) (y := (⟨"java/util/ArrayList", "isEmpty", "()Z"⟩ : MethodName)) hown (wq hw 230 rfl) (wq hw 231 rfl) (wq hw 232 rfl) (wq hw 233 rfl) (wq hw 234 rfl) (wq hw 235 rfl) (wq hw 236 rfl) (wq hw 204 rfl) (by decide) (kc := 0) (ks := 0) (Con.sb (W := 0) (rm_isEmp0 l hD rm O0 F_size_rm) hZ (wq hw 237 rfl) (wq hw 2 rfl) (by decide) (by decide)) e4 E_rm (g := (mkF m 29 #[vr a] [(.ref rm)])) rfl (by rw [hml]; rfl) (argsL := []) (rest := []) (lenOf pd_8 rfl) rfl (by show 2 * 0 + _ ≤ _; exact Nat.le_of_eq rfl) (hb hby d_prog_51_2_29) (by decide) (by decide)
        obtain ⟨rfl, Nq5, Hq5⟩ := hQ5
        refine OEnds.st st5 ?_
        replace N0 := Fr.app N0 Nq5
        replace e5 := e5.trans Hq5
        refine OEnds.st (S' := T5.setTop (mkF m 42 #[vr a] [(.int 1)])) (fun _ k => ?_) ?_
        · refine XS.ifNo X5.here hx rfl (hb hby d_prog_51_2_34) rfl ((if0 _ _).trans (feq (by decide)).1) ?_
          refine XS.iconst X5.here hx rfl (hb hby d_prog_51_2_37) ?_
          refine XS.goto X5.here hx rfl (pc0 := 38) (pc' := 42) rfl (hb hby d_prog_51_2_38) (by decide) (by decide) ?_
          exact k
        exact OEnds.ret X5 hx hret hlk (by decide) (Or.inl ⟨rfl, by simp, _, rfl⟩) (hb hby d_prog_51_2_42) (by decide) (by decide) (by rw [e5]; exact ⟨_, rfl, Or.inl ⟨rfl, q0, q1, q2, trivial⟩, N0, rfl⟩)
      · refine OEnds.st (S' := T3.setTop (mkF m 42 #[vr a] [(.int 0)])) (fun _ k => ?_) ?_
        · refine XS.ifYes X3.here hx rfl (pc0 := 22) (pc' := 41) rfl (hb hby d_prog_51_2_22) rfl ((if0 _ _).trans (feq q2).2) (by decide) (by decide) ?_
          refine XS.iconst X3.here hx rfl (hb hby d_prog_51_2_41) ?_
          exact k
        exact OEnds.ret X3 hx hret hlk (by decide) (Or.inl ⟨rfl, by simp, _, rfl⟩) (hb hby d_prog_51_2_42) (by decide) (by decide) (by rw [e3]; exact ⟨_, rfl, Or.inr ⟨rfl, fun q => q2 q.2.2.1⟩, N0, rfl⟩)
    · refine OEnds.st (S' := T2.setTop (mkF m 42 #[vr a] [(.int 0)])) (fun _ k => ?_) ?_
      · refine XS.ifYes X2.here hx rfl (pc0 := 13) (pc' := 41) rfl (hb hby d_prog_51_2_13) rfl ((if0 _ _).trans (feq q1).2) (by decide) (by decide) ?_
        refine XS.iconst X2.here hx rfl (hb hby d_prog_51_2_41) ?_
        exact k
      exact OEnds.ret X2 hx hret hlk (by decide) (Or.inl ⟨rfl, by simp, _, rfl⟩) (hb hby d_prog_51_2_42) (by decide) (by decide) (by rw [e2]; exact ⟨_, rfl, Or.inr ⟨rfl, fun q => q1 q.2.1⟩, N0, rfl⟩)
-- com/example/anteroom/anteroom/store/VersionChanges.isNone:()Z
def Q_isNone1 (Z : State) (a : Addr) (pv : Value) (ad mo : Int64) (rm : Addr) (h0 : Heap) (v : Option Value) (h : Heap) (L : List Loc) : Prop := ∃ r : Int32, v = some (.int r) ∧ ((r = 1 ∧ (¬ pv = .null ∧ lcmpW ad 0 = 0 ∧ lcmpW mo 0 = 0 ∧ False)) ∨ (r = 0 ∧ ¬ (¬ pv = .null ∧ lcmpW ad 0 = 0 ∧ lcmpW mo 0 = 0 ∧ False))) ∧ Fr Z.heap.size L ∧ h = h0
theorem ef_isNone1 (m : MethodId) (a : Addr) : entryFrame m #[(.ref a)] 1 = mkF m 0 #[vr a] [] := by first | (simp [entryFrame, mkF, argsToLocals, Value.category, vi, vj, vr]; done) | rfl
set_option maxRecDepth 65536 in
set_option maxHeartbeats 40000000 in
theorem rm_isNone1 (l : Launch) {Z : State} {a0 : Array Value} (hD : Wd Z a0) (a : Addr) (pv : Value) (ad mo : Int64) (rm : Addr) {h0 : Heap} (O0 : Ext Z.heap h0) (E_a : Exa Z h0 a "com/example/anteroom/anteroom/store/VersionChanges") (F_previous_a : Fld Z h0 a "com/example/anteroom/anteroom/store/VersionChanges" "previous" "Ljava/lang/String;" pv) (F_added_a : Fld Z h0 a "com/example/anteroom/anteroom/store/VersionChanges" "added" "J" (.long ad)) (F_modified_a : Fld Z h0 a "com/example/anteroom/anteroom/store/VersionChanges" "modified" "J" (.long mo)) (F_removed_a : Fld Z h0 a "com/example/anteroom/anteroom/store/VersionChanges" "removed" "Ljava/util/List;" (.ref rm)) (E_rm : Exa Z h0 rm "java/util/ArrayList") (F_size_rm : Fld Z h0 rm "java/util/ArrayList" "size" "I" (.int 1)) (hpv : pv.isRef = true) :
    Con l Z (⟨"com/example/anteroom/anteroom/store/VersionChanges", "isNone", "()Z"⟩ : MethodName) prog_51_method_2_code 1 (some .boolean) [] ({ frames := 1, cells := 0, slots := 0, locals := 12 } : Room) #[(.ref a)] h0 (Q_isNone1 Z a pv ad mo rm h0) := by
  refine Con.walk (plainFor_of_name pn_9) ?_
  intro p e s m below meth c T0 X0 hx hZ hby hml hown hnm hret hlk e0
  obtain ⟨hw, ⟨cz, S_CS, hcz⟩, ⟨sf, S_SF, hsf⟩, ⟨xde, xkde, S_DE, V_DE⟩⟩ := id hD
  have N0 := Fr.nil Z.heap.size
  refine OEnds.cast (ef_isNone1 m a) ?_
  refine OEnds.st (S' := T0.setTop (mkF m 1 #[vr a] [(.ref a)])) (fun _ k => ?_) ?_
  · refine XS.aloadN X0.here hx rfl (hb hby d_prog_51_2_0) rfl rfl ?_
    exact k
  obtain ⟨T1, X1, e1, st1⟩ := getF X0 hx hZ hown (host := "") (Or.inl (wq hw 38 rfl)) Via.refl e0 F_previous_a (g := (mkF m 1 #[vr a] [(.ref a)])) rfl rfl (hb hby d_prog_51_2_1)
  refine OEnds.st st1 ?_
  rcases Classical.em (pv = .null) with q0 | q0
  · refine OEnds.st (S' := T1.setTop (mkF m 42 #[vr a] [(.int 0)])) (fun _ k => ?_) ?_
    · refine Jvm.Free.XT.nullYes X1.here hx rfl (pc0 := 4) (pc' := 41) rfl (hb hby d_prog_51_2_4) rfl q0 (by decide) (by decide) ?_
      refine XS.iconst X1.here hx rfl (hb hby d_prog_51_2_41) ?_
      exact k
    exact OEnds.ret X1 hx hret hlk (by decide) (Or.inl ⟨rfl, by simp, _, rfl⟩) (hb hby d_prog_51_2_42) (by decide) (by decide) (by rw [e1]; exact ⟨_, rfl, Or.inr ⟨rfl, fun q => q.1 q0⟩, N0, rfl⟩)
  · refine OEnds.st (S' := T1.setTop (mkF m 8 #[vr a] [(.ref a)])) (fun _ k => ?_) ?_
    · refine Jvm.Free.XT.nullNo X1.here hx rfl (hb hby d_prog_51_2_4) rfl hpv q0 ?_
      refine XS.aloadN X1.here hx rfl (hb hby d_prog_51_2_7) rfl rfl ?_
      exact k
    obtain ⟨T2, X2, e2, st2⟩ := getF X1 hx hZ hown (host := "") (Or.inl (wq hw 40 rfl)) Via.refl e1 F_added_a (g := (mkF m 8 #[vr a] [(.ref a)])) rfl rfl (hb hby d_prog_51_2_8)
    refine OEnds.st st2 ?_
    refine OEnds.st (S' := T2.setTop (mkF m 13 #[vr a] [(.int (lcmpW ad (0 : Int64)))])) (fun _ k => ?_) ?_
    · refine XS.lconst X2.here hx rfl (hb hby d_prog_51_2_11) ?_
      refine XS.lcmp X2.here hx rfl (hb hby d_prog_51_2_12) rfl ?_
      exact k
    rcases Classical.em ((lcmpW ad (0 : Int64)) = (0 : Int32)) with q1 | q1
    · refine OEnds.st (S' := T2.setTop (mkF m 17 #[vr a] [(.ref a)])) (fun _ k => ?_) ?_
      · refine XS.ifNo X2.here hx rfl (hb hby d_prog_51_2_13) rfl ((if0 _ _).trans (teq q1).2) ?_
        refine XS.aloadN X2.here hx rfl (hb hby d_prog_51_2_16) rfl rfl ?_
        exact k
      obtain ⟨T3, X3, e3, st3⟩ := getF X2 hx hZ hown (host := "") (Or.inl (wq hw 42 rfl)) Via.refl e2 F_modified_a (g := (mkF m 17 #[vr a] [(.ref a)])) rfl rfl (hb hby d_prog_51_2_17)
      refine OEnds.st st3 ?_
      refine OEnds.st (S' := T3.setTop (mkF m 22 #[vr a] [(.int (lcmpW mo (0 : Int64)))])) (fun _ k => ?_) ?_
      · refine XS.lconst X3.here hx rfl (hb hby d_prog_51_2_20) ?_
        refine XS.lcmp X3.here hx rfl (hb hby d_prog_51_2_21) rfl ?_
        exact k
      rcases Classical.em ((lcmpW mo (0 : Int64)) = (0 : Int32)) with q2 | q2
      · refine OEnds.st (S' := T3.setTop (mkF m 26 #[vr a] [(.ref a)])) (fun _ k => ?_) ?_
        · refine XS.ifNo X3.here hx rfl (hb hby d_prog_51_2_22) rfl ((if0 _ _).trans (teq q2).2) ?_
          refine XS.aloadN X3.here hx rfl (hb hby d_prog_51_2_25) rfl rfl ?_
          exact k
        obtain ⟨T4, X4, e4, st4⟩ := getF X3 hx hZ hown (host := "") (Or.inl (wq hw 44 rfl)) Via.refl e3 F_removed_a (g := (mkF m 26 #[vr a] [(.ref a)])) rfl rfl (hb hby d_prog_51_2_26)
        refine OEnds.st st4 ?_
        obtain ⟨_, T5, h5, L5, X5, e5, hQ5, st5⟩ := faceC X4 hx hZ (xi := (⟨"java/util/List", "isEmpty", "()Z"⟩ : MethodName)) (y := (⟨"java/util/ArrayList", "isEmpty", "()Z"⟩ : MethodName)) hown (wq hw 230 rfl) (wq hw 231 rfl) (wq hw 232 rfl) (wq hw 233 rfl) (wq hw 234 rfl) (wq hw 235 rfl) (wq hw 236 rfl) (wq hw 204 rfl) (by decide) (kc := 0) (ks := 0) (Con.sb (W := 0) (rm_isEmp1 l hD rm O0 F_size_rm) hZ (wq hw 237 rfl) (wq hw 2 rfl) (by decide) (by decide)) e4 E_rm (g := (mkF m 29 #[vr a] [(.ref rm)])) rfl (by rw [hml]; rfl) (argsL := []) (rest := []) (lenOf pd_8 rfl) rfl (by show 2 * 0 + _ ≤ _; exact Nat.le_of_eq rfl) (hb hby d_prog_51_2_29) (by decide) (by decide)
        obtain ⟨rfl, Nq5, Hq5⟩ := hQ5
        refine OEnds.st st5 ?_
        replace N0 := Fr.app N0 Nq5
        replace e5 := e5.trans Hq5
        refine OEnds.st (S' := T5.setTop (mkF m 42 #[vr a] [(.int 0)])) (fun _ k => ?_) ?_
        · refine XS.ifYes X5.here hx rfl (pc0 := 34) (pc' := 41) rfl (hb hby d_prog_51_2_34) rfl ((if0 _ _).trans (teq (by decide)).1) (by decide) (by decide) ?_
          refine XS.iconst X5.here hx rfl (hb hby d_prog_51_2_41) ?_
          exact k
        exact OEnds.ret X5 hx hret hlk (by decide) (Or.inl ⟨rfl, by simp, _, rfl⟩) (hb hby d_prog_51_2_42) (by decide) (by decide) (by rw [e5]; exact ⟨_, rfl, Or.inr ⟨rfl, fun q => q.2.2.2⟩, N0, rfl⟩)
      · refine OEnds.st (S' := T3.setTop (mkF m 42 #[vr a] [(.int 0)])) (fun _ k => ?_) ?_
        · refine XS.ifYes X3.here hx rfl (pc0 := 22) (pc' := 41) rfl (hb hby d_prog_51_2_22) rfl ((if0 _ _).trans (feq q2).2) (by decide) (by decide) ?_
          refine XS.iconst X3.here hx rfl (hb hby d_prog_51_2_41) ?_
          exact k
        exact OEnds.ret X3 hx hret hlk (by decide) (Or.inl ⟨rfl, by simp, _, rfl⟩) (hb hby d_prog_51_2_42) (by decide) (by decide) (by rw [e3]; exact ⟨_, rfl, Or.inr ⟨rfl, fun q => q2 q.2.2.1⟩, N0, rfl⟩)
    · refine OEnds.st (S' := T2.setTop (mkF m 42 #[vr a] [(.int 0)])) (fun _ k => ?_) ?_
      · refine XS.ifYes X2.here hx rfl (pc0 := 13) (pc' := 41) rfl (hb hby d_prog_51_2_13) rfl ((if0 _ _).trans (feq q1).2) (by decide) (by decide) ?_
        refine XS.iconst X2.here hx rfl (hb hby d_prog_51_2_41) ?_
        exact k
      exact OEnds.ret X2 hx hret hlk (by decide) (Or.inl ⟨rfl, by simp, _, rfl⟩) (hb hby d_prog_51_2_42) (by decide) (by decide) (by rw [e2]; exact ⟨_, rfl, Or.inr ⟨rfl, fun q => q1 q.2.1⟩, N0, rfl⟩)
def Q_law (Z : State) (v : Option Value) (h : Heap) (L : List Loc) : Prop := v = some (.int 1) ∧ Fr Z.heap.size L
-- com/example/anteroom/anteroom/store/VersionChangesIsNonePinLaw.law:(IJJJI)Z
theorem ef_law (m : MethodId) (p0 : Int32) (p1 : Int64) (p2 : Int64) (p3 : Int64) (p4 : Int32) : entryFrame m #[(.int p0), (.long p1), (.long p2), (.long p3), (.int p4)] maxLocals = mkF m 0 #[vi p0, vj p1, .second, vj p2, .second, vj p3, .second, vi p4, .unset, .unset, .unset, .unset, .unset, .unset, .unset, .unset, .unset, .unset] [] := by first | (simp [entryFrame, mkF, argsToLocals, Value.category, vi, vj, vr, maxLocals]; done) | rfl
theorem pn_10 : plainName "com/example/anteroom/anteroom/store/VersionChangesIsNonePinLaw" = true := by first | (simp [plainName, overriddenIn]; done) | decide +kernel
theorem pd_21 : parseMethodDescriptor "(Ljava/lang/String;JJLjava/util/List;J)V" = some ⟨[(.object "java/lang/String"), .long, .long, (.object "java/util/List"), .long], none⟩ := by decide +kernel
theorem pd_22 : parseMethodDescriptor "(Ljava/lang/String;)V" = some ⟨[(.object "java/lang/String")], none⟩ := by decide +kernel
theorem pd_23 : parseMethodDescriptor "([C)V" = some ⟨[(.array .char)], none⟩ := by decide +kernel
set_option maxRecDepth 65536 in
set_option maxHeartbeats 40000000 in
theorem rm_law (l : Launch) {Z : State} {a0 : Array Value} (hD : Wd Z a0) (p0 : Int32) (p1 : Int64) (p2 : Int64) (p3 : Int64) (p4 : Int32) {h0 : Heap} (O0 : Ext Z.heap h0) :
    ConH l Z EL x code maxLocals ret tables_1 room_1 #[(.int p0), (.long p1), (.long p2), (.long p3), (.int p4)] h0 [] (Q_law Z) := by
  refine ConH.walk (plainFor_of_name pn_10) ?_
  intro p e s vm0 k0 m below meth c T0 X0 hS0 hk0 hx hZ hby hml hown hnm hret hlk e0 A0 hss
  obtain ⟨hw, ⟨cz, S_CS, hcz⟩, ⟨sf, S_SF, hsf⟩, ⟨xde, xkde, S_DE, V_DE⟩⟩ := id hD
  have N0 := Fr.nil Z.heap.size
  have hEL : EW Z a0 EL := el_of hw
  have hsa : ∀ a ∈ Bundle.stringAtoms, a.before a0 Z = true := fun d hd => hw d (words_sa d hd)
  refine OEndsH.cast (ef_law m p0 p1 p2 p3 p4) ?_
  have hws : ∀ d ∈ StrChars.Road.words, d.before a0 Z = true := fun d hd => hw d (words_new d hd)
  refine OEndsH.st (S' := T0.setTop (mkF m 3 #[vi p0, vj p1, .second, vj p2, .second, vj p3, .second, vi p4, .unset, .unset, .unset, .unset, .unset, .unset, .unset, .unset, .unset, .unset] [(.int (p0 &&& (1 : Int32)))])) (fun _ k => ?_) ?_
  · refine XS.iloadN X0.here hx rfl (hb hby at_0) rfl ?_
    refine XS.iconst X0.here hx rfl (hb hby at_1) ?_
    refine XS.iand X0.here hx rfl (hb hby at_2) rfl ?_
    exact k
  obtain ⟨_, ⟨y1, T1, lc1, hy1, X1, e1, N1, rfl⟩, st1⟩ : OJ p e below (fun S' => ∃ (y1 : Int32) (T' : State) (lc : List Loc), (y1 = 0 ∨ y1 = 1) ∧ Stand p l e room_1 (s.setVm vm0) m #[(.int p0), (.long p1), (.long p2), (.long p3), (.int p4)] below meth c T' lc 0 0 ∧ T'.heap = h0 ∧ Fr Z.heap.size lc ∧ S' = T'.setTop (mkF m 11 #[vi p0, vj p1, .second, vj p2, .second, vj p3, .second, vi p4, .unset, .unset, .unset, .unset, .unset, .unset, .unset, .unset, .unset, .unset] [(.int y1)])) (T0.setTop (mkF m 3 #[vi p0, vj p1, .second, vj p2, .second, vj p3, .second, vi p4, .unset, .unset, .unset, .unset, .unset, .unset, .unset, .unset, .unset, .unset] [(.int (p0 &&& (1 : Int32)))])) := by
    rcases Classical.em ((p0 &&& (1 : Int32)) = (0 : Int32)) with hq | hq
    · refine OJ.st (S' := T0.setTop (mkF m 11 #[vi p0, vj p1, .second, vj p2, .second, vj p3, .second, vi p4, .unset, .unset, .unset, .unset, .unset, .unset, .unset, .unset, .unset, .unset] [(.int 0)])) (fun _ k => ?_) ?_
      · refine XS.ifYes X0.here hx rfl (pc0 := 3) (pc' := 10) rfl (hb hby at_3) rfl ((if0 _ _).trans (teq hq).1) (by decide) (by decide) ?_
        refine XS.iconst X0.here hx rfl (hb hby at_10) ?_
        exact k
      exact OJ.here ⟨(0 : Int32), T0, _, Or.inl rfl, X0, e0, N0, rfl⟩
    · refine OJ.st (S' := T0.setTop (mkF m 11 #[vi p0, vj p1, .second, vj p2, .second, vj p3, .second, vi p4, .unset, .unset, .unset, .unset, .unset, .unset, .unset, .unset, .unset, .unset] [(.int 1)])) (fun _ k => ?_) ?_
      · refine XS.ifNo X0.here hx rfl (hb hby at_3) rfl ((if0 _ _).trans (feq hq).1) ?_
        refine XS.iconst X0.here hx rfl (hb hby at_6) ?_
        refine XS.goto X0.here hx rfl (pc0 := 7) (pc' := 11) rfl (hb hby at_7) (by decide) (by decide) ?_
        exact k
      exact OJ.here ⟨(1 : Int32), T0, _, Or.inr rfl, X0, e0, N0, rfl⟩
  refine OEndsH.st st1 ?_
  refine OEndsH.st (S' := T1.setTop (mkF m 13 #[vi p0, vj p1, .second, vj p2, .second, vj p3, .second, vi p4, vi y1, .unset, .unset, .unset, .unset, .unset, .unset, .unset, .unset, .unset] [])) (fun _ k => ?_) ?_
  · refine XS.istore X1.here hx rfl (hb hby at_11) rfl (l' := #[vi p0, vj p1, .second, vj p2, .second, vj p3, .second, vi p4, vi y1, .unset, .unset, .unset, .unset, .unset, .unset, .unset, .unset, .unset]) rfl ?_
    exact k
  refine OEndsH.st (S' := T1.setTop (mkF m 16 #[vi p0, vj p1, .second, vj p2, .second, vj p3, .second, vi p4, vi y1, .unset, .unset, .unset, .unset, .unset, .unset, .unset, .unset, .unset] [(.int (p0 &&& (2 : Int32)))])) (fun _ k => ?_) ?_
  · refine XS.iloadN X1.here hx rfl (hb hby at_13) rfl ?_
    refine XS.iconst X1.here hx rfl (hb hby at_14) ?_
    refine XS.iand X1.here hx rfl (hb hby at_15) rfl ?_
    exact k
  obtain ⟨_, ⟨y2, T2, lc2, hy2, X2, e2, N2, rfl⟩, st2⟩ : OJ p e below (fun S' => ∃ (y2 : Int32) (T' : State) (lc : List Loc), (y2 = 0 ∨ y2 = 1) ∧ Stand p l e room_1 (s.setVm vm0) m #[(.int p0), (.long p1), (.long p2), (.long p3), (.int p4)] below meth c T' lc 0 0 ∧ T'.heap = h0 ∧ Fr Z.heap.size lc ∧ S' = T'.setTop (mkF m 24 #[vi p0, vj p1, .second, vj p2, .second, vj p3, .second, vi p4, vi y1, .unset, .unset, .unset, .unset, .unset, .unset, .unset, .unset, .unset] [(.int y2)])) (T1.setTop (mkF m 16 #[vi p0, vj p1, .second, vj p2, .second, vj p3, .second, vi p4, vi y1, .unset, .unset, .unset, .unset, .unset, .unset, .unset, .unset, .unset] [(.int (p0 &&& (2 : Int32)))])) := by
    rcases Classical.em ((p0 &&& (2 : Int32)) = (0 : Int32)) with hq | hq
    · refine OJ.st (S' := T1.setTop (mkF m 24 #[vi p0, vj p1, .second, vj p2, .second, vj p3, .second, vi p4, vi y1, .unset, .unset, .unset, .unset, .unset, .unset, .unset, .unset, .unset] [(.int 0)])) (fun _ k => ?_) ?_
      · refine XS.ifYes X1.here hx rfl (pc0 := 16) (pc' := 23) rfl (hb hby at_16) rfl ((if0 _ _).trans (teq hq).1) (by decide) (by decide) ?_
        refine XS.iconst X1.here hx rfl (hb hby at_23) ?_
        exact k
      exact OJ.here ⟨(0 : Int32), T1, _, Or.inl rfl, X1, e1, N1, rfl⟩
    · refine OJ.st (S' := T1.setTop (mkF m 24 #[vi p0, vj p1, .second, vj p2, .second, vj p3, .second, vi p4, vi y1, .unset, .unset, .unset, .unset, .unset, .unset, .unset, .unset, .unset] [(.int 1)])) (fun _ k => ?_) ?_
      · refine XS.ifNo X1.here hx rfl (hb hby at_16) rfl ((if0 _ _).trans (feq hq).1) ?_
        refine XS.iconst X1.here hx rfl (hb hby at_19) ?_
        refine XS.goto X1.here hx rfl (pc0 := 20) (pc' := 24) rfl (hb hby at_20) (by decide) (by decide) ?_
        exact k
      exact OJ.here ⟨(1 : Int32), T1, _, Or.inr rfl, X1, e1, N1, rfl⟩
  refine OEndsH.st st2 ?_
  refine OEndsH.st (S' := T2.setTop (mkF m 26 #[vi p0, vj p1, .second, vj p2, .second, vj p3, .second, vi p4, vi y1, vi y2, .unset, .unset, .unset, .unset, .unset, .unset, .unset, .unset] [])) (fun _ k => ?_) ?_
  · refine XS.istore X2.here hx rfl (hb hby at_24) rfl (l' := #[vi p0, vj p1, .second, vj p2, .second, vj p3, .second, vi p4, vi y1, vi y2, .unset, .unset, .unset, .unset, .unset, .unset, .unset, .unset]) rfl ?_
    exact k
  refine OEndsH.st (S' := T2.setTop (mkF m 29 #[vi p0, vj p1, .second, vj p2, .second, vj p3, .second, vi p4, vi y1, vi y2, .unset, .unset, .unset, .unset, .unset, .unset, .unset, .unset] [(.int (p0 &&& (4 : Int32)))])) (fun _ k => ?_) ?_
  · refine XS.iloadN X2.here hx rfl (hb hby at_26) rfl ?_
    refine XS.iconst X2.here hx rfl (hb hby at_27) ?_
    refine XS.iand X2.here hx rfl (hb hby at_28) rfl ?_
    exact k
  obtain ⟨_, ⟨y3, T3, lc3, hy3, X3, e3, N3, rfl⟩, st3⟩ : OJ p e below (fun S' => ∃ (y3 : Int64) (T' : State) (lc : List Loc), (True) ∧ Stand p l e room_1 (s.setVm vm0) m #[(.int p0), (.long p1), (.long p2), (.long p3), (.int p4)] below meth c T' lc 0 0 ∧ T'.heap = h0 ∧ Fr Z.heap.size lc ∧ S' = T'.setTop (mkF m 37 #[vi p0, vj p1, .second, vj p2, .second, vj p3, .second, vi p4, vi y1, vi y2, .unset, .unset, .unset, .unset, .unset, .unset, .unset, .unset] [(.long y3)])) (T2.setTop (mkF m 29 #[vi p0, vj p1, .second, vj p2, .second, vj p3, .second, vi p4, vi y1, vi y2, .unset, .unset, .unset, .unset, .unset, .unset, .unset, .unset] [(.int (p0 &&& (4 : Int32)))])) := by
    rcases Classical.em ((p0 &&& (4 : Int32)) = (0 : Int32)) with hq | hq
    · refine OJ.st (S' := T2.setTop (mkF m 37 #[vi p0, vj p1, .second, vj p2, .second, vj p3, .second, vi p4, vi y1, vi y2, .unset, .unset, .unset, .unset, .unset, .unset, .unset, .unset] [(.long p1)])) (fun _ k => ?_) ?_
      · refine XS.ifYes X2.here hx rfl (pc0 := 29) (pc' := 36) rfl (hb hby at_29) rfl ((if0 _ _).trans (teq hq).1) (by decide) (by decide) ?_
        refine XS.lloadN X2.here hx rfl (hb hby at_36) rfl ?_
        exact k
      exact OJ.here ⟨p1, T2, _, trivial, X2, e2, N2, rfl⟩
    · refine OJ.st (S' := T2.setTop (mkF m 37 #[vi p0, vj p1, .second, vj p2, .second, vj p3, .second, vi p4, vi y1, vi y2, .unset, .unset, .unset, .unset, .unset, .unset, .unset, .unset] [(.long 0)])) (fun _ k => ?_) ?_
      · refine XS.ifNo X2.here hx rfl (hb hby at_29) rfl ((if0 _ _).trans (feq hq).1) ?_
        refine XS.lconst X2.here hx rfl (hb hby at_32) ?_
        refine XS.goto X2.here hx rfl (pc0 := 33) (pc' := 37) rfl (hb hby at_33) (by decide) (by decide) ?_
        exact k
      exact OJ.here ⟨(0 : Int64), T2, _, trivial, X2, e2, N2, rfl⟩
  refine OEndsH.st st3 ?_
  refine OEndsH.st (S' := T3.setTop (mkF m 39 #[vi p0, vj p1, .second, vj p2, .second, vj p3, .second, vi p4, vi y1, vi y2, vj y3, .second, .unset, .unset, .unset, .unset, .unset, .unset] [])) (fun _ k => ?_) ?_
  · refine XS.lstore X3.here hx rfl (hb hby at_37) rfl (l' := #[vi p0, vj p1, .second, vj p2, .second, vj p3, .second, vi p4, vi y1, vi y2, vj y3, .second, .unset, .unset, .unset, .unset, .unset, .unset]) rfl ?_
    exact k
  refine OEndsH.st (S' := T3.setTop (mkF m 43 #[vi p0, vj p1, .second, vj p2, .second, vj p3, .second, vi p4, vi y1, vi y2, vj y3, .second, .unset, .unset, .unset, .unset, .unset, .unset] [(.int (p0 &&& (8 : Int32)))])) (fun _ k => ?_) ?_
  · refine XS.iloadN X3.here hx rfl (hb hby at_39) rfl ?_
    refine XS.bipush X3.here hx rfl (hb hby at_40) ?_
    refine XS.iand X3.here hx rfl (hb hby at_42) rfl ?_
    exact k
  obtain ⟨_, ⟨y4, T4, lc4, hy4, X4, e4, N4, rfl⟩, st4⟩ : OJ p e below (fun S' => ∃ (y4 : Int64) (T' : State) (lc : List Loc), (True) ∧ Stand p l e room_1 (s.setVm vm0) m #[(.int p0), (.long p1), (.long p2), (.long p3), (.int p4)] below meth c T' lc 0 0 ∧ T'.heap = h0 ∧ Fr Z.heap.size lc ∧ S' = T'.setTop (mkF m 51 #[vi p0, vj p1, .second, vj p2, .second, vj p3, .second, vi p4, vi y1, vi y2, vj y3, .second, .unset, .unset, .unset, .unset, .unset, .unset] [(.long y4)])) (T3.setTop (mkF m 43 #[vi p0, vj p1, .second, vj p2, .second, vj p3, .second, vi p4, vi y1, vi y2, vj y3, .second, .unset, .unset, .unset, .unset, .unset, .unset] [(.int (p0 &&& (8 : Int32)))])) := by
    rcases Classical.em ((p0 &&& (8 : Int32)) = (0 : Int32)) with hq | hq
    · refine OJ.st (S' := T3.setTop (mkF m 51 #[vi p0, vj p1, .second, vj p2, .second, vj p3, .second, vi p4, vi y1, vi y2, vj y3, .second, .unset, .unset, .unset, .unset, .unset, .unset] [(.long p2)])) (fun _ k => ?_) ?_
      · refine XS.ifYes X3.here hx rfl (pc0 := 43) (pc' := 50) rfl (hb hby at_43) rfl ((if0 _ _).trans (teq hq).1) (by decide) (by decide) ?_
        refine XS.lloadN X3.here hx rfl (hb hby at_50) rfl ?_
        exact k
      exact OJ.here ⟨p2, T3, _, trivial, X3, e3, N3, rfl⟩
    · refine OJ.st (S' := T3.setTop (mkF m 51 #[vi p0, vj p1, .second, vj p2, .second, vj p3, .second, vi p4, vi y1, vi y2, vj y3, .second, .unset, .unset, .unset, .unset, .unset, .unset] [(.long 0)])) (fun _ k => ?_) ?_
      · refine XS.ifNo X3.here hx rfl (hb hby at_43) rfl ((if0 _ _).trans (feq hq).1) ?_
        refine XS.lconst X3.here hx rfl (hb hby at_46) ?_
        refine XS.goto X3.here hx rfl (pc0 := 47) (pc' := 51) rfl (hb hby at_47) (by decide) (by decide) ?_
        exact k
      exact OJ.here ⟨(0 : Int64), T3, _, trivial, X3, e3, N3, rfl⟩
  refine OEndsH.st st4 ?_
  refine OEndsH.st (S' := T4.setTop (mkF m 53 #[vi p0, vj p1, .second, vj p2, .second, vj p3, .second, vi p4, vi y1, vi y2, vj y3, .second, vj y4, .second, .unset, .unset, .unset, .unset] [])) (fun _ k => ?_) ?_
  · refine XS.lstore X4.here hx rfl (hb hby at_51) rfl (l' := #[vi p0, vj p1, .second, vj p2, .second, vj p3, .second, vi p4, vi y1, vi y2, vj y3, .second, vj y4, .second, .unset, .unset, .unset, .unset]) rfl ?_
    exact k
  refine OEndsH.st (S' := T4.setTop (mkF m 56 #[vi p0, vj p1, .second, vj p2, .second, vj p3, .second, vi p4, vi y1, vi y2, vj y3, .second, vj y4, .second, .val .null, .unset, .unset, .unset] [])) (fun _ k => ?_) ?_
  · refine XS.aconstNull X4.here hx rfl (hb hby at_53) ?_
    refine XS.astore X4.here hx rfl (hb hby at_54) rfl rfl (l' := #[vi p0, vj p1, .second, vj p2, .second, vj p3, .second, vi p4, vi y1, vi y2, vj y3, .second, vj y4, .second, .val .null, .unset, .unset, .unset]) rfl ?_
    exact k
  rcases hy1 with rfl | rfl
  · refine OEndsH.st (S' := T4.setTop (mkF m 102 #[vi p0, vj p1, .second, vj p2, .second, vj p3, .second, vi p4, vi 0, vi y2, vj y3, .second, vj y4, .second, .val .null, .unset, .unset, .unset] [])) (fun _ k => ?_) ?_
    · refine XS.iload X4.here hx rfl (hb hby at_56) rfl ?_
      refine XS.ifYes X4.here hx rfl (pc0 := 58) (pc' := 102) rfl (hb hby at_58) rfl ((if0 _ _).trans (teq (by decide)).1) (by decide) (by decide) ?_
      exact k
    obtain ⟨T5, h5, X5, e5, E5, A5, D5, U5, st5⟩ := newO X4 hx hZ hown (wq hw 0 rfl) (wq hw 1 rfl) (wq hw 2 rfl) e4 (g := (mkF m 102 #[vi p0, vj p1, .second, vj p2, .second, vj p3, .second, vi p4, vi 0, vi y2, vj y3, .second, vj y4, .second, .val .null, .unset, .unset, .unset] [])) rfl (hb hby at_102) (by decide) (by decide)
    obtain ⟨b5, g5⟩ : ∃ z, z = h0.size := ⟨_, rfl⟩
    rw [← g5] at A5 D5 U5 st5
    refine OEndsH.st st5 ?_
    have ge_b5 : Z.heap.size ≤ b5 := Nat.le_trans O0.1 (Nat.le_of_eq g5.symm)
    have S_b5 : Safe Z EL vm0 h0 b5 := Safe.new (Nat.le_of_eq g5.symm)
    have S_b5' : Safe Z EL vm0 h5 b5 := Safe.ext E5 A0.1 S_b5
    have A' : CHr Z EL s.vm s.heap vm0 h5 := A0.trans (CHr.ext E5 A0.1)
    replace S_b5 := S_b5'
    replace A0 := A'
    replace hk0 := Nat.le_trans hk0 E5.1
    replace O0 : Ext Z.heap h5 := ext_trans O0 E5
    have F_modCount_b5 : Fld Z h5 b5 "java/util/AbstractList" "modCount" "I" (.int 0) := D5 (Or.inl (wq hw 22 rfl)) (ty := .int) (by decide)
    have F_elementData_b5 : Fld Z h5 b5 "java/util/ArrayList" "elementData" "[Ljava/lang/Object;" .null := D5 (Or.inl (wq hw 25 rfl)) (ty := (.array (.object "java/lang/Object"))) (by decide)
    have F_size_b5 : Fld Z h5 b5 "java/util/ArrayList" "size" "I" (.int 0) := D5 (Or.inl (wq hw 209 rfl)) (ty := .int) (by decide)
    refine OEndsH.st (S' := T5.setTop (mkF m 106 #[vi p0, vj p1, .second, vj p2, .second, vj p3, .second, vi p4, vi 0, vi y2, vj y3, .second, vj y4, .second, .val .null, .unset, .unset, .unset] [(.ref b5), (.ref b5)])) (fun _ k => ?_) ?_
    · refine XS.dup X5.here hx rfl (hb hby at_105) rfl rfl ?_
      exact k
    obtain ⟨_, T6, h6, L6, X6, e6, hQ6, st6⟩ := specC X5 hx hZ rfl hown (wq hw 3 rfl) (wq hw 4 rfl) (wq hw 5 rfl) (by decide) (kc := 0) (ks := 0) (Con.sb (W := 1) (rm_alInit l hD b5 xde O0 A5 F_elementData_b5 F_size_b5 F_modCount_b5 ge_b5 S_DE) hZ (wq hw 5 rfl) (wq hw 2 rfl) (by decide) (by decide)) e5 (a := b5) (g := (mkF m 106 #[vi p0, vj p1, .second, vj p2, .second, vj p3, .second, vi p4, vi 0, vi y2, vj y3, .second, vj y4, .second, .val .null, .unset, .unset, .unset] [(.ref b5), (.ref b5)])) rfl (by rw [hml]; rfl) (argsL := []) (rest := [(.ref b5)]) (lenOf pd_1 rfl) rfl (by show 2 * 0 + _ ≤ _; exact Nat.le_of_eq rfl) (hb hby at_106) (by decide) (by decide)
    obtain ⟨rfl, Nq6, Kq6, Eq6, Fe6, Fs6, Fm6⟩ := hQ6
    refine OEndsH.st st6 ?_
    replace N4 := Fr.app N4 Nq6
    replace A5 := A5.keep Kq6
    have S_b5' : Safe Z EL vm0 h6 b5 := Safe.keep Kq6 (sfS S_b5 sf0) A0.1 S_b5
    have A' : CHr Z EL s.vm s.heap vm0 h6 := A0.trans (CHr.keep Kq6 (sfS S_b5 sf0) A0.1)
    replace S_b5 := S_b5'
    replace A0 := A'
    replace hk0 := Nat.le_trans hk0 Kq6.1
    replace O0 : Ext Z.heap h6 := ext_keep O0 Kq6 (allS ge_b5 all0)
    refine OEndsH.st (S' := T6.setTop (mkF m 111 #[vi p0, vj p1, .second, vj p2, .second, vj p3, .second, vi p4, vi 0, vi y2, vj y3, .second, vj y4, .second, .val .null, vr b5, .unset, .unset] [])) (fun _ k => ?_) ?_
    · refine XS.astore X6.here hx rfl (hb hby at_109) rfl rfl (l' := #[vi p0, vj p1, .second, vj p2, .second, vj p3, .second, vi p4, vi 0, vi y2, vj y3, .second, vj y4, .second, .val .null, vr b5, .unset, .unset]) rfl ?_
      exact k
    rcases hy2 with rfl | rfl
    · refine OEndsH.st (S' := T6.setTop (mkF m 133 #[vi p0, vj p1, .second, vj p2, .second, vj p3, .second, vi p4, vi 0, vi 0, vj y3, .second, vj y4, .second, .val .null, vr b5, .unset, .unset] [])) (fun _ k => ?_) ?_
      · refine XS.iload X6.here hx rfl (hb hby at_111) rfl ?_
        refine XS.ifYes X6.here hx rfl (pc0 := 113) (pc' := 133) rfl (hb hby at_113) rfl ((if0 _ _).trans (teq (by decide)).1) (by decide) (by decide) ?_
        exact k
      obtain ⟨T7, h7, X7, e7, E7, A7, D7, U7, st7⟩ := newO X6 hx hZ hown (wq hw 26 rfl) (wq hw 27 rfl) (wq hw 28 rfl) e6 (g := (mkF m 133 #[vi p0, vj p1, .second, vj p2, .second, vj p3, .second, vi p4, vi 0, vi 0, vj y3, .second, vj y4, .second, .val .null, vr b5, .unset, .unset] [])) rfl (hb hby at_133) (by decide) (by decide)
      obtain ⟨b7, g7⟩ : ∃ z, z = h6.size := ⟨_, rfl⟩
      rw [← g7] at A7 D7 U7 st7
      refine OEndsH.st st7 ?_
      have ne_b5_b7 : b5 ≠ b7 := Nat.ne_of_lt (Nat.lt_of_lt_of_le A5.lt (Nat.le_of_eq g7.symm))
      have ge_b7 : Z.heap.size ≤ b7 := Nat.le_trans O0.1 (Nat.le_of_eq g7.symm)
      have S_b7 : Safe Z EL vm0 h6 b7 := Safe.new (Nat.le_of_eq g7.symm)
      replace A5 := A5.ext E7
      replace Fe6 := Fe6.ext E7
      replace Fs6 := Fs6.ext E7
      replace Fm6 := Fm6.ext E7
      have S_b5' : Safe Z EL vm0 h7 b5 := Safe.ext E7 A0.1 S_b5
      have S_b7' : Safe Z EL vm0 h7 b7 := Safe.ext E7 A0.1 S_b7
      have A' : CHr Z EL s.vm s.heap vm0 h7 := A0.trans (CHr.ext E7 A0.1)
      replace S_b5 := S_b5'
      replace S_b7 := S_b7'
      replace A0 := A'
      replace hk0 := Nat.le_trans hk0 E7.1
      replace O0 : Ext Z.heap h7 := ext_trans O0 E7
      have F_previous_b7 : Fld Z h7 b7 "com/example/anteroom/anteroom/store/VersionChanges" "previous" "Ljava/lang/String;" .null := D7 (Or.inr (wq hw 39 rfl)) (ty := (.object "java/lang/String")) (by decide)
      have F_added_b7 : Fld Z h7 b7 "com/example/anteroom/anteroom/store/VersionChanges" "added" "J" (.long 0) := D7 (Or.inr (wq hw 41 rfl)) (ty := .long) (by decide)
      have F_modified_b7 : Fld Z h7 b7 "com/example/anteroom/anteroom/store/VersionChanges" "modified" "J" (.long 0) := D7 (Or.inr (wq hw 43 rfl)) (ty := .long) (by decide)
      have F_removed_b7 : Fld Z h7 b7 "com/example/anteroom/anteroom/store/VersionChanges" "removed" "Ljava/util/List;" .null := D7 (Or.inr (wq hw 45 rfl)) (ty := (.object "java/util/List")) (by decide)
      have F_unchanged_b7 : Fld Z h7 b7 "com/example/anteroom/anteroom/store/VersionChanges" "unchanged" "J" (.long 0) := D7 (Or.inr (wq hw 47 rfl)) (ty := .long) (by decide)
      refine OEndsH.st (S' := T7.setTop (mkF m 147 #[vi p0, vj p1, .second, vj p2, .second, vj p3, .second, vi p4, vi 0, vi 0, vj y3, .second, vj y4, .second, .val .null, vr b5, .unset, .unset] [(.long p3), (.ref b5), (.long y4), (.long y3), .null, (.ref b7), (.ref b7)])) (fun _ k => ?_) ?_
      · refine XS.dup X7.here hx rfl (hb hby at_136) rfl rfl ?_
        refine XS.aload X7.here hx rfl (hb hby at_137) rfl rfl ?_
        refine XS.lload X7.here hx rfl (hb hby at_139) rfl ?_
        refine XS.lload X7.here hx rfl (hb hby at_141) rfl ?_
        show Steps p.tables e below (T7.setTop (mkF m 143 #[vi p0, vj p1, .second, vj p2, .second, vj p3, .second, vi p4, vi 0, vi 0, vj y3, .second, vj y4, .second, .val .null, vr b5, .unset, .unset] [(.long y4), (.long y3), .null, (.ref b7), (.ref b7)])) _
        refine XS.aload X7.here hx rfl (hb hby at_143) rfl rfl ?_
        refine XS.lload X7.here hx rfl (hb hby at_145) rfl ?_
        exact k
      obtain ⟨_, T8, h8, L8, X8, e8, hQ8, st8⟩ := specC X7 hx hZ rfl hown (wq hw 29 rfl) (wq hw 30 rfl) (wq hw 31 rfl) (by decide) (kc := 0) (ks := 0) (Con.sb (W := 1) (rm_vcInit l hD b7 .null y3 y4 b5 p3 O0 A7 F_previous_b7 F_added_b7 F_modified_b7 F_removed_b7 F_unchanged_b7 ge_b7 rfl) hZ (wq hw 31 rfl) (wq hw 28 rfl) (by decide) (by decide)) e7 (a := b7) (g := (mkF m 147 #[vi p0, vj p1, .second, vj p2, .second, vj p3, .second, vi p4, vi 0, vi 0, vj y3, .second, vj y4, .second, .val .null, vr b5, .unset, .unset] [(.long p3), (.ref b5), (.long y4), (.long y3), .null, (.ref b7), (.ref b7)])) rfl (by rw [hml]; rfl) (argsL := [.null, (.long y3), (.long y4), (.ref b5), (.long p3)]) (rest := [(.ref b7)]) (lenOf pd_21 rfl) rfl (by show 2 * 0 + _ ≤ _; exact Nat.le_of_eq rfl) (hb hby at_147) (by decide) (by decide)
      obtain ⟨rfl, Nq8, Kq8, Eq8, F08, F18, F28, F38, F48⟩ := hQ8
      refine OEndsH.st st8 ?_
      replace N4 := Fr.app N4 Nq8
      replace A5 := A5.keep Kq8
      replace Fe6 := Fe6.keep Kq8 (ninS ne_b5_b7 nin0)
      replace Fs6 := Fs6.keep Kq8 (ninS ne_b5_b7 nin0)
      replace Fm6 := Fm6.keep Kq8 (ninS ne_b5_b7 nin0)
      replace A7 := A7.keep Kq8
      have S_b5' : Safe Z EL vm0 h8 b5 := Safe.keep Kq8 (sfS S_b7 sf0) A0.1 S_b5
      have S_b7' : Safe Z EL vm0 h8 b7 := Safe.keep Kq8 (sfS S_b7 sf0) A0.1 S_b7
      have A' : CHr Z EL s.vm s.heap vm0 h8 := A0.trans (CHr.keep Kq8 (sfS S_b7 sf0) A0.1)
      replace S_b5 := S_b5'
      replace S_b7 := S_b7'
      replace A0 := A'
      replace hk0 := Nat.le_trans hk0 Kq8.1
      replace O0 : Ext Z.heap h8 := ext_keep O0 Kq8 (allS ge_b7 all0)
      refine OEndsH.st (S' := T8.setTop (mkF m 152 #[vi p0, vj p1, .second, vj p2, .second, vj p3, .second, vi p4, vi 0, vi 0, vj y3, .second, vj y4, .second, .val .null, vr b5, vr b7, .unset] [])) (fun _ k => ?_) ?_
      · refine XS.astore X8.here hx rfl (hb hby at_150) rfl rfl (l' := #[vi p0, vj p1, .second, vj p2, .second, vj p3, .second, vi p4, vi 0, vi 0, vj y3, .second, vj y4, .second, .val .null, vr b5, vr b7, .unset]) rfl ?_
        exact k
      refine OEndsH.st (S' := T8.setTop (mkF m 183 #[vi p0, vj p1, .second, vj p2, .second, vj p3, .second, vi p4, vi 0, vi 0, vj y3, .second, vj y4, .second, .val .null, vr b5, vr b7, vi 0] [])) (fun _ k => ?_) ?_
      · refine XS.iload X8.here hx rfl (hb hby at_152) rfl ?_
        refine XS.ifYes X8.here hx rfl (pc0 := 154) (pc' := 180) rfl (hb hby at_154) rfl ((if0 _ _).trans (teq (by decide)).1) (by decide) (by decide) ?_
        refine XS.iconst X8.here hx rfl (hb hby at_180) ?_
        refine XS.istore X8.here hx rfl (hb hby at_181) rfl (l' := #[vi p0, vj p1, .second, vj p2, .second, vj p3, .second, vi p4, vi 0, vi 0, vj y3, .second, vj y4, .second, .val .null, vr b5, vr b7, vi 0]) rfl ?_
        exact k
      refine OEndsH.st (S' := T8.setTop (mkF m 185 #[vi p0, vj p1, .second, vj p2, .second, vj p3, .second, vi p4, vi 0, vi 0, vj y3, .second, vj y4, .second, .val .null, vr b5, vr b7, vi 0] [(.ref b7)])) (fun _ k => ?_) ?_
      · refine XS.aload X8.here hx rfl (hb hby at_183) rfl rfl ?_
        exact k
      obtain ⟨_, T9, h9, L9, X9, e9, hQ9, st9⟩ := virtC X8 hx hZ (y := (⟨"com/example/anteroom/anteroom/store/VersionChanges", "isNone", "()Z"⟩ : MethodName)) (z := (⟨"com/example/anteroom/anteroom/store/VersionChanges", "isNone", "()Z"⟩ : MethodName)) hown (wq hw 48 rfl) (wq hw 49 rfl) (nf_sel (args := #[]) (mvT hZ (wq hw 51 rfl)) rfl) (wq hw 51 rfl) (wq hw 50 rfl) (by decide) (kc := 0) (ks := 0) (Con.sb (W := 0) (rm_isNone0 l hD b7 .null y3 y4 b5 O0 A7 F08 F18 F28 F38 A5 Fs6 rfl) hZ (wq hw 52 rfl) (wq hw 28 rfl) (by decide) (by decide)) e8 A7 (g := (mkF m 185 #[vi p0, vj p1, .second, vj p2, .second, vj p3, .second, vi p4, vi 0, vi 0, vj y3, .second, vj y4, .second, .val .null, vr b5, vr b7, vi 0] [(.ref b7)])) rfl (by rw [hml]; rfl) (argsL := []) (rest := []) (lenOf pd_8 rfl) rfl (by show 2 * 0 + _ ≤ _; exact Nat.le_of_eq rfl) (hb hby at_185) (by decide) (by decide)
      obtain ⟨r9, rfl, hr9, Nq9, Hq9⟩ := hQ9
      refine OEndsH.st st9 ?_
      replace N4 := Fr.app N4 Nq9
      replace e9 := e9.trans Hq9
      obtain rfl : r9 = 0 := hr9.elim (fun q => absurd rfl q.2.1) (·.1)
      refine OEndsH.st (S' := T9.setTop (mkF m 198 #[vi p0, vj p1, .second, vj p2, .second, vj p3, .second, vi p4, vi 0, vi 0, vj y3, .second, vj y4, .second, .val .null, vr b5, vr b7, vi 0] [(.int 1)])) (fun _ k => ?_) ?_
      · refine XS.iload X9.here hx rfl (hb hby at_188) rfl ?_
        refine XS.icmpNo X9.here hx rfl (hb hby at_190) rfl (teq (by decide)).2 ?_
        refine XS.iconst X9.here hx rfl (hb hby at_193) ?_
        refine XS.goto X9.here hx rfl (pc0 := 194) (pc' := 198) rfl (hb hby at_194) (by decide) (by decide) ?_
        exact k
      exact OEndsH.ret X9 hx hZ hEL e9 hS0 hk0 A0 hret hlk (by decide) (Or.inl ⟨rfl, by simp, _, rfl⟩) (hb hby at_198) (by decide) (by decide) ⟨rfl, N4⟩
    · refine OEndsH.st (S' := T6.setTop (mkF m 118 #[vi p0, vj p1, .second, vj p2, .second, vj p3, .second, vi p4, vi 0, vi 1, vj y3, .second, vj y4, .second, .val .null, vr b5, .unset, .unset] [(.ref b5)])) (fun _ k => ?_) ?_
      · refine XS.iload X6.here hx rfl (hb hby at_111) rfl ?_
        refine XS.ifNo X6.here hx rfl (hb hby at_113) rfl ((if0 _ _).trans (feq (by decide)).1) ?_
        refine XS.aload X6.here hx rfl (hb hby at_116) rfl rfl ?_
        exact k
      obtain ⟨T7, h7, X7, e7, E7, A7, D7, U7, st7⟩ := newO X6 hx hZ hown (wq hw 81 rfl) (wq hw 82 rfl) (wq hw 83 rfl) e6 (g := (mkF m 118 #[vi p0, vj p1, .second, vj p2, .second, vj p3, .second, vi p4, vi 0, vi 1, vj y3, .second, vj y4, .second, .val .null, vr b5, .unset, .unset] [(.ref b5)])) rfl (hb hby at_118) (by decide) (by decide)
      obtain ⟨b7, g7⟩ : ∃ z, z = h6.size := ⟨_, rfl⟩
      rw [← g7] at A7 D7 U7 st7
      refine OEndsH.st st7 ?_
      have ne_b5_b7 : b5 ≠ b7 := Nat.ne_of_lt (Nat.lt_of_lt_of_le A5.lt (Nat.le_of_eq g7.symm))
      have ge_b7 : Z.heap.size ≤ b7 := Nat.le_trans O0.1 (Nat.le_of_eq g7.symm)
      have S_b7 : Safe Z EL vm0 h6 b7 := Safe.new (Nat.le_of_eq g7.symm)
      replace A5 := A5.ext E7
      replace Fe6 := Fe6.ext E7
      replace Fs6 := Fs6.ext E7
      replace Fm6 := Fm6.ext E7
      have S_b5' : Safe Z EL vm0 h7 b5 := Safe.ext E7 A0.1 S_b5
      have S_b7' : Safe Z EL vm0 h7 b7 := Safe.ext E7 A0.1 S_b7
      have A' : CHr Z EL s.vm s.heap vm0 h7 := A0.trans (CHr.ext E7 A0.1)
      replace S_b5 := S_b5'
      replace S_b7 := S_b7'
      replace A0 := A'
      replace hk0 := Nat.le_trans hk0 E7.1
      replace O0 : Ext Z.heap h7 := ext_trans O0 E7
      have F_value_b7 : Fld Z h7 b7 "com/example/anteroom/anteroom/store/LogicalPath" "value" "Ljava/lang/String;" .null := D7 (Or.inr (wq hw 196 rfl)) (ty := (.object "java/lang/String")) (by decide)
      refine OEndsH.st (S' := T7.setTop (mkF m 122 #[vi p0, vj p1, .second, vj p2, .second, vj p3, .second, vi p4, vi 0, vi 1, vj y3, .second, vj y4, .second, .val .null, vr b5, .unset, .unset] [(.ref b7), (.ref b7), (.ref b5)])) (fun _ k => ?_) ?_
      · refine XS.dup X7.here hx rfl (hb hby at_121) rfl rfl ?_
        exact k
      obtain ⟨b8, T8, h8, k18, t8, kb8, X8, e8, E8, hS8, hk8, hZ8, hown8, Es8, Fc8, Fv8, V8, -, -, Aq8, -, nes8, st8⟩ := ldcCH X7 hx hZ hown (wq hw 84 rfl) hsa e7 hS0 hk0 hEL (List.mem_of_getElem? (i := 5) rfl) A0.1 (vs := [(.int 97)]) (z := (1 : Int32)) ⟨by decide, by decide⟩ (by decide) rfl (g := (mkF m 122 #[vi p0, vj p1, .second, vj p2, .second, vj p3, .second, vi p4, vi 0, vi 1, vj y3, .second, vj y4, .second, .val .null, vr b5, .unset, .unset] [(.ref b7), (.ref b7), (.ref b5)])) rfl (hb hby at_122) (n := 4) (by decide) (by decide) (by decide) (by decide)
      replace hZ8 : Z.Warmed39 T8.vm := hZ8
      replace hown8 : T8.vm.findClass "com/example/anteroom/anteroom/store/VersionChangesIsNonePinLaw" = some m.cls := hown8
      replace S_b5 : Safe Z EL T8.vm h8 b5 := Aq8.safe A5.lt S_b5
      replace S_b7 : Safe Z EL T8.vm h8 b7 := Aq8.safe A7.lt S_b7
      replace A0 : CHr Z EL s.vm s.heap T8.vm h8 := A0.trans Aq8
      refine OEndsH.st st8 ?_
      have ne_b5_b8 : b5 ≠ b8 := (nes8 b5 S_b5).1
      have ne_b5_t8 : b5 ≠ t8 := (nes8 b5 S_b5).2
      have ne_b7_b8 : b7 ≠ b8 := (nes8 b7 S_b7).1
      have ne_b7_t8 : b7 ≠ t8 := (nes8 b7 S_b7).2
      replace A5 := A5.ext E8
      replace Fe6 := Fe6.ext E8
      replace Fs6 := Fs6.ext E8
      replace Fm6 := Fm6.ext E8
      replace A7 := A7.ext E8
      replace F_value_b7 := F_value_b7.ext E8
      replace O0 : Ext Z.heap h8 := ext_trans O0 E8
      obtain ⟨_, T9, h9, L9, vm9, k19, X9, e9, hQ9, hS9, hk9, hZ9, hown9, Aq9, st9⟩ := specH X8 hx hZ8 rfl hown8 (wq hw 87 rfl) (wq hw 88 rfl) (wq hw 89 rfl) (by decide) (kc := 12) (ks := 108) (ConH.sb (W := 2) (rm_lpInit l hD b7 b8 t8 kb8 O0 A7 F_value_b7 ge_b7 Es8 Fc8 Fv8 V8) hZ8 (wq hw 89 rfl) (wq hw 83 rfl) (by decide) (by decide) hEL A0.1 (allS ⟨A7.lt, S_b7⟩ all0)) e8 hS8 hk8 (a := b7) (g := (mkF m 124 #[vi p0, vj p1, .second, vj p2, .second, vj p3, .second, vi p4, vi 0, vi 1, vj y3, .second, vj y4, .second, .val .null, vr b5, .unset, .unset] [(.ref b8), (.ref b7), (.ref b7), (.ref b5)])) rfl (by rw [hml]; rfl) (argsL := [(.ref b8)]) (rest := [(.ref b7), (.ref b5)]) (lenOf pd_22 rfl) rfl (by show 2 * 0 + _ ≤ _; exact Nat.le_of_eq rfl) (hb hby at_124) (by decide) (by decide)
      obtain ⟨rfl, Nq9, Kq9⟩ := hQ9
      replace S_b5 : Safe Z EL vm9 h9 b5 := Aq9.safe A5.lt S_b5
      replace S_b7 : Safe Z EL vm9 h9 b7 := Aq9.safe A7.lt S_b7
      replace A0 : CHr Z EL s.vm s.heap vm9 h9 := A0.trans Aq9
      refine OEndsH.st st9 ?_
      replace N4 := Fr.app N4 Nq9
      replace A5 := A5.keep Kq9
      replace Fe6 := Fe6.keep Kq9 (ninS ne_b5_b7 nin0)
      replace Fs6 := Fs6.keep Kq9 (ninS ne_b5_b7 nin0)
      replace Fm6 := Fm6.keep Kq9 (ninS ne_b5_b7 nin0)
      replace A7 := A7.keep Kq9
      replace Es8 := Es8.keep Kq9
      replace Fc8 := Fc8.keep Kq9 (ninS (Ne.symm ne_b7_b8) nin0)
      replace Fv8 := Fv8.keep Kq9 (ninS (Ne.symm ne_b7_b8) nin0)
      replace V8 := V8.keep Kq9 (ninS (Ne.symm ne_b7_t8) nin0)
      replace O0 : Ext Z.heap h9 := ext_keep O0 Kq9 (allS ge_b7 all0)
      obtain ⟨_, T10, h10, L10, X10, e10, hQ10, st10⟩ := faceC X9 hx hZ9 (xi := (⟨"java/util/List", "add", "(Ljava/lang/Object;)Z"⟩ : MethodName)) (y := (⟨"java/util/ArrayList", "add", "(Ljava/lang/Object;)Z"⟩ : MethodName)) hown9 (wq hw 197 rfl) (wq hw 198 rfl) (wq hw 199 rfl) (wq hw 200 rfl) (wq hw 201 rfl) (wq hw 202 rfl) (wq hw 203 rfl) (wq hw 204 rfl) (by decide) (kc := 1) (ks := 10) (Con.sb (W := 0) (rm_add0 l hD b5 b7 xde xkde O0 A5 Fe6 Fs6 Fm6 ge_b5 S_DE V_DE A7) hZ9 (wq hw 205 rfl) (wq hw 2 rfl) (by decide) (by decide)) e9 A5 (g := (mkF m 127 #[vi p0, vj p1, .second, vj p2, .second, vj p3, .second, vi p4, vi 0, vi 1, vj y3, .second, vj y4, .second, .val .null, vr b5, .unset, .unset] [(.ref b7), (.ref b5)])) rfl (by rw [hml]; rfl) (argsL := [(.ref b7)]) (rest := []) (lenOf pd_19 rfl) rfl (by show 2 * 0 + _ ≤ _; exact Nat.le_of_eq rfl) (hb hby at_127) (by decide) (by decide)
      obtain ⟨rfl, Nq10, Kq10, Fs10⟩ := hQ10
      refine OEndsH.st st10 ?_
      replace N4 := Fr.app N4 Nq10
      replace A5 := A5.keep Kq10
      replace A7 := A7.keep Kq10
      replace Es8 := Es8.keep Kq10
      replace Fc8 := Fc8.keep Kq10 (ninS (Ne.symm ne_b5_b8) nin0)
      replace Fv8 := Fv8.keep Kq10 (ninS (Ne.symm ne_b5_b8) nin0)
      replace V8 := V8.keep Kq10 (ninS (Ne.symm ne_b5_t8) nin0)
      have S_b5' : Safe Z EL vm9 h10 b5 := Safe.keep Kq10 (sfS S_b5 sf0) A0.1 S_b5
      have S_b7' : Safe Z EL vm9 h10 b7 := Safe.keep Kq10 (sfS S_b5 sf0) A0.1 S_b7
      have A' : CHr Z EL s.vm s.heap vm9 h10 := A0.trans (CHr.keep Kq10 (sfS S_b5 sf0) A0.1)
      replace S_b5 := S_b5'
      replace S_b7 := S_b7'
      replace A0 := A'
      replace hk9 := Nat.le_trans hk9 Kq10.1
      replace O0 : Ext Z.heap h10 := ext_keep O0 Kq10 (allS ge_b5 all0)
      clear A7
      clear Es8
      clear Fc8
      clear Fv8
      clear V8
      refine OEndsH.st (S' := T10.setTop (mkF m 133 #[vi p0, vj p1, .second, vj p2, .second, vj p3, .second, vi p4, vi 0, vi 1, vj y3, .second, vj y4, .second, .val .null, vr b5, .unset, .unset] [])) (fun _ k => ?_) ?_
      · refine XS.pop X10.here hx rfl (hb hby at_132) rfl rfl ?_
        exact k
      obtain ⟨T11, h11, X11, e11, E11, A11, D11, U11, st11⟩ := newO X10 hx hZ9 hown9 (wq hw 26 rfl) (wq hw 27 rfl) (wq hw 28 rfl) e10 (g := (mkF m 133 #[vi p0, vj p1, .second, vj p2, .second, vj p3, .second, vi p4, vi 0, vi 1, vj y3, .second, vj y4, .second, .val .null, vr b5, .unset, .unset] [])) rfl (hb hby at_133) (by decide) (by decide)
      obtain ⟨b11, g11⟩ : ∃ z, z = h10.size := ⟨_, rfl⟩
      rw [← g11] at A11 D11 U11 st11
      refine OEndsH.st st11 ?_
      have ne_b5_b11 : b5 ≠ b11 := Nat.ne_of_lt (Nat.lt_of_lt_of_le A5.lt (Nat.le_of_eq g11.symm))
      have ge_b11 : Z.heap.size ≤ b11 := Nat.le_trans O0.1 (Nat.le_of_eq g11.symm)
      have S_b11 : Safe Z EL vm9 h10 b11 := Safe.new (Nat.le_of_eq g11.symm)
      replace A5 := A5.ext E11
      replace Fs10 := Fs10.ext E11
      have S_b5' : Safe Z EL vm9 h11 b5 := Safe.ext E11 A0.1 S_b5
      have S_b11' : Safe Z EL vm9 h11 b11 := Safe.ext E11 A0.1 S_b11
      have A' : CHr Z EL s.vm s.heap vm9 h11 := A0.trans (CHr.ext E11 A0.1)
      replace S_b5 := S_b5'
      replace S_b11 := S_b11'
      replace A0 := A'
      replace hk9 := Nat.le_trans hk9 E11.1
      replace O0 : Ext Z.heap h11 := ext_trans O0 E11
      have F_previous_b11 : Fld Z h11 b11 "com/example/anteroom/anteroom/store/VersionChanges" "previous" "Ljava/lang/String;" .null := D11 (Or.inr (wq hw 39 rfl)) (ty := (.object "java/lang/String")) (by decide)
      have F_added_b11 : Fld Z h11 b11 "com/example/anteroom/anteroom/store/VersionChanges" "added" "J" (.long 0) := D11 (Or.inr (wq hw 41 rfl)) (ty := .long) (by decide)
      have F_modified_b11 : Fld Z h11 b11 "com/example/anteroom/anteroom/store/VersionChanges" "modified" "J" (.long 0) := D11 (Or.inr (wq hw 43 rfl)) (ty := .long) (by decide)
      have F_removed_b11 : Fld Z h11 b11 "com/example/anteroom/anteroom/store/VersionChanges" "removed" "Ljava/util/List;" .null := D11 (Or.inr (wq hw 45 rfl)) (ty := (.object "java/util/List")) (by decide)
      have F_unchanged_b11 : Fld Z h11 b11 "com/example/anteroom/anteroom/store/VersionChanges" "unchanged" "J" (.long 0) := D11 (Or.inr (wq hw 47 rfl)) (ty := .long) (by decide)
      refine OEndsH.st (S' := T11.setTop (mkF m 147 #[vi p0, vj p1, .second, vj p2, .second, vj p3, .second, vi p4, vi 0, vi 1, vj y3, .second, vj y4, .second, .val .null, vr b5, .unset, .unset] [(.long p3), (.ref b5), (.long y4), (.long y3), .null, (.ref b11), (.ref b11)])) (fun _ k => ?_) ?_
      · refine XS.dup X11.here hx rfl (hb hby at_136) rfl rfl ?_
        refine XS.aload X11.here hx rfl (hb hby at_137) rfl rfl ?_
        refine XS.lload X11.here hx rfl (hb hby at_139) rfl ?_
        refine XS.lload X11.here hx rfl (hb hby at_141) rfl ?_
        show Steps p.tables e below (T11.setTop (mkF m 143 #[vi p0, vj p1, .second, vj p2, .second, vj p3, .second, vi p4, vi 0, vi 1, vj y3, .second, vj y4, .second, .val .null, vr b5, .unset, .unset] [(.long y4), (.long y3), .null, (.ref b11), (.ref b11)])) _
        refine XS.aload X11.here hx rfl (hb hby at_143) rfl rfl ?_
        refine XS.lload X11.here hx rfl (hb hby at_145) rfl ?_
        exact k
      obtain ⟨_, T12, h12, L12, X12, e12, hQ12, st12⟩ := specC X11 hx hZ9 rfl hown9 (wq hw 29 rfl) (wq hw 30 rfl) (wq hw 31 rfl) (by decide) (kc := 0) (ks := 0) (Con.sb (W := 1) (rm_vcInit l hD b11 .null y3 y4 b5 p3 O0 A11 F_previous_b11 F_added_b11 F_modified_b11 F_removed_b11 F_unchanged_b11 ge_b11 rfl) hZ9 (wq hw 31 rfl) (wq hw 28 rfl) (by decide) (by decide)) e11 (a := b11) (g := (mkF m 147 #[vi p0, vj p1, .second, vj p2, .second, vj p3, .second, vi p4, vi 0, vi 1, vj y3, .second, vj y4, .second, .val .null, vr b5, .unset, .unset] [(.long p3), (.ref b5), (.long y4), (.long y3), .null, (.ref b11), (.ref b11)])) rfl (by rw [hml]; rfl) (argsL := [.null, (.long y3), (.long y4), (.ref b5), (.long p3)]) (rest := [(.ref b11)]) (lenOf pd_21 rfl) rfl (by show 2 * 0 + _ ≤ _; exact Nat.le_of_eq rfl) (hb hby at_147) (by decide) (by decide)
      obtain ⟨rfl, Nq12, Kq12, Eq12, F012, F112, F212, F312, F412⟩ := hQ12
      refine OEndsH.st st12 ?_
      replace N4 := Fr.app N4 Nq12
      replace A5 := A5.keep Kq12
      replace Fs10 := Fs10.keep Kq12 (ninS ne_b5_b11 nin0)
      replace A11 := A11.keep Kq12
      have S_b5' : Safe Z EL vm9 h12 b5 := Safe.keep Kq12 (sfS S_b11 sf0) A0.1 S_b5
      have S_b11' : Safe Z EL vm9 h12 b11 := Safe.keep Kq12 (sfS S_b11 sf0) A0.1 S_b11
      have A' : CHr Z EL s.vm s.heap vm9 h12 := A0.trans (CHr.keep Kq12 (sfS S_b11 sf0) A0.1)
      replace S_b5 := S_b5'
      replace S_b11 := S_b11'
      replace A0 := A'
      replace hk9 := Nat.le_trans hk9 Kq12.1
      replace O0 : Ext Z.heap h12 := ext_keep O0 Kq12 (allS ge_b11 all0)
      refine OEndsH.st (S' := T12.setTop (mkF m 152 #[vi p0, vj p1, .second, vj p2, .second, vj p3, .second, vi p4, vi 0, vi 1, vj y3, .second, vj y4, .second, .val .null, vr b5, vr b11, .unset] [])) (fun _ k => ?_) ?_
      · refine XS.astore X12.here hx rfl (hb hby at_150) rfl rfl (l' := #[vi p0, vj p1, .second, vj p2, .second, vj p3, .second, vi p4, vi 0, vi 1, vj y3, .second, vj y4, .second, .val .null, vr b5, vr b11, .unset]) rfl ?_
        exact k
      refine OEndsH.st (S' := T12.setTop (mkF m 183 #[vi p0, vj p1, .second, vj p2, .second, vj p3, .second, vi p4, vi 0, vi 1, vj y3, .second, vj y4, .second, .val .null, vr b5, vr b11, vi 0] [])) (fun _ k => ?_) ?_
      · refine XS.iload X12.here hx rfl (hb hby at_152) rfl ?_
        refine XS.ifYes X12.here hx rfl (pc0 := 154) (pc' := 180) rfl (hb hby at_154) rfl ((if0 _ _).trans (teq (by decide)).1) (by decide) (by decide) ?_
        refine XS.iconst X12.here hx rfl (hb hby at_180) ?_
        refine XS.istore X12.here hx rfl (hb hby at_181) rfl (l' := #[vi p0, vj p1, .second, vj p2, .second, vj p3, .second, vi p4, vi 0, vi 1, vj y3, .second, vj y4, .second, .val .null, vr b5, vr b11, vi 0]) rfl ?_
        exact k
      refine OEndsH.st (S' := T12.setTop (mkF m 185 #[vi p0, vj p1, .second, vj p2, .second, vj p3, .second, vi p4, vi 0, vi 1, vj y3, .second, vj y4, .second, .val .null, vr b5, vr b11, vi 0] [(.ref b11)])) (fun _ k => ?_) ?_
      · refine XS.aload X12.here hx rfl (hb hby at_183) rfl rfl ?_
        exact k
      obtain ⟨_, T13, h13, L13, X13, e13, hQ13, st13⟩ := virtC X12 hx hZ9 (y := (⟨"com/example/anteroom/anteroom/store/VersionChanges", "isNone", "()Z"⟩ : MethodName)) (z := (⟨"com/example/anteroom/anteroom/store/VersionChanges", "isNone", "()Z"⟩ : MethodName)) hown9 (wq hw 48 rfl) (wq hw 49 rfl) (nf_sel (args := #[]) (mvT hZ9 (wq hw 51 rfl)) rfl) (wq hw 51 rfl) (wq hw 50 rfl) (by decide) (kc := 0) (ks := 0) (Con.sb (W := 0) (rm_isNone1 l hD b11 .null y3 y4 b5 O0 A11 F012 F112 F212 F312 A5 Fs10 rfl) hZ9 (wq hw 52 rfl) (wq hw 28 rfl) (by decide) (by decide)) e12 A11 (g := (mkF m 185 #[vi p0, vj p1, .second, vj p2, .second, vj p3, .second, vi p4, vi 0, vi 1, vj y3, .second, vj y4, .second, .val .null, vr b5, vr b11, vi 0] [(.ref b11)])) rfl (by rw [hml]; rfl) (argsL := []) (rest := []) (lenOf pd_8 rfl) rfl (by show 2 * 0 + _ ≤ _; exact Nat.le_of_eq rfl) (hb hby at_185) (by decide) (by decide)
      obtain ⟨r13, rfl, hr13, Nq13, Hq13⟩ := hQ13
      refine OEndsH.st st13 ?_
      replace N4 := Fr.app N4 Nq13
      replace e13 := e13.trans Hq13
      obtain rfl : r13 = 0 := hr13.elim (fun q => absurd rfl q.2.1) (·.1)
      refine OEndsH.st (S' := T13.setTop (mkF m 198 #[vi p0, vj p1, .second, vj p2, .second, vj p3, .second, vi p4, vi 0, vi 1, vj y3, .second, vj y4, .second, .val .null, vr b5, vr b11, vi 0] [(.int 1)])) (fun _ k => ?_) ?_
      · refine XS.iload X13.here hx rfl (hb hby at_188) rfl ?_
        refine XS.icmpNo X13.here hx rfl (hb hby at_190) rfl (teq (by decide)).2 ?_
        refine XS.iconst X13.here hx rfl (hb hby at_193) ?_
        refine XS.goto X13.here hx rfl (pc0 := 194) (pc' := 198) rfl (hb hby at_194) (by decide) (by decide) ?_
        exact k
      exact OEndsH.ret X13 hx hZ9 hEL e13 hS9 hk9 A0 hret hlk (by decide) (Or.inl ⟨rfl, by simp, _, rfl⟩) (hb hby at_198) (by decide) (by decide) ⟨rfl, N4⟩
  · refine OEndsH.st (S' := T4.setTop (mkF m 65 #[vi p0, vj p1, .second, vj p2, .second, vj p3, .second, vi p4, vi 1, vi y2, vj y3, .second, vj y4, .second, .val .null, .unset, .unset, .unset] [(.int (p0 &&& (16 : Int32)))])) (fun _ k => ?_) ?_
    · refine XS.iload X4.here hx rfl (hb hby at_56) rfl ?_
      refine XS.ifNo X4.here hx rfl (hb hby at_58) rfl ((if0 _ _).trans (feq (by decide)).1) ?_
      refine XS.iloadN X4.here hx rfl (hb hby at_61) rfl ?_
      refine XS.bipush X4.here hx rfl (hb hby at_62) ?_
      show Steps p.tables e below (T4.setTop (mkF m 64 #[vi p0, vj p1, .second, vj p2, .second, vj p3, .second, vi p4, vi 1, vi y2, vj y3, .second, vj y4, .second, .val .null, .unset, .unset, .unset] [(.int 16), (.int p0)])) _
      refine XS.iand X4.here hx rfl (hb hby at_64) rfl ?_
      exact k
    rcases Classical.em ((p0 &&& (16 : Int32)) = (0 : Int32)) with hs | hs
    · refine OEndsH.st (S' := T4.setTop (mkF m 76 #[vi p0, vj p1, .second, vj p2, .second, vj p3, .second, vi p4, vi 1, vi y2, vj y3, .second, vj y4, .second, .val .null, .unset, .unset, .unset] [(.int 1)])) (fun _ k => ?_) ?_
      · refine XS.ifYes X4.here hx rfl (pc0 := 65) (pc' := 75) rfl (hb hby at_65) rfl ((if0 _ _).trans (teq hs).1) (by decide) (by decide) ?_
        refine XS.iconst X4.here hx rfl (hb hby at_75) ?_
        exact k
      obtain ⟨T5, h5, k5, X5, e5, E5, A5, st5⟩ := newP X4 hx hZ (wq hw 53 rfl) e4 (g := (mkF m 76 #[vi p0, vj p1, .second, vj p2, .second, vj p3, .second, vi p4, vi 1, vi y2, vj y3, .second, vj y4, .second, .val .null, .unset, .unset, .unset] [(.int 1)])) rfl (hb hby at_76) rfl (by decide) (cap := 1) (by decide) (by decide) (by decide) (by decide)
      obtain ⟨b5, g5⟩ : ∃ z, z = h0.size := ⟨_, rfl⟩
      rw [← g5] at A5 st5
      refine OEndsH.st st5 ?_
      have ge_b5 : Z.heap.size ≤ b5 := Nat.le_trans O0.1 (Nat.le_of_eq g5.symm)
      have S_b5 : Safe Z EL vm0 h0 b5 := Safe.new (Nat.le_of_eq g5.symm)
      have S_b5' : Safe Z EL vm0 h5 b5 := Safe.ext E5 A0.1 S_b5
      have A' : CHr Z EL s.vm s.heap vm0 h5 := A0.trans (CHr.ext E5 A0.1)
      replace S_b5 := S_b5'
      replace A0 := A'
      replace hk0 := Nat.le_trans hk0 E5.1
      replace O0 : Ext Z.heap h5 := ext_trans O0 E5
      have V_b5 : Arv Z h5 b5 k5 .char (1 : Int32) [(.int 0)] (.int 0) := (Arv.new A5 (by decide)).pad (pad_rep [] (.int 0) 1)
      refine OEndsH.st (S' := T5.setTop (mkF m 90 #[vi p0, vj p1, .second, vj p2, .second, vj p3, .second, vi p4, vi 1, vi y2, vj y3, .second, vj y4, .second, .val .null, vr b5, .unset, .unset] [(.int ((p4 &&& (255 : Int32)).toUInt32.toUInt16.toUInt32.toInt32)), (.int 0), (.ref b5)])) (fun _ k => ?_) ?_
      · refine XS.astore X5.here hx rfl (hb hby at_78) rfl rfl (l' := #[vi p0, vj p1, .second, vj p2, .second, vj p3, .second, vi p4, vi 1, vi y2, vj y3, .second, vj y4, .second, .val .null, vr b5, .unset, .unset]) rfl ?_
        refine XS.aload X5.here hx rfl (hb hby at_80) rfl rfl ?_
        refine XS.iconst X5.here hx rfl (hb hby at_82) ?_
        refine XS.iload X5.here hx rfl (hb hby at_83) rfl ?_
        show Steps p.tables e below (T5.setTop (mkF m 85 #[vi p0, vj p1, .second, vj p2, .second, vj p3, .second, vi p4, vi 1, vi y2, vj y3, .second, vj y4, .second, .val .null, vr b5, .unset, .unset] [(.int p4), (.int 0), (.ref b5)])) _
        refine XS.sipush X5.here hx rfl (hb hby at_85) ?_
        refine XS.iand X5.here hx rfl (hb hby at_88) rfl ?_
        refine XS.i2c X5.here hx rfl (hb hby at_89) rfl ?_
        exact k
      generalize hg_x0 : ((p4 &&& (255 : Int32)).toUInt32.toUInt16.toUInt32.toInt32) = x0
      have hx0 : ¬ x0 < 0 ∧ ¬ (255 : Int32) < x0 := hg_x0 ▸ i2c255
      obtain ⟨cl_b5_6, Ar_b5_6, q_b5_6, S_b5_6, N_b5_6, H_b5_6, G_b5_6⟩ := V_b5
      obtain ⟨T6, h6, X6, e6, W6, st6⟩ := stC X5 hx hZ e5 Ar_b5_6 (j := (0 : Int32)) (inb_of S_b5_6 ⟨by decide, by decide⟩) (g := (mkF m 90 #[vi p0, vj p1, .second, vj p2, .second, vj p3, .second, vi p4, vi 1, vi y2, vj y3, .second, vj y4, .second, .val .null, vr b5, .unset, .unset] [(.int x0), (.int 0), (.ref b5)])) rfl rfl (hb hby at_90)
      have V_b5_6 : Arv Z h6 b5 k5 .char (1 : Int32) [(.int (nar .char x0))] (.int 0) := Arv.set Ar_b5_6 q_b5_6 S_b5_6 N_b5_6 H_b5_6 G_b5_6 (fits_nar_char _) W6 0 rfl (Nat.le_of_ble_eq_true rfl)
      refine OEndsH.st st6 ?_
      have S_b5' : Safe Z EL vm0 h6 b5 := Safe.wr W6 S_b5 A0.1 S_b5
      have A' : CHr Z EL s.vm s.heap vm0 h6 := A0.trans (CHr.wr W6 S_b5 A0.1)
      replace S_b5 := S_b5'
      replace A0 := A'
      replace hk0 := Nat.le_trans hk0 (Keep.of_wr W6).1
      replace O0 : Ext Z.heap h6 := ext_wr O0 W6 ge_b5
      replace N4 := Fr.snoc X6 N4 ge_b5
      obtain ⟨T7, h7, X7, e7, E7, A7, D7, U7, st7⟩ := newO X6 hx hZ hown (wq hw 54 rfl) (wq hw 55 rfl) (wq hw 56 rfl) e6 (g := (mkF m 91 #[vi p0, vj p1, .second, vj p2, .second, vj p3, .second, vi p4, vi 1, vi y2, vj y3, .second, vj y4, .second, .val .null, vr b5, .unset, .unset] [])) rfl (hb hby at_91) (by decide) (by decide)
      obtain ⟨b7, g7⟩ : ∃ z, z = h6.size := ⟨_, rfl⟩
      rw [← g7] at A7 D7 U7 st7
      refine OEndsH.st st7 ?_
      have ne_b5_b7 : b5 ≠ b7 := Nat.ne_of_lt (Nat.lt_of_lt_of_le V_b5_6.lt (Nat.le_of_eq g7.symm))
      have ge_b7 : Z.heap.size ≤ b7 := Nat.le_trans O0.1 (Nat.le_of_eq g7.symm)
      have S_b7 : Safe Z EL vm0 h6 b7 := Safe.new (Nat.le_of_eq g7.symm)
      replace V_b5_6 := V_b5_6.ext E7
      have S_b5' : Safe Z EL vm0 h7 b5 := Safe.ext E7 A0.1 S_b5
      have S_b7' : Safe Z EL vm0 h7 b7 := Safe.ext E7 A0.1 S_b7
      have A' : CHr Z EL s.vm s.heap vm0 h7 := A0.trans (CHr.ext E7 A0.1)
      replace S_b5 := S_b5'
      replace S_b7 := S_b7'
      replace A0 := A'
      replace hk0 := Nat.le_trans hk0 E7.1
      replace O0 : Ext Z.heap h7 := ext_trans O0 E7
      have F_coder_b7 : Fld Z h7 b7 "java/lang/String" "coder" "B" (.int 0) := D7 (Or.inr (wq hw 78 rfl)) (ty := .byte) (by decide)
      have F_value_b7 : Fld Z h7 b7 "java/lang/String" "value" "[B" .null := D7 (Or.inr (wq hw 80 rfl)) (ty := (.array .byte)) (by decide)
      refine OEndsH.st (S' := T7.setTop (mkF m 97 #[vi p0, vj p1, .second, vj p2, .second, vj p3, .second, vi p4, vi 1, vi y2, vj y3, .second, vj y4, .second, .val .null, vr b5, .unset, .unset] [(.ref b5), (.ref b7), (.ref b7)])) (fun _ k => ?_) ?_
      · refine XS.dup X7.here hx rfl (hb hby at_94) rfl rfl ?_
        refine XS.aload X7.here hx rfl (hb hby at_95) rfl rfl ?_
        exact k
      simp only [nar_char (x := x0) hx0] at V_b5_6
      have hp8 : ∀ c ∈ ([x0] : List Int32), ¬ c < 0 ∧ ¬ (255 : Int32) < c := by
        intro c hc; simp only [List.mem_cons, List.not_mem_nil, or_false] at hc
        rcases hc with rfl
        · exact hx0
      obtain ⟨_, T9, h9, L9, X9, e9, hQ9, st9⟩ := specC X7 hx hZ rfl hown (wq hw 57 rfl) (wq hw 58 rfl) (wq hw 59 rfl) (by decide) (kc := 1) (ks := 1) (SB.of (Q := StrChars.Road.QV Z b7 (1 : Int32) (([x0] : List Int32).map (fun c => c.toInt8.toInt32)) h7 Z.heap.size) (StrChars.Road.backV (W := 1) hZ hws (kI := 4) (wq hw 55 rfl) (cs := ([x0] : List Int32)) (bs := (([x0] : List Int32).map (fun c => c.toInt8.toInt32))) (n := 1) ge_b7 O0.1 A7 F_value_b7 F_coder_b7 V_b5_6 (S_CS.ext O0) hcz rfl rfl (by decide) (by decide) hp8 rfl (by decide) (by decide))) e7 (a := b7) (g := (mkF m 97 #[vi p0, vj p1, .second, vj p2, .second, vj p3, .second, vi p4, vi 1, vi y2, vj y3, .second, vj y4, .second, .val .null, vr b5, .unset, .unset] [(.ref b5), (.ref b7), (.ref b7)])) rfl (by rw [hml]; rfl) (argsL := [(.ref b5)]) (rest := [(.ref b7)]) (lenOf pd_23 rfl) rfl (by show 2 * 0 + _ ≤ _; exact Nat.le_of_eq rfl) (hb hby at_97) (by decide) (by decide)
      obtain ⟨rfl, Nq9, Kq9, Eq9, Fc9, t9, kb9, gq9, szq9, nq9, Fv9, V9⟩ := hQ9
      refine OEndsH.st st9 ?_
      replace N4 := Fr.app N4 Nq9
      have ne_b5_t9 : b5 ≠ t9 := Nat.ne_of_lt (Nat.lt_of_lt_of_le V_b5_6.lt szq9)
      have ne_b7_t9 : b7 ≠ t9 := Nat.ne_of_lt (Nat.lt_of_lt_of_le A7.lt szq9)
      have ge_t9 : Z.heap.size ≤ t9 := Nat.le_trans O0.1 szq9
      have S_t9 : Safe Z EL vm0 h7 t9 := Safe.new szq9
      replace V_b5_6 := V_b5_6.keep Kq9 (ninS ne_b5_b7 nin0)
      replace A7 := A7.keep Kq9
      have S_b5' : Safe Z EL vm0 h9 b5 := Safe.keep Kq9 (sfS S_b7 sf0) A0.1 S_b5
      have S_b7' : Safe Z EL vm0 h9 b7 := Safe.keep Kq9 (sfS S_b7 sf0) A0.1 S_b7
      have S_t9' : Safe Z EL vm0 h9 t9 := Safe.keep Kq9 (sfS S_b7 sf0) A0.1 S_t9
      have A' : CHr Z EL s.vm s.heap vm0 h9 := A0.trans (CHr.keep Kq9 (sfS S_b7 sf0) A0.1)
      replace S_b5 := S_b5'
      replace S_b7 := S_b7'
      replace S_t9 := S_t9'
      replace A0 := A'
      replace hk0 := Nat.le_trans hk0 Kq9.1
      replace O0 : Ext Z.heap h9 := ext_keep O0 Kq9 (allS ge_b7 all0)
      replace V9 : Arv Z h9 t9 kb9 .byte (Int32.ofNat 1) [(.int (x0).toInt8.toInt32)] (.int 0) := V9
      clear V_b5_6
      clear V9
      clear A7
      clear Fc9
      clear Fv9
      refine OEndsH.st (S' := T9.setTop (mkF m 102 #[vi p0, vj p1, .second, vj p2, .second, vj p3, .second, vi p4, vi 1, vi y2, vj y3, .second, vj y4, .second, vr b7, vr b5, .unset, .unset] [])) (fun _ k => ?_) ?_
      · refine XS.astore X9.here hx rfl (hb hby at_100) rfl rfl (l' := #[vi p0, vj p1, .second, vj p2, .second, vj p3, .second, vi p4, vi 1, vi y2, vj y3, .second, vj y4, .second, vr b7, vr b5, .unset, .unset]) rfl ?_
        exact k
      obtain ⟨T10, h10, X10, e10, E10, A10, D10, U10, st10⟩ := newO X9 hx hZ hown (wq hw 0 rfl) (wq hw 1 rfl) (wq hw 2 rfl) e9 (g := (mkF m 102 #[vi p0, vj p1, .second, vj p2, .second, vj p3, .second, vi p4, vi 1, vi y2, vj y3, .second, vj y4, .second, vr b7, vr b5, .unset, .unset] [])) rfl (hb hby at_102) (by decide) (by decide)
      obtain ⟨b10, g10⟩ : ∃ z, z = h9.size := ⟨_, rfl⟩
      rw [← g10] at A10 D10 U10 st10
      refine OEndsH.st st10 ?_
      have ge_b10 : Z.heap.size ≤ b10 := Nat.le_trans O0.1 (Nat.le_of_eq g10.symm)
      have S_b10 : Safe Z EL vm0 h9 b10 := Safe.new (Nat.le_of_eq g10.symm)
      have S_b10' : Safe Z EL vm0 h10 b10 := Safe.ext E10 A0.1 S_b10
      have A' : CHr Z EL s.vm s.heap vm0 h10 := A0.trans (CHr.ext E10 A0.1)
      replace S_b10 := S_b10'
      replace A0 := A'
      replace hk0 := Nat.le_trans hk0 E10.1
      replace O0 : Ext Z.heap h10 := ext_trans O0 E10
      have F_modCount_b10 : Fld Z h10 b10 "java/util/AbstractList" "modCount" "I" (.int 0) := D10 (Or.inl (wq hw 22 rfl)) (ty := .int) (by decide)
      have F_elementData_b10 : Fld Z h10 b10 "java/util/ArrayList" "elementData" "[Ljava/lang/Object;" .null := D10 (Or.inl (wq hw 25 rfl)) (ty := (.array (.object "java/lang/Object"))) (by decide)
      have F_size_b10 : Fld Z h10 b10 "java/util/ArrayList" "size" "I" (.int 0) := D10 (Or.inl (wq hw 209 rfl)) (ty := .int) (by decide)
      refine OEndsH.st (S' := T10.setTop (mkF m 106 #[vi p0, vj p1, .second, vj p2, .second, vj p3, .second, vi p4, vi 1, vi y2, vj y3, .second, vj y4, .second, vr b7, vr b5, .unset, .unset] [(.ref b10), (.ref b10)])) (fun _ k => ?_) ?_
      · refine XS.dup X10.here hx rfl (hb hby at_105) rfl rfl ?_
        exact k
      obtain ⟨_, T11, h11, L11, X11, e11, hQ11, st11⟩ := specC X10 hx hZ rfl hown (wq hw 3 rfl) (wq hw 4 rfl) (wq hw 5 rfl) (by decide) (kc := 0) (ks := 0) (Con.sb (W := 1) (rm_alInit l hD b10 xde O0 A10 F_elementData_b10 F_size_b10 F_modCount_b10 ge_b10 S_DE) hZ (wq hw 5 rfl) (wq hw 2 rfl) (by decide) (by decide)) e10 (a := b10) (g := (mkF m 106 #[vi p0, vj p1, .second, vj p2, .second, vj p3, .second, vi p4, vi 1, vi y2, vj y3, .second, vj y4, .second, vr b7, vr b5, .unset, .unset] [(.ref b10), (.ref b10)])) rfl (by rw [hml]; rfl) (argsL := []) (rest := [(.ref b10)]) (lenOf pd_1 rfl) rfl (by show 2 * 0 + _ ≤ _; exact Nat.le_of_eq rfl) (hb hby at_106) (by decide) (by decide)
      obtain ⟨rfl, Nq11, Kq11, Eq11, Fe11, Fs11, Fm11⟩ := hQ11
      refine OEndsH.st st11 ?_
      replace N4 := Fr.app N4 Nq11
      replace A10 := A10.keep Kq11
      have S_b10' : Safe Z EL vm0 h11 b10 := Safe.keep Kq11 (sfS S_b10 sf0) A0.1 S_b10
      have A' : CHr Z EL s.vm s.heap vm0 h11 := A0.trans (CHr.keep Kq11 (sfS S_b10 sf0) A0.1)
      replace S_b10 := S_b10'
      replace A0 := A'
      replace hk0 := Nat.le_trans hk0 Kq11.1
      replace O0 : Ext Z.heap h11 := ext_keep O0 Kq11 (allS ge_b10 all0)
      refine OEndsH.st (S' := T11.setTop (mkF m 111 #[vi p0, vj p1, .second, vj p2, .second, vj p3, .second, vi p4, vi 1, vi y2, vj y3, .second, vj y4, .second, vr b7, vr b10, .unset, .unset] [])) (fun _ k => ?_) ?_
      · refine XS.astore X11.here hx rfl (hb hby at_109) rfl rfl (l' := #[vi p0, vj p1, .second, vj p2, .second, vj p3, .second, vi p4, vi 1, vi y2, vj y3, .second, vj y4, .second, vr b7, vr b10, .unset, .unset]) rfl ?_
        exact k
      rcases hy2 with rfl | rfl
      · refine OEndsH.st (S' := T11.setTop (mkF m 133 #[vi p0, vj p1, .second, vj p2, .second, vj p3, .second, vi p4, vi 1, vi 0, vj y3, .second, vj y4, .second, vr b7, vr b10, .unset, .unset] [])) (fun _ k => ?_) ?_
        · refine XS.iload X11.here hx rfl (hb hby at_111) rfl ?_
          refine XS.ifYes X11.here hx rfl (pc0 := 113) (pc' := 133) rfl (hb hby at_113) rfl ((if0 _ _).trans (teq (by decide)).1) (by decide) (by decide) ?_
          exact k
        obtain ⟨T12, h12, X12, e12, E12, A12, D12, U12, st12⟩ := newO X11 hx hZ hown (wq hw 26 rfl) (wq hw 27 rfl) (wq hw 28 rfl) e11 (g := (mkF m 133 #[vi p0, vj p1, .second, vj p2, .second, vj p3, .second, vi p4, vi 1, vi 0, vj y3, .second, vj y4, .second, vr b7, vr b10, .unset, .unset] [])) rfl (hb hby at_133) (by decide) (by decide)
        obtain ⟨b12, g12⟩ : ∃ z, z = h11.size := ⟨_, rfl⟩
        rw [← g12] at A12 D12 U12 st12
        refine OEndsH.st st12 ?_
        have ne_b10_b12 : b10 ≠ b12 := Nat.ne_of_lt (Nat.lt_of_lt_of_le A10.lt (Nat.le_of_eq g12.symm))
        have ge_b12 : Z.heap.size ≤ b12 := Nat.le_trans O0.1 (Nat.le_of_eq g12.symm)
        have S_b12 : Safe Z EL vm0 h11 b12 := Safe.new (Nat.le_of_eq g12.symm)
        replace A10 := A10.ext E12
        replace Fe11 := Fe11.ext E12
        replace Fs11 := Fs11.ext E12
        replace Fm11 := Fm11.ext E12
        have S_b10' : Safe Z EL vm0 h12 b10 := Safe.ext E12 A0.1 S_b10
        have S_b12' : Safe Z EL vm0 h12 b12 := Safe.ext E12 A0.1 S_b12
        have A' : CHr Z EL s.vm s.heap vm0 h12 := A0.trans (CHr.ext E12 A0.1)
        replace S_b10 := S_b10'
        replace S_b12 := S_b12'
        replace A0 := A'
        replace hk0 := Nat.le_trans hk0 E12.1
        replace O0 : Ext Z.heap h12 := ext_trans O0 E12
        have F_previous_b12 : Fld Z h12 b12 "com/example/anteroom/anteroom/store/VersionChanges" "previous" "Ljava/lang/String;" .null := D12 (Or.inr (wq hw 39 rfl)) (ty := (.object "java/lang/String")) (by decide)
        have F_added_b12 : Fld Z h12 b12 "com/example/anteroom/anteroom/store/VersionChanges" "added" "J" (.long 0) := D12 (Or.inr (wq hw 41 rfl)) (ty := .long) (by decide)
        have F_modified_b12 : Fld Z h12 b12 "com/example/anteroom/anteroom/store/VersionChanges" "modified" "J" (.long 0) := D12 (Or.inr (wq hw 43 rfl)) (ty := .long) (by decide)
        have F_removed_b12 : Fld Z h12 b12 "com/example/anteroom/anteroom/store/VersionChanges" "removed" "Ljava/util/List;" .null := D12 (Or.inr (wq hw 45 rfl)) (ty := (.object "java/util/List")) (by decide)
        have F_unchanged_b12 : Fld Z h12 b12 "com/example/anteroom/anteroom/store/VersionChanges" "unchanged" "J" (.long 0) := D12 (Or.inr (wq hw 47 rfl)) (ty := .long) (by decide)
        refine OEndsH.st (S' := T12.setTop (mkF m 147 #[vi p0, vj p1, .second, vj p2, .second, vj p3, .second, vi p4, vi 1, vi 0, vj y3, .second, vj y4, .second, vr b7, vr b10, .unset, .unset] [(.long p3), (.ref b10), (.long y4), (.long y3), (.ref b7), (.ref b12), (.ref b12)])) (fun _ k => ?_) ?_
        · refine XS.dup X12.here hx rfl (hb hby at_136) rfl rfl ?_
          refine XS.aload X12.here hx rfl (hb hby at_137) rfl rfl ?_
          refine XS.lload X12.here hx rfl (hb hby at_139) rfl ?_
          refine XS.lload X12.here hx rfl (hb hby at_141) rfl ?_
          show Steps p.tables e below (T12.setTop (mkF m 143 #[vi p0, vj p1, .second, vj p2, .second, vj p3, .second, vi p4, vi 1, vi 0, vj y3, .second, vj y4, .second, vr b7, vr b10, .unset, .unset] [(.long y4), (.long y3), (.ref b7), (.ref b12), (.ref b12)])) _
          refine XS.aload X12.here hx rfl (hb hby at_143) rfl rfl ?_
          refine XS.lload X12.here hx rfl (hb hby at_145) rfl ?_
          exact k
        obtain ⟨_, T13, h13, L13, X13, e13, hQ13, st13⟩ := specC X12 hx hZ rfl hown (wq hw 29 rfl) (wq hw 30 rfl) (wq hw 31 rfl) (by decide) (kc := 0) (ks := 0) (Con.sb (W := 1) (rm_vcInit l hD b12 (.ref b7) y3 y4 b10 p3 O0 A12 F_previous_b12 F_added_b12 F_modified_b12 F_removed_b12 F_unchanged_b12 ge_b12 rfl) hZ (wq hw 31 rfl) (wq hw 28 rfl) (by decide) (by decide)) e12 (a := b12) (g := (mkF m 147 #[vi p0, vj p1, .second, vj p2, .second, vj p3, .second, vi p4, vi 1, vi 0, vj y3, .second, vj y4, .second, vr b7, vr b10, .unset, .unset] [(.long p3), (.ref b10), (.long y4), (.long y3), (.ref b7), (.ref b12), (.ref b12)])) rfl (by rw [hml]; rfl) (argsL := [(.ref b7), (.long y3), (.long y4), (.ref b10), (.long p3)]) (rest := [(.ref b12)]) (lenOf pd_21 rfl) rfl (by show 2 * 0 + _ ≤ _; exact Nat.le_of_eq rfl) (hb hby at_147) (by decide) (by decide)
        obtain ⟨rfl, Nq13, Kq13, Eq13, F013, F113, F213, F313, F413⟩ := hQ13
        refine OEndsH.st st13 ?_
        replace N4 := Fr.app N4 Nq13
        replace A10 := A10.keep Kq13
        replace Fe11 := Fe11.keep Kq13 (ninS ne_b10_b12 nin0)
        replace Fs11 := Fs11.keep Kq13 (ninS ne_b10_b12 nin0)
        replace Fm11 := Fm11.keep Kq13 (ninS ne_b10_b12 nin0)
        replace A12 := A12.keep Kq13
        have S_b10' : Safe Z EL vm0 h13 b10 := Safe.keep Kq13 (sfS S_b12 sf0) A0.1 S_b10
        have S_b12' : Safe Z EL vm0 h13 b12 := Safe.keep Kq13 (sfS S_b12 sf0) A0.1 S_b12
        have A' : CHr Z EL s.vm s.heap vm0 h13 := A0.trans (CHr.keep Kq13 (sfS S_b12 sf0) A0.1)
        replace S_b10 := S_b10'
        replace S_b12 := S_b12'
        replace A0 := A'
        replace hk0 := Nat.le_trans hk0 Kq13.1
        replace O0 : Ext Z.heap h13 := ext_keep O0 Kq13 (allS ge_b12 all0)
        refine OEndsH.st (S' := T13.setTop (mkF m 152 #[vi p0, vj p1, .second, vj p2, .second, vj p3, .second, vi p4, vi 1, vi 0, vj y3, .second, vj y4, .second, vr b7, vr b10, vr b12, .unset] [])) (fun _ k => ?_) ?_
        · refine XS.astore X13.here hx rfl (hb hby at_150) rfl rfl (l' := #[vi p0, vj p1, .second, vj p2, .second, vj p3, .second, vi p4, vi 1, vi 0, vj y3, .second, vj y4, .second, vr b7, vr b10, vr b12, .unset]) rfl ?_
          exact k
        refine OEndsH.st (S' := T13.setTop (mkF m 161 #[vi p0, vj p1, .second, vj p2, .second, vj p3, .second, vi p4, vi 1, vi 0, vj y3, .second, vj y4, .second, vr b7, vr b10, vr b12, .unset] [(.int (lcmpW y3 (0 : Int64)))])) (fun _ k => ?_) ?_
        · refine XS.iload X13.here hx rfl (hb hby at_152) rfl ?_
          refine XS.ifNo X13.here hx rfl (hb hby at_154) rfl ((if0 _ _).trans (feq (by decide)).1) ?_
          refine XS.lload X13.here hx rfl (hb hby at_157) rfl ?_
          refine XS.lconst X13.here hx rfl (hb hby at_159) ?_
          show Steps p.tables e below (T13.setTop (mkF m 160 #[vi p0, vj p1, .second, vj p2, .second, vj p3, .second, vi p4, vi 1, vi 0, vj y3, .second, vj y4, .second, vr b7, vr b10, vr b12, .unset] [(.long 0), (.long y3)])) _
          refine XS.lcmp X13.here hx rfl (hb hby at_160) rfl ?_
          exact k
        obtain ⟨_, ⟨y14, T14, lc14, hy14, X14, e14, N14, rfl⟩, st14⟩ : OJ p e below (fun S' => ∃ (y14 : Int32) (T' : State) (lc : List Loc), ((y14 = 1 ∧ (¬ ((.ref b7) : Value) = .null ∧ lcmpW y3 0 = 0 ∧ lcmpW y4 0 = 0 ∧ True)) ∨ (y14 = 0 ∧ ¬ (¬ ((.ref b7) : Value) = .null ∧ lcmpW y3 0 = 0 ∧ lcmpW y4 0 = 0 ∧ True))) ∧ Stand p l e room_1 (s.setVm vm0) m #[(.int p0), (.long p1), (.long p2), (.long p3), (.int p4)] below meth c T' lc 5 14 ∧ T'.heap = h13 ∧ Fr Z.heap.size lc ∧ S' = T'.setTop (mkF m 181 #[vi p0, vj p1, .second, vj p2, .second, vj p3, .second, vi p4, vi 1, vi 0, vj y3, .second, vj y4, .second, vr b7, vr b10, vr b12, .unset] [(.int y14)])) (T13.setTop (mkF m 161 #[vi p0, vj p1, .second, vj p2, .second, vj p3, .second, vi p4, vi 1, vi 0, vj y3, .second, vj y4, .second, vr b7, vr b10, vr b12, .unset] [(.int (lcmpW y3 (0 : Int64)))])) := by
          rcases Classical.em ((lcmpW y3 (0 : Int64)) = (0 : Int32)) with f1 | f1
          · refine OJ.st (S' := T13.setTop (mkF m 168 #[vi p0, vj p1, .second, vj p2, .second, vj p3, .second, vi p4, vi 1, vi 0, vj y3, .second, vj y4, .second, vr b7, vr b10, vr b12, .unset] [(.int (lcmpW y4 (0 : Int64)))])) (fun _ k => ?_) ?_
            · refine XS.ifNo X13.here hx rfl (hb hby at_161) rfl ((if0 _ _).trans (teq f1).2) ?_
              refine XS.lload X13.here hx rfl (hb hby at_164) rfl ?_
              refine XS.lconst X13.here hx rfl (hb hby at_166) ?_
              refine XS.lcmp X13.here hx rfl (hb hby at_167) rfl ?_
              exact k
            rcases Classical.em ((lcmpW y4 (0 : Int64)) = (0 : Int32)) with f2 | f2
            · refine OJ.st (S' := T13.setTop (mkF m 181 #[vi p0, vj p1, .second, vj p2, .second, vj p3, .second, vi p4, vi 1, vi 0, vj y3, .second, vj y4, .second, vr b7, vr b10, vr b12, .unset] [(.int 1)])) (fun _ k => ?_) ?_
              · refine XS.ifNo X13.here hx rfl (hb hby at_168) rfl ((if0 _ _).trans (teq f2).2) ?_
                refine XS.iload X13.here hx rfl (hb hby at_171) rfl ?_
                refine XS.ifNo X13.here hx rfl (hb hby at_173) rfl ((if0 _ _).trans (teq (by decide)).2) ?_
                refine XS.iconst X13.here hx rfl (hb hby at_176) ?_
                show Steps p.tables e below (T13.setTop (mkF m 177 #[vi p0, vj p1, .second, vj p2, .second, vj p3, .second, vi p4, vi 1, vi 0, vj y3, .second, vj y4, .second, vr b7, vr b10, vr b12, .unset] [(.int 1)])) _
                refine XS.goto X13.here hx rfl (pc0 := 177) (pc' := 181) rfl (hb hby at_177) (by decide) (by decide) ?_
                exact k
              exact OJ.here ⟨(1 : Int32), T13, _, Or.inl ⟨rfl, (fun q => nomatch q), f1, f2, trivial⟩, X13, e13, N4, rfl⟩
            · refine OJ.st (S' := T13.setTop (mkF m 181 #[vi p0, vj p1, .second, vj p2, .second, vj p3, .second, vi p4, vi 1, vi 0, vj y3, .second, vj y4, .second, vr b7, vr b10, vr b12, .unset] [(.int 0)])) (fun _ k => ?_) ?_
              · refine XS.ifYes X13.here hx rfl (pc0 := 168) (pc' := 180) rfl (hb hby at_168) rfl ((if0 _ _).trans (feq f2).2) (by decide) (by decide) ?_
                refine XS.iconst X13.here hx rfl (hb hby at_180) ?_
                exact k
              exact OJ.here ⟨(0 : Int32), T13, _, Or.inr ⟨rfl, fun q => f2 q.2.2.1⟩, X13, e13, N4, rfl⟩
          · refine OJ.st (S' := T13.setTop (mkF m 181 #[vi p0, vj p1, .second, vj p2, .second, vj p3, .second, vi p4, vi 1, vi 0, vj y3, .second, vj y4, .second, vr b7, vr b10, vr b12, .unset] [(.int 0)])) (fun _ k => ?_) ?_
            · refine XS.ifYes X13.here hx rfl (pc0 := 161) (pc' := 180) rfl (hb hby at_161) rfl ((if0 _ _).trans (feq f1).2) (by decide) (by decide) ?_
              refine XS.iconst X13.here hx rfl (hb hby at_180) ?_
              exact k
            exact OJ.here ⟨(0 : Int32), T13, _, Or.inr ⟨rfl, fun q => f1 q.2.1⟩, X13, e13, N4, rfl⟩
        refine OEndsH.st st14 ?_
        refine OEndsH.st (S' := T14.setTop (mkF m 183 #[vi p0, vj p1, .second, vj p2, .second, vj p3, .second, vi p4, vi 1, vi 0, vj y3, .second, vj y4, .second, vr b7, vr b10, vr b12, vi y14] [])) (fun _ k => ?_) ?_
        · refine XS.istore X14.here hx rfl (hb hby at_181) rfl (l' := #[vi p0, vj p1, .second, vj p2, .second, vj p3, .second, vi p4, vi 1, vi 0, vj y3, .second, vj y4, .second, vr b7, vr b10, vr b12, vi y14]) rfl ?_
          exact k
        refine OEndsH.st (S' := T14.setTop (mkF m 185 #[vi p0, vj p1, .second, vj p2, .second, vj p3, .second, vi p4, vi 1, vi 0, vj y3, .second, vj y4, .second, vr b7, vr b10, vr b12, vi y14] [(.ref b12)])) (fun _ k => ?_) ?_
        · refine XS.aload X14.here hx rfl (hb hby at_183) rfl rfl ?_
          exact k
        obtain ⟨_, T15, h15, L15, X15, e15, hQ15, st15⟩ := virtC X14 hx hZ (y := (⟨"com/example/anteroom/anteroom/store/VersionChanges", "isNone", "()Z"⟩ : MethodName)) (z := (⟨"com/example/anteroom/anteroom/store/VersionChanges", "isNone", "()Z"⟩ : MethodName)) hown (wq hw 48 rfl) (wq hw 49 rfl) (nf_sel (args := #[]) (mvT hZ (wq hw 51 rfl)) rfl) (wq hw 51 rfl) (wq hw 50 rfl) (by decide) (kc := 0) (ks := 0) (Con.sb (W := 0) (rm_isNone0 l hD b12 (.ref b7) y3 y4 b10 O0 A12 F013 F113 F213 F313 A10 Fs11 rfl) hZ (wq hw 52 rfl) (wq hw 28 rfl) (by decide) (by decide)) e14 A12 (g := (mkF m 185 #[vi p0, vj p1, .second, vj p2, .second, vj p3, .second, vi p4, vi 1, vi 0, vj y3, .second, vj y4, .second, vr b7, vr b10, vr b12, vi y14] [(.ref b12)])) rfl (by rw [hml]; rfl) (argsL := []) (rest := []) (lenOf pd_8 rfl) rfl (by show 2 * 0 + _ ≤ _; exact Nat.le_of_eq rfl) (hb hby at_185) (by decide) (by decide)
        obtain ⟨r15, rfl, hr15, Nq15, Hq15⟩ := hQ15
        refine OEndsH.st st15 ?_
        replace N14 := Fr.app N14 Nq15
        replace e15 := e15.trans Hq15
        have hry : r15 = y14 := by
          rcases hr15 with ⟨q1, q2⟩ | ⟨q1, q2⟩ <;> rcases hy14 with ⟨q3, q4⟩ | ⟨q3, q4⟩
          · rw [q1, q3]
          · exact absurd q2 q4
          · exact absurd q4 q2
          · rw [q1, q3]
        refine OEndsH.st (S' := T15.setTop (mkF m 198 #[vi p0, vj p1, .second, vj p2, .second, vj p3, .second, vi p4, vi 1, vi 0, vj y3, .second, vj y4, .second, vr b7, vr b10, vr b12, vi y14] [(.int 1)])) (fun _ k => ?_) ?_
        · refine XS.iload X15.here hx rfl (hb hby at_188) rfl ?_
          refine XS.icmpNo X15.here hx rfl (hb hby at_190) rfl (teq hry).2 ?_
          refine XS.iconst X15.here hx rfl (hb hby at_193) ?_
          refine XS.goto X15.here hx rfl (pc0 := 194) (pc' := 198) rfl (hb hby at_194) (by decide) (by decide) ?_
          exact k
        exact OEndsH.ret X15 hx hZ hEL e15 hS0 hk0 A0 hret hlk (by decide) (Or.inl ⟨rfl, by simp, _, rfl⟩) (hb hby at_198) (by decide) (by decide) ⟨rfl, N14⟩
      · refine OEndsH.st (S' := T11.setTop (mkF m 118 #[vi p0, vj p1, .second, vj p2, .second, vj p3, .second, vi p4, vi 1, vi 1, vj y3, .second, vj y4, .second, vr b7, vr b10, .unset, .unset] [(.ref b10)])) (fun _ k => ?_) ?_
        · refine XS.iload X11.here hx rfl (hb hby at_111) rfl ?_
          refine XS.ifNo X11.here hx rfl (hb hby at_113) rfl ((if0 _ _).trans (feq (by decide)).1) ?_
          refine XS.aload X11.here hx rfl (hb hby at_116) rfl rfl ?_
          exact k
        obtain ⟨T12, h12, X12, e12, E12, A12, D12, U12, st12⟩ := newO X11 hx hZ hown (wq hw 81 rfl) (wq hw 82 rfl) (wq hw 83 rfl) e11 (g := (mkF m 118 #[vi p0, vj p1, .second, vj p2, .second, vj p3, .second, vi p4, vi 1, vi 1, vj y3, .second, vj y4, .second, vr b7, vr b10, .unset, .unset] [(.ref b10)])) rfl (hb hby at_118) (by decide) (by decide)
        obtain ⟨b12, g12⟩ : ∃ z, z = h11.size := ⟨_, rfl⟩
        rw [← g12] at A12 D12 U12 st12
        refine OEndsH.st st12 ?_
        have ne_b10_b12 : b10 ≠ b12 := Nat.ne_of_lt (Nat.lt_of_lt_of_le A10.lt (Nat.le_of_eq g12.symm))
        have ge_b12 : Z.heap.size ≤ b12 := Nat.le_trans O0.1 (Nat.le_of_eq g12.symm)
        have S_b12 : Safe Z EL vm0 h11 b12 := Safe.new (Nat.le_of_eq g12.symm)
        replace A10 := A10.ext E12
        replace Fe11 := Fe11.ext E12
        replace Fs11 := Fs11.ext E12
        replace Fm11 := Fm11.ext E12
        have S_b10' : Safe Z EL vm0 h12 b10 := Safe.ext E12 A0.1 S_b10
        have S_b12' : Safe Z EL vm0 h12 b12 := Safe.ext E12 A0.1 S_b12
        have A' : CHr Z EL s.vm s.heap vm0 h12 := A0.trans (CHr.ext E12 A0.1)
        replace S_b10 := S_b10'
        replace S_b12 := S_b12'
        replace A0 := A'
        replace hk0 := Nat.le_trans hk0 E12.1
        replace O0 : Ext Z.heap h12 := ext_trans O0 E12
        have F_value_b12 : Fld Z h12 b12 "com/example/anteroom/anteroom/store/LogicalPath" "value" "Ljava/lang/String;" .null := D12 (Or.inr (wq hw 196 rfl)) (ty := (.object "java/lang/String")) (by decide)
        refine OEndsH.st (S' := T12.setTop (mkF m 122 #[vi p0, vj p1, .second, vj p2, .second, vj p3, .second, vi p4, vi 1, vi 1, vj y3, .second, vj y4, .second, vr b7, vr b10, .unset, .unset] [(.ref b12), (.ref b12), (.ref b10)])) (fun _ k => ?_) ?_
        · refine XS.dup X12.here hx rfl (hb hby at_121) rfl rfl ?_
          exact k
        obtain ⟨b13, T13, h13, k113, t13, kb13, X13, e13, E13, hS13, hk13, hZ13, hown13, Es13, Fc13, Fv13, V13, -, -, Aq13, -, nes13, st13⟩ := ldcCH X12 hx hZ hown (wq hw 84 rfl) hsa e12 hS0 hk0 hEL (List.mem_of_getElem? (i := 5) rfl) A0.1 (vs := [(.int 97)]) (z := (1 : Int32)) ⟨by decide, by decide⟩ (by decide) rfl (g := (mkF m 122 #[vi p0, vj p1, .second, vj p2, .second, vj p3, .second, vi p4, vi 1, vi 1, vj y3, .second, vj y4, .second, vr b7, vr b10, .unset, .unset] [(.ref b12), (.ref b12), (.ref b10)])) rfl (hb hby at_122) (n := 4) (by decide) (by decide) (by decide) (by decide)
        replace hZ13 : Z.Warmed39 T13.vm := hZ13
        replace hown13 : T13.vm.findClass "com/example/anteroom/anteroom/store/VersionChangesIsNonePinLaw" = some m.cls := hown13
        replace S_b10 : Safe Z EL T13.vm h13 b10 := Aq13.safe A10.lt S_b10
        replace S_b12 : Safe Z EL T13.vm h13 b12 := Aq13.safe A12.lt S_b12
        replace A0 : CHr Z EL s.vm s.heap T13.vm h13 := A0.trans Aq13
        refine OEndsH.st st13 ?_
        have ne_b10_b13 : b10 ≠ b13 := (nes13 b10 S_b10).1
        have ne_b10_t13 : b10 ≠ t13 := (nes13 b10 S_b10).2
        have ne_b12_b13 : b12 ≠ b13 := (nes13 b12 S_b12).1
        have ne_b12_t13 : b12 ≠ t13 := (nes13 b12 S_b12).2
        replace A10 := A10.ext E13
        replace Fe11 := Fe11.ext E13
        replace Fs11 := Fs11.ext E13
        replace Fm11 := Fm11.ext E13
        replace A12 := A12.ext E13
        replace F_value_b12 := F_value_b12.ext E13
        replace O0 : Ext Z.heap h13 := ext_trans O0 E13
        obtain ⟨_, T14, h14, L14, vm14, k114, X14, e14, hQ14, hS14, hk14, hZ14, hown14, Aq14, st14⟩ := specH X13 hx hZ13 rfl hown13 (wq hw 87 rfl) (wq hw 88 rfl) (wq hw 89 rfl) (by decide) (kc := 12) (ks := 108) (ConH.sb (W := 2) (rm_lpInit l hD b12 b13 t13 kb13 O0 A12 F_value_b12 ge_b12 Es13 Fc13 Fv13 V13) hZ13 (wq hw 89 rfl) (wq hw 83 rfl) (by decide) (by decide) hEL A0.1 (allS ⟨A12.lt, S_b12⟩ all0)) e13 hS13 hk13 (a := b12) (g := (mkF m 124 #[vi p0, vj p1, .second, vj p2, .second, vj p3, .second, vi p4, vi 1, vi 1, vj y3, .second, vj y4, .second, vr b7, vr b10, .unset, .unset] [(.ref b13), (.ref b12), (.ref b12), (.ref b10)])) rfl (by rw [hml]; rfl) (argsL := [(.ref b13)]) (rest := [(.ref b12), (.ref b10)]) (lenOf pd_22 rfl) rfl (by show 2 * 0 + _ ≤ _; exact Nat.le_of_eq rfl) (hb hby at_124) (by decide) (by decide)
        obtain ⟨rfl, Nq14, Kq14⟩ := hQ14
        replace S_b10 : Safe Z EL vm14 h14 b10 := Aq14.safe A10.lt S_b10
        replace S_b12 : Safe Z EL vm14 h14 b12 := Aq14.safe A12.lt S_b12
        replace A0 : CHr Z EL s.vm s.heap vm14 h14 := A0.trans Aq14
        refine OEndsH.st st14 ?_
        replace N4 := Fr.app N4 Nq14
        replace A10 := A10.keep Kq14
        replace Fe11 := Fe11.keep Kq14 (ninS ne_b10_b12 nin0)
        replace Fs11 := Fs11.keep Kq14 (ninS ne_b10_b12 nin0)
        replace Fm11 := Fm11.keep Kq14 (ninS ne_b10_b12 nin0)
        replace A12 := A12.keep Kq14
        replace Es13 := Es13.keep Kq14
        replace Fc13 := Fc13.keep Kq14 (ninS (Ne.symm ne_b12_b13) nin0)
        replace Fv13 := Fv13.keep Kq14 (ninS (Ne.symm ne_b12_b13) nin0)
        replace V13 := V13.keep Kq14 (ninS (Ne.symm ne_b12_t13) nin0)
        replace O0 : Ext Z.heap h14 := ext_keep O0 Kq14 (allS ge_b12 all0)
        obtain ⟨_, T15, h15, L15, X15, e15, hQ15, st15⟩ := faceC X14 hx hZ14 (xi := (⟨"java/util/List", "add", "(Ljava/lang/Object;)Z"⟩ : MethodName)) (y := (⟨"java/util/ArrayList", "add", "(Ljava/lang/Object;)Z"⟩ : MethodName)) hown14 (wq hw 197 rfl) (wq hw 198 rfl) (wq hw 199 rfl) (wq hw 200 rfl) (wq hw 201 rfl) (wq hw 202 rfl) (wq hw 203 rfl) (wq hw 204 rfl) (by decide) (kc := 1) (ks := 10) (Con.sb (W := 0) (rm_add0 l hD b10 b12 xde xkde O0 A10 Fe11 Fs11 Fm11 ge_b10 S_DE V_DE A12) hZ14 (wq hw 205 rfl) (wq hw 2 rfl) (by decide) (by decide)) e14 A10 (g := (mkF m 127 #[vi p0, vj p1, .second, vj p2, .second, vj p3, .second, vi p4, vi 1, vi 1, vj y3, .second, vj y4, .second, vr b7, vr b10, .unset, .unset] [(.ref b12), (.ref b10)])) rfl (by rw [hml]; rfl) (argsL := [(.ref b12)]) (rest := []) (lenOf pd_19 rfl) rfl (by show 2 * 0 + _ ≤ _; exact Nat.le_of_eq rfl) (hb hby at_127) (by decide) (by decide)
        obtain ⟨rfl, Nq15, Kq15, Fs15⟩ := hQ15
        refine OEndsH.st st15 ?_
        replace N4 := Fr.app N4 Nq15
        replace A10 := A10.keep Kq15
        replace A12 := A12.keep Kq15
        replace Es13 := Es13.keep Kq15
        replace Fc13 := Fc13.keep Kq15 (ninS (Ne.symm ne_b10_b13) nin0)
        replace Fv13 := Fv13.keep Kq15 (ninS (Ne.symm ne_b10_b13) nin0)
        replace V13 := V13.keep Kq15 (ninS (Ne.symm ne_b10_t13) nin0)
        have S_b10' : Safe Z EL vm14 h15 b10 := Safe.keep Kq15 (sfS S_b10 sf0) A0.1 S_b10
        have S_b12' : Safe Z EL vm14 h15 b12 := Safe.keep Kq15 (sfS S_b10 sf0) A0.1 S_b12
        have A' : CHr Z EL s.vm s.heap vm14 h15 := A0.trans (CHr.keep Kq15 (sfS S_b10 sf0) A0.1)
        replace S_b10 := S_b10'
        replace S_b12 := S_b12'
        replace A0 := A'
        replace hk14 := Nat.le_trans hk14 Kq15.1
        replace O0 : Ext Z.heap h15 := ext_keep O0 Kq15 (allS ge_b10 all0)
        clear A12
        clear Es13
        clear Fc13
        clear Fv13
        clear V13
        refine OEndsH.st (S' := T15.setTop (mkF m 133 #[vi p0, vj p1, .second, vj p2, .second, vj p3, .second, vi p4, vi 1, vi 1, vj y3, .second, vj y4, .second, vr b7, vr b10, .unset, .unset] [])) (fun _ k => ?_) ?_
        · refine XS.pop X15.here hx rfl (hb hby at_132) rfl rfl ?_
          exact k
        obtain ⟨T16, h16, X16, e16, E16, A16, D16, U16, st16⟩ := newO X15 hx hZ14 hown14 (wq hw 26 rfl) (wq hw 27 rfl) (wq hw 28 rfl) e15 (g := (mkF m 133 #[vi p0, vj p1, .second, vj p2, .second, vj p3, .second, vi p4, vi 1, vi 1, vj y3, .second, vj y4, .second, vr b7, vr b10, .unset, .unset] [])) rfl (hb hby at_133) (by decide) (by decide)
        obtain ⟨b16, g16⟩ : ∃ z, z = h15.size := ⟨_, rfl⟩
        rw [← g16] at A16 D16 U16 st16
        refine OEndsH.st st16 ?_
        have ne_b10_b16 : b10 ≠ b16 := Nat.ne_of_lt (Nat.lt_of_lt_of_le A10.lt (Nat.le_of_eq g16.symm))
        have ge_b16 : Z.heap.size ≤ b16 := Nat.le_trans O0.1 (Nat.le_of_eq g16.symm)
        have S_b16 : Safe Z EL vm14 h15 b16 := Safe.new (Nat.le_of_eq g16.symm)
        replace A10 := A10.ext E16
        replace Fs15 := Fs15.ext E16
        have S_b10' : Safe Z EL vm14 h16 b10 := Safe.ext E16 A0.1 S_b10
        have S_b16' : Safe Z EL vm14 h16 b16 := Safe.ext E16 A0.1 S_b16
        have A' : CHr Z EL s.vm s.heap vm14 h16 := A0.trans (CHr.ext E16 A0.1)
        replace S_b10 := S_b10'
        replace S_b16 := S_b16'
        replace A0 := A'
        replace hk14 := Nat.le_trans hk14 E16.1
        replace O0 : Ext Z.heap h16 := ext_trans O0 E16
        have F_previous_b16 : Fld Z h16 b16 "com/example/anteroom/anteroom/store/VersionChanges" "previous" "Ljava/lang/String;" .null := D16 (Or.inr (wq hw 39 rfl)) (ty := (.object "java/lang/String")) (by decide)
        have F_added_b16 : Fld Z h16 b16 "com/example/anteroom/anteroom/store/VersionChanges" "added" "J" (.long 0) := D16 (Or.inr (wq hw 41 rfl)) (ty := .long) (by decide)
        have F_modified_b16 : Fld Z h16 b16 "com/example/anteroom/anteroom/store/VersionChanges" "modified" "J" (.long 0) := D16 (Or.inr (wq hw 43 rfl)) (ty := .long) (by decide)
        have F_removed_b16 : Fld Z h16 b16 "com/example/anteroom/anteroom/store/VersionChanges" "removed" "Ljava/util/List;" .null := D16 (Or.inr (wq hw 45 rfl)) (ty := (.object "java/util/List")) (by decide)
        have F_unchanged_b16 : Fld Z h16 b16 "com/example/anteroom/anteroom/store/VersionChanges" "unchanged" "J" (.long 0) := D16 (Or.inr (wq hw 47 rfl)) (ty := .long) (by decide)
        refine OEndsH.st (S' := T16.setTop (mkF m 147 #[vi p0, vj p1, .second, vj p2, .second, vj p3, .second, vi p4, vi 1, vi 1, vj y3, .second, vj y4, .second, vr b7, vr b10, .unset, .unset] [(.long p3), (.ref b10), (.long y4), (.long y3), (.ref b7), (.ref b16), (.ref b16)])) (fun _ k => ?_) ?_
        · refine XS.dup X16.here hx rfl (hb hby at_136) rfl rfl ?_
          refine XS.aload X16.here hx rfl (hb hby at_137) rfl rfl ?_
          refine XS.lload X16.here hx rfl (hb hby at_139) rfl ?_
          refine XS.lload X16.here hx rfl (hb hby at_141) rfl ?_
          show Steps p.tables e below (T16.setTop (mkF m 143 #[vi p0, vj p1, .second, vj p2, .second, vj p3, .second, vi p4, vi 1, vi 1, vj y3, .second, vj y4, .second, vr b7, vr b10, .unset, .unset] [(.long y4), (.long y3), (.ref b7), (.ref b16), (.ref b16)])) _
          refine XS.aload X16.here hx rfl (hb hby at_143) rfl rfl ?_
          refine XS.lload X16.here hx rfl (hb hby at_145) rfl ?_
          exact k
        obtain ⟨_, T17, h17, L17, X17, e17, hQ17, st17⟩ := specC X16 hx hZ14 rfl hown14 (wq hw 29 rfl) (wq hw 30 rfl) (wq hw 31 rfl) (by decide) (kc := 0) (ks := 0) (Con.sb (W := 1) (rm_vcInit l hD b16 (.ref b7) y3 y4 b10 p3 O0 A16 F_previous_b16 F_added_b16 F_modified_b16 F_removed_b16 F_unchanged_b16 ge_b16 rfl) hZ14 (wq hw 31 rfl) (wq hw 28 rfl) (by decide) (by decide)) e16 (a := b16) (g := (mkF m 147 #[vi p0, vj p1, .second, vj p2, .second, vj p3, .second, vi p4, vi 1, vi 1, vj y3, .second, vj y4, .second, vr b7, vr b10, .unset, .unset] [(.long p3), (.ref b10), (.long y4), (.long y3), (.ref b7), (.ref b16), (.ref b16)])) rfl (by rw [hml]; rfl) (argsL := [(.ref b7), (.long y3), (.long y4), (.ref b10), (.long p3)]) (rest := [(.ref b16)]) (lenOf pd_21 rfl) rfl (by show 2 * 0 + _ ≤ _; exact Nat.le_of_eq rfl) (hb hby at_147) (by decide) (by decide)
        obtain ⟨rfl, Nq17, Kq17, Eq17, F017, F117, F217, F317, F417⟩ := hQ17
        refine OEndsH.st st17 ?_
        replace N4 := Fr.app N4 Nq17
        replace A10 := A10.keep Kq17
        replace Fs15 := Fs15.keep Kq17 (ninS ne_b10_b16 nin0)
        replace A16 := A16.keep Kq17
        have S_b10' : Safe Z EL vm14 h17 b10 := Safe.keep Kq17 (sfS S_b16 sf0) A0.1 S_b10
        have S_b16' : Safe Z EL vm14 h17 b16 := Safe.keep Kq17 (sfS S_b16 sf0) A0.1 S_b16
        have A' : CHr Z EL s.vm s.heap vm14 h17 := A0.trans (CHr.keep Kq17 (sfS S_b16 sf0) A0.1)
        replace S_b10 := S_b10'
        replace S_b16 := S_b16'
        replace A0 := A'
        replace hk14 := Nat.le_trans hk14 Kq17.1
        replace O0 : Ext Z.heap h17 := ext_keep O0 Kq17 (allS ge_b16 all0)
        refine OEndsH.st (S' := T17.setTop (mkF m 152 #[vi p0, vj p1, .second, vj p2, .second, vj p3, .second, vi p4, vi 1, vi 1, vj y3, .second, vj y4, .second, vr b7, vr b10, vr b16, .unset] [])) (fun _ k => ?_) ?_
        · refine XS.astore X17.here hx rfl (hb hby at_150) rfl rfl (l' := #[vi p0, vj p1, .second, vj p2, .second, vj p3, .second, vi p4, vi 1, vi 1, vj y3, .second, vj y4, .second, vr b7, vr b10, vr b16, .unset]) rfl ?_
          exact k
        refine OEndsH.st (S' := T17.setTop (mkF m 161 #[vi p0, vj p1, .second, vj p2, .second, vj p3, .second, vi p4, vi 1, vi 1, vj y3, .second, vj y4, .second, vr b7, vr b10, vr b16, .unset] [(.int (lcmpW y3 (0 : Int64)))])) (fun _ k => ?_) ?_
        · refine XS.iload X17.here hx rfl (hb hby at_152) rfl ?_
          refine XS.ifNo X17.here hx rfl (hb hby at_154) rfl ((if0 _ _).trans (feq (by decide)).1) ?_
          refine XS.lload X17.here hx rfl (hb hby at_157) rfl ?_
          refine XS.lconst X17.here hx rfl (hb hby at_159) ?_
          show Steps p.tables e below (T17.setTop (mkF m 160 #[vi p0, vj p1, .second, vj p2, .second, vj p3, .second, vi p4, vi 1, vi 1, vj y3, .second, vj y4, .second, vr b7, vr b10, vr b16, .unset] [(.long 0), (.long y3)])) _
          refine XS.lcmp X17.here hx rfl (hb hby at_160) rfl ?_
          exact k
        obtain ⟨_, ⟨y18, T18, lc18, hy18, X18, e18, N18, rfl⟩, st18⟩ : OJ p e below (fun S' => ∃ (y18 : Int32) (T' : State) (lc : List Loc), ((y18 = 1 ∧ (¬ ((.ref b7) : Value) = .null ∧ lcmpW y3 0 = 0 ∧ lcmpW y4 0 = 0 ∧ False)) ∨ (y18 = 0 ∧ ¬ (¬ ((.ref b7) : Value) = .null ∧ lcmpW y3 0 = 0 ∧ lcmpW y4 0 = 0 ∧ False))) ∧ Stand p l e room_1 (s.setVm vm14) m #[(.int p0), (.long p1), (.long p2), (.long p3), (.int p4)] below meth c T' lc 21 141 ∧ T'.heap = h17 ∧ Fr Z.heap.size lc ∧ S' = T'.setTop (mkF m 181 #[vi p0, vj p1, .second, vj p2, .second, vj p3, .second, vi p4, vi 1, vi 1, vj y3, .second, vj y4, .second, vr b7, vr b10, vr b16, .unset] [(.int y18)])) (T17.setTop (mkF m 161 #[vi p0, vj p1, .second, vj p2, .second, vj p3, .second, vi p4, vi 1, vi 1, vj y3, .second, vj y4, .second, vr b7, vr b10, vr b16, .unset] [(.int (lcmpW y3 (0 : Int64)))])) := by
          rcases Classical.em ((lcmpW y3 (0 : Int64)) = (0 : Int32)) with f1 | f1
          · refine OJ.st (S' := T17.setTop (mkF m 168 #[vi p0, vj p1, .second, vj p2, .second, vj p3, .second, vi p4, vi 1, vi 1, vj y3, .second, vj y4, .second, vr b7, vr b10, vr b16, .unset] [(.int (lcmpW y4 (0 : Int64)))])) (fun _ k => ?_) ?_
            · refine XS.ifNo X17.here hx rfl (hb hby at_161) rfl ((if0 _ _).trans (teq f1).2) ?_
              refine XS.lload X17.here hx rfl (hb hby at_164) rfl ?_
              refine XS.lconst X17.here hx rfl (hb hby at_166) ?_
              refine XS.lcmp X17.here hx rfl (hb hby at_167) rfl ?_
              exact k
            rcases Classical.em ((lcmpW y4 (0 : Int64)) = (0 : Int32)) with f2 | f2
            · refine OJ.st (S' := T17.setTop (mkF m 181 #[vi p0, vj p1, .second, vj p2, .second, vj p3, .second, vi p4, vi 1, vi 1, vj y3, .second, vj y4, .second, vr b7, vr b10, vr b16, .unset] [(.int 0)])) (fun _ k => ?_) ?_
              · refine XS.ifNo X17.here hx rfl (hb hby at_168) rfl ((if0 _ _).trans (teq f2).2) ?_
                refine XS.iload X17.here hx rfl (hb hby at_171) rfl ?_
                refine XS.ifYes X17.here hx rfl (pc0 := 173) (pc' := 180) rfl (hb hby at_173) rfl ((if0 _ _).trans (feq (by decide)).2) (by decide) (by decide) ?_
                refine XS.iconst X17.here hx rfl (hb hby at_180) ?_
                exact k
              exact OJ.here ⟨(0 : Int32), T17, _, Or.inr ⟨rfl, fun q => q.2.2.2⟩, X17, e17, N4, rfl⟩
            · refine OJ.st (S' := T17.setTop (mkF m 181 #[vi p0, vj p1, .second, vj p2, .second, vj p3, .second, vi p4, vi 1, vi 1, vj y3, .second, vj y4, .second, vr b7, vr b10, vr b16, .unset] [(.int 0)])) (fun _ k => ?_) ?_
              · refine XS.ifYes X17.here hx rfl (pc0 := 168) (pc' := 180) rfl (hb hby at_168) rfl ((if0 _ _).trans (feq f2).2) (by decide) (by decide) ?_
                refine XS.iconst X17.here hx rfl (hb hby at_180) ?_
                exact k
              exact OJ.here ⟨(0 : Int32), T17, _, Or.inr ⟨rfl, fun q => f2 q.2.2.1⟩, X17, e17, N4, rfl⟩
          · refine OJ.st (S' := T17.setTop (mkF m 181 #[vi p0, vj p1, .second, vj p2, .second, vj p3, .second, vi p4, vi 1, vi 1, vj y3, .second, vj y4, .second, vr b7, vr b10, vr b16, .unset] [(.int 0)])) (fun _ k => ?_) ?_
            · refine XS.ifYes X17.here hx rfl (pc0 := 161) (pc' := 180) rfl (hb hby at_161) rfl ((if0 _ _).trans (feq f1).2) (by decide) (by decide) ?_
              refine XS.iconst X17.here hx rfl (hb hby at_180) ?_
              exact k
            exact OJ.here ⟨(0 : Int32), T17, _, Or.inr ⟨rfl, fun q => f1 q.2.1⟩, X17, e17, N4, rfl⟩
        refine OEndsH.st st18 ?_
        refine OEndsH.st (S' := T18.setTop (mkF m 183 #[vi p0, vj p1, .second, vj p2, .second, vj p3, .second, vi p4, vi 1, vi 1, vj y3, .second, vj y4, .second, vr b7, vr b10, vr b16, vi y18] [])) (fun _ k => ?_) ?_
        · refine XS.istore X18.here hx rfl (hb hby at_181) rfl (l' := #[vi p0, vj p1, .second, vj p2, .second, vj p3, .second, vi p4, vi 1, vi 1, vj y3, .second, vj y4, .second, vr b7, vr b10, vr b16, vi y18]) rfl ?_
          exact k
        refine OEndsH.st (S' := T18.setTop (mkF m 185 #[vi p0, vj p1, .second, vj p2, .second, vj p3, .second, vi p4, vi 1, vi 1, vj y3, .second, vj y4, .second, vr b7, vr b10, vr b16, vi y18] [(.ref b16)])) (fun _ k => ?_) ?_
        · refine XS.aload X18.here hx rfl (hb hby at_183) rfl rfl ?_
          exact k
        obtain ⟨_, T19, h19, L19, X19, e19, hQ19, st19⟩ := virtC X18 hx hZ14 (y := (⟨"com/example/anteroom/anteroom/store/VersionChanges", "isNone", "()Z"⟩ : MethodName)) (z := (⟨"com/example/anteroom/anteroom/store/VersionChanges", "isNone", "()Z"⟩ : MethodName)) hown14 (wq hw 48 rfl) (wq hw 49 rfl) (nf_sel (args := #[]) (mvT hZ14 (wq hw 51 rfl)) rfl) (wq hw 51 rfl) (wq hw 50 rfl) (by decide) (kc := 0) (ks := 0) (Con.sb (W := 0) (rm_isNone1 l hD b16 (.ref b7) y3 y4 b10 O0 A16 F017 F117 F217 F317 A10 Fs15 rfl) hZ14 (wq hw 52 rfl) (wq hw 28 rfl) (by decide) (by decide)) e18 A16 (g := (mkF m 185 #[vi p0, vj p1, .second, vj p2, .second, vj p3, .second, vi p4, vi 1, vi 1, vj y3, .second, vj y4, .second, vr b7, vr b10, vr b16, vi y18] [(.ref b16)])) rfl (by rw [hml]; rfl) (argsL := []) (rest := []) (lenOf pd_8 rfl) rfl (by show 2 * 0 + _ ≤ _; exact Nat.le_of_eq rfl) (hb hby at_185) (by decide) (by decide)
        obtain ⟨r19, rfl, hr19, Nq19, Hq19⟩ := hQ19
        refine OEndsH.st st19 ?_
        replace N18 := Fr.app N18 Nq19
        replace e19 := e19.trans Hq19
        have hry : r19 = y18 := by
          rcases hr19 with ⟨q1, q2⟩ | ⟨q1, q2⟩ <;> rcases hy18 with ⟨q3, q4⟩ | ⟨q3, q4⟩
          · rw [q1, q3]
          · exact absurd q2 q4
          · exact absurd q4 q2
          · rw [q1, q3]
        refine OEndsH.st (S' := T19.setTop (mkF m 198 #[vi p0, vj p1, .second, vj p2, .second, vj p3, .second, vi p4, vi 1, vi 1, vj y3, .second, vj y4, .second, vr b7, vr b10, vr b16, vi y18] [(.int 1)])) (fun _ k => ?_) ?_
        · refine XS.iload X19.here hx rfl (hb hby at_188) rfl ?_
          refine XS.icmpNo X19.here hx rfl (hb hby at_190) rfl (teq hry).2 ?_
          refine XS.iconst X19.here hx rfl (hb hby at_193) ?_
          refine XS.goto X19.here hx rfl (pc0 := 194) (pc' := 198) rfl (hb hby at_194) (by decide) (by decide) ?_
          exact k
        exact OEndsH.ret X19 hx hZ14 hEL e19 hS14 hk14 A0 hret hlk (by decide) (Or.inl ⟨rfl, by simp, _, rfl⟩) (hb hby at_198) (by decide) (by decide) ⟨rfl, N18⟩
    · refine OEndsH.st (S' := T4.setTop (mkF m 68 #[vi p0, vj p1, .second, vj p2, .second, vj p3, .second, vi p4, vi 1, vi y2, vj y3, .second, vj y4, .second, .val .null, .unset, .unset, .unset] [])) (fun _ k => ?_) ?_
      · refine XS.ifNo X4.here hx rfl (hb hby at_65) rfl ((if0 _ _).trans (feq hs).1) ?_
        exact k
      obtain ⟨b5, T5, h5, k15, t5, kb5, X5, e5, E5, hS5, hk5, hZ5, hown5, Es5, Fc5, Fv5, V5, -, -, Aq5, -, nes5, st5⟩ := ldcCH X4 hx hZ hown (wq hw 229 rfl) hsa e4 hS0 hk0 hEL (List.mem_of_getElem? (i := 4) rfl) A0.1 (vs := []) (z := (0 : Int32)) ⟨by decide, by decide⟩ (by decide) rfl (g := (mkF m 68 #[vi p0, vj p1, .second, vj p2, .second, vj p3, .second, vi p4, vi 1, vi y2, vj y3, .second, vj y4, .second, .val .null, .unset, .unset, .unset] [])) rfl (hb hby at_68) (n := 0) (by decide) (by decide) (by decide) (by decide)
      replace hZ5 : Z.Warmed39 T5.vm := hZ5
      replace hown5 : T5.vm.findClass "com/example/anteroom/anteroom/store/VersionChangesIsNonePinLaw" = some m.cls := hown5
      replace A0 : CHr Z EL s.vm s.heap T5.vm h5 := A0.trans Aq5
      refine OEndsH.st st5 ?_
      replace O0 : Ext Z.heap h5 := ext_trans O0 E5
      clear V5
      clear Es5
      clear Fc5
      clear Fv5
      refine OEndsH.st (S' := T5.setTop (mkF m 102 #[vi p0, vj p1, .second, vj p2, .second, vj p3, .second, vi p4, vi 1, vi y2, vj y3, .second, vj y4, .second, vr b5, .unset, .unset, .unset] [])) (fun _ k => ?_) ?_
      · refine XS.astore X5.here hx rfl (hb hby at_70) rfl rfl (l' := #[vi p0, vj p1, .second, vj p2, .second, vj p3, .second, vi p4, vi 1, vi y2, vj y3, .second, vj y4, .second, vr b5, .unset, .unset, .unset]) rfl ?_
        refine XS.goto X5.here hx rfl (pc0 := 72) (pc' := 102) rfl (hb hby at_72) (by decide) (by decide) ?_
        exact k
      obtain ⟨T6, h6, X6, e6, E6, A6, D6, U6, st6⟩ := newO X5 hx hZ5 hown5 (wq hw 0 rfl) (wq hw 1 rfl) (wq hw 2 rfl) e5 (g := (mkF m 102 #[vi p0, vj p1, .second, vj p2, .second, vj p3, .second, vi p4, vi 1, vi y2, vj y3, .second, vj y4, .second, vr b5, .unset, .unset, .unset] [])) rfl (hb hby at_102) (by decide) (by decide)
      obtain ⟨b6, g6⟩ : ∃ z, z = h5.size := ⟨_, rfl⟩
      rw [← g6] at A6 D6 U6 st6
      refine OEndsH.st st6 ?_
      have ge_b6 : Z.heap.size ≤ b6 := Nat.le_trans O0.1 (Nat.le_of_eq g6.symm)
      have S_b6 : Safe Z EL T5.vm h5 b6 := Safe.new (Nat.le_of_eq g6.symm)
      have S_b6' : Safe Z EL T5.vm h6 b6 := Safe.ext E6 A0.1 S_b6
      have A' : CHr Z EL s.vm s.heap T5.vm h6 := A0.trans (CHr.ext E6 A0.1)
      replace S_b6 := S_b6'
      replace A0 := A'
      replace hk5 := Nat.le_trans hk5 E6.1
      replace O0 : Ext Z.heap h6 := ext_trans O0 E6
      have F_modCount_b6 : Fld Z h6 b6 "java/util/AbstractList" "modCount" "I" (.int 0) := D6 (Or.inl (wq hw 22 rfl)) (ty := .int) (by decide)
      have F_elementData_b6 : Fld Z h6 b6 "java/util/ArrayList" "elementData" "[Ljava/lang/Object;" .null := D6 (Or.inl (wq hw 25 rfl)) (ty := (.array (.object "java/lang/Object"))) (by decide)
      have F_size_b6 : Fld Z h6 b6 "java/util/ArrayList" "size" "I" (.int 0) := D6 (Or.inl (wq hw 209 rfl)) (ty := .int) (by decide)
      refine OEndsH.st (S' := T6.setTop (mkF m 106 #[vi p0, vj p1, .second, vj p2, .second, vj p3, .second, vi p4, vi 1, vi y2, vj y3, .second, vj y4, .second, vr b5, .unset, .unset, .unset] [(.ref b6), (.ref b6)])) (fun _ k => ?_) ?_
      · refine XS.dup X6.here hx rfl (hb hby at_105) rfl rfl ?_
        exact k
      obtain ⟨_, T7, h7, L7, X7, e7, hQ7, st7⟩ := specC X6 hx hZ5 rfl hown5 (wq hw 3 rfl) (wq hw 4 rfl) (wq hw 5 rfl) (by decide) (kc := 0) (ks := 0) (Con.sb (W := 1) (rm_alInit l hD b6 xde O0 A6 F_elementData_b6 F_size_b6 F_modCount_b6 ge_b6 S_DE) hZ5 (wq hw 5 rfl) (wq hw 2 rfl) (by decide) (by decide)) e6 (a := b6) (g := (mkF m 106 #[vi p0, vj p1, .second, vj p2, .second, vj p3, .second, vi p4, vi 1, vi y2, vj y3, .second, vj y4, .second, vr b5, .unset, .unset, .unset] [(.ref b6), (.ref b6)])) rfl (by rw [hml]; rfl) (argsL := []) (rest := [(.ref b6)]) (lenOf pd_1 rfl) rfl (by show 2 * 0 + _ ≤ _; exact Nat.le_of_eq rfl) (hb hby at_106) (by decide) (by decide)
      obtain ⟨rfl, Nq7, Kq7, Eq7, Fe7, Fs7, Fm7⟩ := hQ7
      refine OEndsH.st st7 ?_
      replace N4 := Fr.app N4 Nq7
      replace A6 := A6.keep Kq7
      have S_b6' : Safe Z EL T5.vm h7 b6 := Safe.keep Kq7 (sfS S_b6 sf0) A0.1 S_b6
      have A' : CHr Z EL s.vm s.heap T5.vm h7 := A0.trans (CHr.keep Kq7 (sfS S_b6 sf0) A0.1)
      replace S_b6 := S_b6'
      replace A0 := A'
      replace hk5 := Nat.le_trans hk5 Kq7.1
      replace O0 : Ext Z.heap h7 := ext_keep O0 Kq7 (allS ge_b6 all0)
      refine OEndsH.st (S' := T7.setTop (mkF m 111 #[vi p0, vj p1, .second, vj p2, .second, vj p3, .second, vi p4, vi 1, vi y2, vj y3, .second, vj y4, .second, vr b5, vr b6, .unset, .unset] [])) (fun _ k => ?_) ?_
      · refine XS.astore X7.here hx rfl (hb hby at_109) rfl rfl (l' := #[vi p0, vj p1, .second, vj p2, .second, vj p3, .second, vi p4, vi 1, vi y2, vj y3, .second, vj y4, .second, vr b5, vr b6, .unset, .unset]) rfl ?_
        exact k
      rcases hy2 with rfl | rfl
      · refine OEndsH.st (S' := T7.setTop (mkF m 133 #[vi p0, vj p1, .second, vj p2, .second, vj p3, .second, vi p4, vi 1, vi 0, vj y3, .second, vj y4, .second, vr b5, vr b6, .unset, .unset] [])) (fun _ k => ?_) ?_
        · refine XS.iload X7.here hx rfl (hb hby at_111) rfl ?_
          refine XS.ifYes X7.here hx rfl (pc0 := 113) (pc' := 133) rfl (hb hby at_113) rfl ((if0 _ _).trans (teq (by decide)).1) (by decide) (by decide) ?_
          exact k
        obtain ⟨T8, h8, X8, e8, E8, A8, D8, U8, st8⟩ := newO X7 hx hZ5 hown5 (wq hw 26 rfl) (wq hw 27 rfl) (wq hw 28 rfl) e7 (g := (mkF m 133 #[vi p0, vj p1, .second, vj p2, .second, vj p3, .second, vi p4, vi 1, vi 0, vj y3, .second, vj y4, .second, vr b5, vr b6, .unset, .unset] [])) rfl (hb hby at_133) (by decide) (by decide)
        obtain ⟨b8, g8⟩ : ∃ z, z = h7.size := ⟨_, rfl⟩
        rw [← g8] at A8 D8 U8 st8
        refine OEndsH.st st8 ?_
        have ne_b6_b8 : b6 ≠ b8 := Nat.ne_of_lt (Nat.lt_of_lt_of_le A6.lt (Nat.le_of_eq g8.symm))
        have ge_b8 : Z.heap.size ≤ b8 := Nat.le_trans O0.1 (Nat.le_of_eq g8.symm)
        have S_b8 : Safe Z EL T5.vm h7 b8 := Safe.new (Nat.le_of_eq g8.symm)
        replace A6 := A6.ext E8
        replace Fe7 := Fe7.ext E8
        replace Fs7 := Fs7.ext E8
        replace Fm7 := Fm7.ext E8
        have S_b6' : Safe Z EL T5.vm h8 b6 := Safe.ext E8 A0.1 S_b6
        have S_b8' : Safe Z EL T5.vm h8 b8 := Safe.ext E8 A0.1 S_b8
        have A' : CHr Z EL s.vm s.heap T5.vm h8 := A0.trans (CHr.ext E8 A0.1)
        replace S_b6 := S_b6'
        replace S_b8 := S_b8'
        replace A0 := A'
        replace hk5 := Nat.le_trans hk5 E8.1
        replace O0 : Ext Z.heap h8 := ext_trans O0 E8
        have F_previous_b8 : Fld Z h8 b8 "com/example/anteroom/anteroom/store/VersionChanges" "previous" "Ljava/lang/String;" .null := D8 (Or.inr (wq hw 39 rfl)) (ty := (.object "java/lang/String")) (by decide)
        have F_added_b8 : Fld Z h8 b8 "com/example/anteroom/anteroom/store/VersionChanges" "added" "J" (.long 0) := D8 (Or.inr (wq hw 41 rfl)) (ty := .long) (by decide)
        have F_modified_b8 : Fld Z h8 b8 "com/example/anteroom/anteroom/store/VersionChanges" "modified" "J" (.long 0) := D8 (Or.inr (wq hw 43 rfl)) (ty := .long) (by decide)
        have F_removed_b8 : Fld Z h8 b8 "com/example/anteroom/anteroom/store/VersionChanges" "removed" "Ljava/util/List;" .null := D8 (Or.inr (wq hw 45 rfl)) (ty := (.object "java/util/List")) (by decide)
        have F_unchanged_b8 : Fld Z h8 b8 "com/example/anteroom/anteroom/store/VersionChanges" "unchanged" "J" (.long 0) := D8 (Or.inr (wq hw 47 rfl)) (ty := .long) (by decide)
        refine OEndsH.st (S' := T8.setTop (mkF m 147 #[vi p0, vj p1, .second, vj p2, .second, vj p3, .second, vi p4, vi 1, vi 0, vj y3, .second, vj y4, .second, vr b5, vr b6, .unset, .unset] [(.long p3), (.ref b6), (.long y4), (.long y3), (.ref b5), (.ref b8), (.ref b8)])) (fun _ k => ?_) ?_
        · refine XS.dup X8.here hx rfl (hb hby at_136) rfl rfl ?_
          refine XS.aload X8.here hx rfl (hb hby at_137) rfl rfl ?_
          refine XS.lload X8.here hx rfl (hb hby at_139) rfl ?_
          refine XS.lload X8.here hx rfl (hb hby at_141) rfl ?_
          show Steps p.tables e below (T8.setTop (mkF m 143 #[vi p0, vj p1, .second, vj p2, .second, vj p3, .second, vi p4, vi 1, vi 0, vj y3, .second, vj y4, .second, vr b5, vr b6, .unset, .unset] [(.long y4), (.long y3), (.ref b5), (.ref b8), (.ref b8)])) _
          refine XS.aload X8.here hx rfl (hb hby at_143) rfl rfl ?_
          refine XS.lload X8.here hx rfl (hb hby at_145) rfl ?_
          exact k
        obtain ⟨_, T9, h9, L9, X9, e9, hQ9, st9⟩ := specC X8 hx hZ5 rfl hown5 (wq hw 29 rfl) (wq hw 30 rfl) (wq hw 31 rfl) (by decide) (kc := 0) (ks := 0) (Con.sb (W := 1) (rm_vcInit l hD b8 (.ref b5) y3 y4 b6 p3 O0 A8 F_previous_b8 F_added_b8 F_modified_b8 F_removed_b8 F_unchanged_b8 ge_b8 rfl) hZ5 (wq hw 31 rfl) (wq hw 28 rfl) (by decide) (by decide)) e8 (a := b8) (g := (mkF m 147 #[vi p0, vj p1, .second, vj p2, .second, vj p3, .second, vi p4, vi 1, vi 0, vj y3, .second, vj y4, .second, vr b5, vr b6, .unset, .unset] [(.long p3), (.ref b6), (.long y4), (.long y3), (.ref b5), (.ref b8), (.ref b8)])) rfl (by rw [hml]; rfl) (argsL := [(.ref b5), (.long y3), (.long y4), (.ref b6), (.long p3)]) (rest := [(.ref b8)]) (lenOf pd_21 rfl) rfl (by show 2 * 0 + _ ≤ _; exact Nat.le_of_eq rfl) (hb hby at_147) (by decide) (by decide)
        obtain ⟨rfl, Nq9, Kq9, Eq9, F09, F19, F29, F39, F49⟩ := hQ9
        refine OEndsH.st st9 ?_
        replace N4 := Fr.app N4 Nq9
        replace A6 := A6.keep Kq9
        replace Fe7 := Fe7.keep Kq9 (ninS ne_b6_b8 nin0)
        replace Fs7 := Fs7.keep Kq9 (ninS ne_b6_b8 nin0)
        replace Fm7 := Fm7.keep Kq9 (ninS ne_b6_b8 nin0)
        replace A8 := A8.keep Kq9
        have S_b6' : Safe Z EL T5.vm h9 b6 := Safe.keep Kq9 (sfS S_b8 sf0) A0.1 S_b6
        have S_b8' : Safe Z EL T5.vm h9 b8 := Safe.keep Kq9 (sfS S_b8 sf0) A0.1 S_b8
        have A' : CHr Z EL s.vm s.heap T5.vm h9 := A0.trans (CHr.keep Kq9 (sfS S_b8 sf0) A0.1)
        replace S_b6 := S_b6'
        replace S_b8 := S_b8'
        replace A0 := A'
        replace hk5 := Nat.le_trans hk5 Kq9.1
        replace O0 : Ext Z.heap h9 := ext_keep O0 Kq9 (allS ge_b8 all0)
        refine OEndsH.st (S' := T9.setTop (mkF m 152 #[vi p0, vj p1, .second, vj p2, .second, vj p3, .second, vi p4, vi 1, vi 0, vj y3, .second, vj y4, .second, vr b5, vr b6, vr b8, .unset] [])) (fun _ k => ?_) ?_
        · refine XS.astore X9.here hx rfl (hb hby at_150) rfl rfl (l' := #[vi p0, vj p1, .second, vj p2, .second, vj p3, .second, vi p4, vi 1, vi 0, vj y3, .second, vj y4, .second, vr b5, vr b6, vr b8, .unset]) rfl ?_
          exact k
        refine OEndsH.st (S' := T9.setTop (mkF m 161 #[vi p0, vj p1, .second, vj p2, .second, vj p3, .second, vi p4, vi 1, vi 0, vj y3, .second, vj y4, .second, vr b5, vr b6, vr b8, .unset] [(.int (lcmpW y3 (0 : Int64)))])) (fun _ k => ?_) ?_
        · refine XS.iload X9.here hx rfl (hb hby at_152) rfl ?_
          refine XS.ifNo X9.here hx rfl (hb hby at_154) rfl ((if0 _ _).trans (feq (by decide)).1) ?_
          refine XS.lload X9.here hx rfl (hb hby at_157) rfl ?_
          refine XS.lconst X9.here hx rfl (hb hby at_159) ?_
          show Steps p.tables e below (T9.setTop (mkF m 160 #[vi p0, vj p1, .second, vj p2, .second, vj p3, .second, vi p4, vi 1, vi 0, vj y3, .second, vj y4, .second, vr b5, vr b6, vr b8, .unset] [(.long 0), (.long y3)])) _
          refine XS.lcmp X9.here hx rfl (hb hby at_160) rfl ?_
          exact k
        obtain ⟨_, ⟨y10, T10, lc10, hy10, X10, e10, N10, rfl⟩, st10⟩ : OJ p e below (fun S' => ∃ (y10 : Int32) (T' : State) (lc : List Loc), ((y10 = 1 ∧ (¬ ((.ref b5) : Value) = .null ∧ lcmpW y3 0 = 0 ∧ lcmpW y4 0 = 0 ∧ True)) ∨ (y10 = 0 ∧ ¬ (¬ ((.ref b5) : Value) = .null ∧ lcmpW y3 0 = 0 ∧ lcmpW y4 0 = 0 ∧ True))) ∧ Stand p l e room_1 (s.setVm T5.vm) m #[(.int p0), (.long p1), (.long p2), (.long p3), (.int p4)] below meth c T' lc 4 12 ∧ T'.heap = h9 ∧ Fr Z.heap.size lc ∧ S' = T'.setTop (mkF m 181 #[vi p0, vj p1, .second, vj p2, .second, vj p3, .second, vi p4, vi 1, vi 0, vj y3, .second, vj y4, .second, vr b5, vr b6, vr b8, .unset] [(.int y10)])) (T9.setTop (mkF m 161 #[vi p0, vj p1, .second, vj p2, .second, vj p3, .second, vi p4, vi 1, vi 0, vj y3, .second, vj y4, .second, vr b5, vr b6, vr b8, .unset] [(.int (lcmpW y3 (0 : Int64)))])) := by
          rcases Classical.em ((lcmpW y3 (0 : Int64)) = (0 : Int32)) with f1 | f1
          · refine OJ.st (S' := T9.setTop (mkF m 168 #[vi p0, vj p1, .second, vj p2, .second, vj p3, .second, vi p4, vi 1, vi 0, vj y3, .second, vj y4, .second, vr b5, vr b6, vr b8, .unset] [(.int (lcmpW y4 (0 : Int64)))])) (fun _ k => ?_) ?_
            · refine XS.ifNo X9.here hx rfl (hb hby at_161) rfl ((if0 _ _).trans (teq f1).2) ?_
              refine XS.lload X9.here hx rfl (hb hby at_164) rfl ?_
              refine XS.lconst X9.here hx rfl (hb hby at_166) ?_
              refine XS.lcmp X9.here hx rfl (hb hby at_167) rfl ?_
              exact k
            rcases Classical.em ((lcmpW y4 (0 : Int64)) = (0 : Int32)) with f2 | f2
            · refine OJ.st (S' := T9.setTop (mkF m 181 #[vi p0, vj p1, .second, vj p2, .second, vj p3, .second, vi p4, vi 1, vi 0, vj y3, .second, vj y4, .second, vr b5, vr b6, vr b8, .unset] [(.int 1)])) (fun _ k => ?_) ?_
              · refine XS.ifNo X9.here hx rfl (hb hby at_168) rfl ((if0 _ _).trans (teq f2).2) ?_
                refine XS.iload X9.here hx rfl (hb hby at_171) rfl ?_
                refine XS.ifNo X9.here hx rfl (hb hby at_173) rfl ((if0 _ _).trans (teq (by decide)).2) ?_
                refine XS.iconst X9.here hx rfl (hb hby at_176) ?_
                show Steps p.tables e below (T9.setTop (mkF m 177 #[vi p0, vj p1, .second, vj p2, .second, vj p3, .second, vi p4, vi 1, vi 0, vj y3, .second, vj y4, .second, vr b5, vr b6, vr b8, .unset] [(.int 1)])) _
                refine XS.goto X9.here hx rfl (pc0 := 177) (pc' := 181) rfl (hb hby at_177) (by decide) (by decide) ?_
                exact k
              exact OJ.here ⟨(1 : Int32), T9, _, Or.inl ⟨rfl, (fun q => nomatch q), f1, f2, trivial⟩, X9, e9, N4, rfl⟩
            · refine OJ.st (S' := T9.setTop (mkF m 181 #[vi p0, vj p1, .second, vj p2, .second, vj p3, .second, vi p4, vi 1, vi 0, vj y3, .second, vj y4, .second, vr b5, vr b6, vr b8, .unset] [(.int 0)])) (fun _ k => ?_) ?_
              · refine XS.ifYes X9.here hx rfl (pc0 := 168) (pc' := 180) rfl (hb hby at_168) rfl ((if0 _ _).trans (feq f2).2) (by decide) (by decide) ?_
                refine XS.iconst X9.here hx rfl (hb hby at_180) ?_
                exact k
              exact OJ.here ⟨(0 : Int32), T9, _, Or.inr ⟨rfl, fun q => f2 q.2.2.1⟩, X9, e9, N4, rfl⟩
          · refine OJ.st (S' := T9.setTop (mkF m 181 #[vi p0, vj p1, .second, vj p2, .second, vj p3, .second, vi p4, vi 1, vi 0, vj y3, .second, vj y4, .second, vr b5, vr b6, vr b8, .unset] [(.int 0)])) (fun _ k => ?_) ?_
            · refine XS.ifYes X9.here hx rfl (pc0 := 161) (pc' := 180) rfl (hb hby at_161) rfl ((if0 _ _).trans (feq f1).2) (by decide) (by decide) ?_
              refine XS.iconst X9.here hx rfl (hb hby at_180) ?_
              exact k
            exact OJ.here ⟨(0 : Int32), T9, _, Or.inr ⟨rfl, fun q => f1 q.2.1⟩, X9, e9, N4, rfl⟩
        refine OEndsH.st st10 ?_
        refine OEndsH.st (S' := T10.setTop (mkF m 183 #[vi p0, vj p1, .second, vj p2, .second, vj p3, .second, vi p4, vi 1, vi 0, vj y3, .second, vj y4, .second, vr b5, vr b6, vr b8, vi y10] [])) (fun _ k => ?_) ?_
        · refine XS.istore X10.here hx rfl (hb hby at_181) rfl (l' := #[vi p0, vj p1, .second, vj p2, .second, vj p3, .second, vi p4, vi 1, vi 0, vj y3, .second, vj y4, .second, vr b5, vr b6, vr b8, vi y10]) rfl ?_
          exact k
        refine OEndsH.st (S' := T10.setTop (mkF m 185 #[vi p0, vj p1, .second, vj p2, .second, vj p3, .second, vi p4, vi 1, vi 0, vj y3, .second, vj y4, .second, vr b5, vr b6, vr b8, vi y10] [(.ref b8)])) (fun _ k => ?_) ?_
        · refine XS.aload X10.here hx rfl (hb hby at_183) rfl rfl ?_
          exact k
        obtain ⟨_, T11, h11, L11, X11, e11, hQ11, st11⟩ := virtC X10 hx hZ5 (y := (⟨"com/example/anteroom/anteroom/store/VersionChanges", "isNone", "()Z"⟩ : MethodName)) (z := (⟨"com/example/anteroom/anteroom/store/VersionChanges", "isNone", "()Z"⟩ : MethodName)) hown5 (wq hw 48 rfl) (wq hw 49 rfl) (nf_sel (args := #[]) (mvT hZ5 (wq hw 51 rfl)) rfl) (wq hw 51 rfl) (wq hw 50 rfl) (by decide) (kc := 0) (ks := 0) (Con.sb (W := 0) (rm_isNone0 l hD b8 (.ref b5) y3 y4 b6 O0 A8 F09 F19 F29 F39 A6 Fs7 rfl) hZ5 (wq hw 52 rfl) (wq hw 28 rfl) (by decide) (by decide)) e10 A8 (g := (mkF m 185 #[vi p0, vj p1, .second, vj p2, .second, vj p3, .second, vi p4, vi 1, vi 0, vj y3, .second, vj y4, .second, vr b5, vr b6, vr b8, vi y10] [(.ref b8)])) rfl (by rw [hml]; rfl) (argsL := []) (rest := []) (lenOf pd_8 rfl) rfl (by show 2 * 0 + _ ≤ _; exact Nat.le_of_eq rfl) (hb hby at_185) (by decide) (by decide)
        obtain ⟨r11, rfl, hr11, Nq11, Hq11⟩ := hQ11
        refine OEndsH.st st11 ?_
        replace N10 := Fr.app N10 Nq11
        replace e11 := e11.trans Hq11
        have hry : r11 = y10 := by
          rcases hr11 with ⟨q1, q2⟩ | ⟨q1, q2⟩ <;> rcases hy10 with ⟨q3, q4⟩ | ⟨q3, q4⟩
          · rw [q1, q3]
          · exact absurd q2 q4
          · exact absurd q4 q2
          · rw [q1, q3]
        refine OEndsH.st (S' := T11.setTop (mkF m 198 #[vi p0, vj p1, .second, vj p2, .second, vj p3, .second, vi p4, vi 1, vi 0, vj y3, .second, vj y4, .second, vr b5, vr b6, vr b8, vi y10] [(.int 1)])) (fun _ k => ?_) ?_
        · refine XS.iload X11.here hx rfl (hb hby at_188) rfl ?_
          refine XS.icmpNo X11.here hx rfl (hb hby at_190) rfl (teq hry).2 ?_
          refine XS.iconst X11.here hx rfl (hb hby at_193) ?_
          refine XS.goto X11.here hx rfl (pc0 := 194) (pc' := 198) rfl (hb hby at_194) (by decide) (by decide) ?_
          exact k
        exact OEndsH.ret X11 hx hZ5 hEL e11 hS5 hk5 A0 hret hlk (by decide) (Or.inl ⟨rfl, by simp, _, rfl⟩) (hb hby at_198) (by decide) (by decide) ⟨rfl, N10⟩
      · refine OEndsH.st (S' := T7.setTop (mkF m 118 #[vi p0, vj p1, .second, vj p2, .second, vj p3, .second, vi p4, vi 1, vi 1, vj y3, .second, vj y4, .second, vr b5, vr b6, .unset, .unset] [(.ref b6)])) (fun _ k => ?_) ?_
        · refine XS.iload X7.here hx rfl (hb hby at_111) rfl ?_
          refine XS.ifNo X7.here hx rfl (hb hby at_113) rfl ((if0 _ _).trans (feq (by decide)).1) ?_
          refine XS.aload X7.here hx rfl (hb hby at_116) rfl rfl ?_
          exact k
        obtain ⟨T8, h8, X8, e8, E8, A8, D8, U8, st8⟩ := newO X7 hx hZ5 hown5 (wq hw 81 rfl) (wq hw 82 rfl) (wq hw 83 rfl) e7 (g := (mkF m 118 #[vi p0, vj p1, .second, vj p2, .second, vj p3, .second, vi p4, vi 1, vi 1, vj y3, .second, vj y4, .second, vr b5, vr b6, .unset, .unset] [(.ref b6)])) rfl (hb hby at_118) (by decide) (by decide)
        obtain ⟨b8, g8⟩ : ∃ z, z = h7.size := ⟨_, rfl⟩
        rw [← g8] at A8 D8 U8 st8
        refine OEndsH.st st8 ?_
        have ne_b6_b8 : b6 ≠ b8 := Nat.ne_of_lt (Nat.lt_of_lt_of_le A6.lt (Nat.le_of_eq g8.symm))
        have ge_b8 : Z.heap.size ≤ b8 := Nat.le_trans O0.1 (Nat.le_of_eq g8.symm)
        have S_b8 : Safe Z EL T5.vm h7 b8 := Safe.new (Nat.le_of_eq g8.symm)
        replace A6 := A6.ext E8
        replace Fe7 := Fe7.ext E8
        replace Fs7 := Fs7.ext E8
        replace Fm7 := Fm7.ext E8
        have S_b6' : Safe Z EL T5.vm h8 b6 := Safe.ext E8 A0.1 S_b6
        have S_b8' : Safe Z EL T5.vm h8 b8 := Safe.ext E8 A0.1 S_b8
        have A' : CHr Z EL s.vm s.heap T5.vm h8 := A0.trans (CHr.ext E8 A0.1)
        replace S_b6 := S_b6'
        replace S_b8 := S_b8'
        replace A0 := A'
        replace hk5 := Nat.le_trans hk5 E8.1
        replace O0 : Ext Z.heap h8 := ext_trans O0 E8
        have F_value_b8 : Fld Z h8 b8 "com/example/anteroom/anteroom/store/LogicalPath" "value" "Ljava/lang/String;" .null := D8 (Or.inr (wq hw 196 rfl)) (ty := (.object "java/lang/String")) (by decide)
        refine OEndsH.st (S' := T8.setTop (mkF m 122 #[vi p0, vj p1, .second, vj p2, .second, vj p3, .second, vi p4, vi 1, vi 1, vj y3, .second, vj y4, .second, vr b5, vr b6, .unset, .unset] [(.ref b8), (.ref b8), (.ref b6)])) (fun _ k => ?_) ?_
        · refine XS.dup X8.here hx rfl (hb hby at_121) rfl rfl ?_
          exact k
        obtain ⟨b9, T9, h9, k19, t9, kb9, X9, e9, E9, hS9, hk9, hZ9, hown9, Es9, Fc9, Fv9, V9, -, -, Aq9, -, nes9, st9⟩ := ldcCH X8 hx hZ5 hown5 (wq hw 84 rfl) hsa e8 hS5 hk5 hEL (List.mem_of_getElem? (i := 5) rfl) A0.1 (vs := [(.int 97)]) (z := (1 : Int32)) ⟨by decide, by decide⟩ (by decide) rfl (g := (mkF m 122 #[vi p0, vj p1, .second, vj p2, .second, vj p3, .second, vi p4, vi 1, vi 1, vj y3, .second, vj y4, .second, vr b5, vr b6, .unset, .unset] [(.ref b8), (.ref b8), (.ref b6)])) rfl (hb hby at_122) (n := 4) (by decide) (by decide) (by decide) (by decide)
        replace hZ9 : Z.Warmed39 T9.vm := hZ9
        replace hown9 : T9.vm.findClass "com/example/anteroom/anteroom/store/VersionChangesIsNonePinLaw" = some m.cls := hown9
        replace S_b6 : Safe Z EL T9.vm h9 b6 := Aq9.safe A6.lt S_b6
        replace S_b8 : Safe Z EL T9.vm h9 b8 := Aq9.safe A8.lt S_b8
        replace A0 : CHr Z EL s.vm s.heap T9.vm h9 := A0.trans Aq9
        refine OEndsH.st st9 ?_
        have ne_b6_b9 : b6 ≠ b9 := (nes9 b6 S_b6).1
        have ne_b6_t9 : b6 ≠ t9 := (nes9 b6 S_b6).2
        have ne_b8_b9 : b8 ≠ b9 := (nes9 b8 S_b8).1
        have ne_b8_t9 : b8 ≠ t9 := (nes9 b8 S_b8).2
        replace A6 := A6.ext E9
        replace Fe7 := Fe7.ext E9
        replace Fs7 := Fs7.ext E9
        replace Fm7 := Fm7.ext E9
        replace A8 := A8.ext E9
        replace F_value_b8 := F_value_b8.ext E9
        replace O0 : Ext Z.heap h9 := ext_trans O0 E9
        obtain ⟨_, T10, h10, L10, vm10, k110, X10, e10, hQ10, hS10, hk10, hZ10, hown10, Aq10, st10⟩ := specH X9 hx hZ9 rfl hown9 (wq hw 87 rfl) (wq hw 88 rfl) (wq hw 89 rfl) (by decide) (kc := 12) (ks := 108) (ConH.sb (W := 2) (rm_lpInit l hD b8 b9 t9 kb9 O0 A8 F_value_b8 ge_b8 Es9 Fc9 Fv9 V9) hZ9 (wq hw 89 rfl) (wq hw 83 rfl) (by decide) (by decide) hEL A0.1 (allS ⟨A8.lt, S_b8⟩ all0)) e9 hS9 hk9 (a := b8) (g := (mkF m 124 #[vi p0, vj p1, .second, vj p2, .second, vj p3, .second, vi p4, vi 1, vi 1, vj y3, .second, vj y4, .second, vr b5, vr b6, .unset, .unset] [(.ref b9), (.ref b8), (.ref b8), (.ref b6)])) rfl (by rw [hml]; rfl) (argsL := [(.ref b9)]) (rest := [(.ref b8), (.ref b6)]) (lenOf pd_22 rfl) rfl (by show 2 * 0 + _ ≤ _; exact Nat.le_of_eq rfl) (hb hby at_124) (by decide) (by decide)
        obtain ⟨rfl, Nq10, Kq10⟩ := hQ10
        replace S_b6 : Safe Z EL vm10 h10 b6 := Aq10.safe A6.lt S_b6
        replace S_b8 : Safe Z EL vm10 h10 b8 := Aq10.safe A8.lt S_b8
        replace A0 : CHr Z EL s.vm s.heap vm10 h10 := A0.trans Aq10
        refine OEndsH.st st10 ?_
        replace N4 := Fr.app N4 Nq10
        replace A6 := A6.keep Kq10
        replace Fe7 := Fe7.keep Kq10 (ninS ne_b6_b8 nin0)
        replace Fs7 := Fs7.keep Kq10 (ninS ne_b6_b8 nin0)
        replace Fm7 := Fm7.keep Kq10 (ninS ne_b6_b8 nin0)
        replace A8 := A8.keep Kq10
        replace Es9 := Es9.keep Kq10
        replace Fc9 := Fc9.keep Kq10 (ninS (Ne.symm ne_b8_b9) nin0)
        replace Fv9 := Fv9.keep Kq10 (ninS (Ne.symm ne_b8_b9) nin0)
        replace V9 := V9.keep Kq10 (ninS (Ne.symm ne_b8_t9) nin0)
        replace O0 : Ext Z.heap h10 := ext_keep O0 Kq10 (allS ge_b8 all0)
        obtain ⟨_, T11, h11, L11, X11, e11, hQ11, st11⟩ := faceC X10 hx hZ10 (xi := (⟨"java/util/List", "add", "(Ljava/lang/Object;)Z"⟩ : MethodName)) (y := (⟨"java/util/ArrayList", "add", "(Ljava/lang/Object;)Z"⟩ : MethodName)) hown10 (wq hw 197 rfl) (wq hw 198 rfl) (wq hw 199 rfl) (wq hw 200 rfl) (wq hw 201 rfl) (wq hw 202 rfl) (wq hw 203 rfl) (wq hw 204 rfl) (by decide) (kc := 1) (ks := 10) (Con.sb (W := 0) (rm_add0 l hD b6 b8 xde xkde O0 A6 Fe7 Fs7 Fm7 ge_b6 S_DE V_DE A8) hZ10 (wq hw 205 rfl) (wq hw 2 rfl) (by decide) (by decide)) e10 A6 (g := (mkF m 127 #[vi p0, vj p1, .second, vj p2, .second, vj p3, .second, vi p4, vi 1, vi 1, vj y3, .second, vj y4, .second, vr b5, vr b6, .unset, .unset] [(.ref b8), (.ref b6)])) rfl (by rw [hml]; rfl) (argsL := [(.ref b8)]) (rest := []) (lenOf pd_19 rfl) rfl (by show 2 * 0 + _ ≤ _; exact Nat.le_of_eq rfl) (hb hby at_127) (by decide) (by decide)
        obtain ⟨rfl, Nq11, Kq11, Fs11⟩ := hQ11
        refine OEndsH.st st11 ?_
        replace N4 := Fr.app N4 Nq11
        replace A6 := A6.keep Kq11
        replace A8 := A8.keep Kq11
        replace Es9 := Es9.keep Kq11
        replace Fc9 := Fc9.keep Kq11 (ninS (Ne.symm ne_b6_b9) nin0)
        replace Fv9 := Fv9.keep Kq11 (ninS (Ne.symm ne_b6_b9) nin0)
        replace V9 := V9.keep Kq11 (ninS (Ne.symm ne_b6_t9) nin0)
        have S_b6' : Safe Z EL vm10 h11 b6 := Safe.keep Kq11 (sfS S_b6 sf0) A0.1 S_b6
        have S_b8' : Safe Z EL vm10 h11 b8 := Safe.keep Kq11 (sfS S_b6 sf0) A0.1 S_b8
        have A' : CHr Z EL s.vm s.heap vm10 h11 := A0.trans (CHr.keep Kq11 (sfS S_b6 sf0) A0.1)
        replace S_b6 := S_b6'
        replace S_b8 := S_b8'
        replace A0 := A'
        replace hk10 := Nat.le_trans hk10 Kq11.1
        replace O0 : Ext Z.heap h11 := ext_keep O0 Kq11 (allS ge_b6 all0)
        clear A8
        clear Es9
        clear Fc9
        clear Fv9
        clear V9
        refine OEndsH.st (S' := T11.setTop (mkF m 133 #[vi p0, vj p1, .second, vj p2, .second, vj p3, .second, vi p4, vi 1, vi 1, vj y3, .second, vj y4, .second, vr b5, vr b6, .unset, .unset] [])) (fun _ k => ?_) ?_
        · refine XS.pop X11.here hx rfl (hb hby at_132) rfl rfl ?_
          exact k
        obtain ⟨T12, h12, X12, e12, E12, A12, D12, U12, st12⟩ := newO X11 hx hZ10 hown10 (wq hw 26 rfl) (wq hw 27 rfl) (wq hw 28 rfl) e11 (g := (mkF m 133 #[vi p0, vj p1, .second, vj p2, .second, vj p3, .second, vi p4, vi 1, vi 1, vj y3, .second, vj y4, .second, vr b5, vr b6, .unset, .unset] [])) rfl (hb hby at_133) (by decide) (by decide)
        obtain ⟨b12, g12⟩ : ∃ z, z = h11.size := ⟨_, rfl⟩
        rw [← g12] at A12 D12 U12 st12
        refine OEndsH.st st12 ?_
        have ne_b6_b12 : b6 ≠ b12 := Nat.ne_of_lt (Nat.lt_of_lt_of_le A6.lt (Nat.le_of_eq g12.symm))
        have ge_b12 : Z.heap.size ≤ b12 := Nat.le_trans O0.1 (Nat.le_of_eq g12.symm)
        have S_b12 : Safe Z EL vm10 h11 b12 := Safe.new (Nat.le_of_eq g12.symm)
        replace A6 := A6.ext E12
        replace Fs11 := Fs11.ext E12
        have S_b6' : Safe Z EL vm10 h12 b6 := Safe.ext E12 A0.1 S_b6
        have S_b12' : Safe Z EL vm10 h12 b12 := Safe.ext E12 A0.1 S_b12
        have A' : CHr Z EL s.vm s.heap vm10 h12 := A0.trans (CHr.ext E12 A0.1)
        replace S_b6 := S_b6'
        replace S_b12 := S_b12'
        replace A0 := A'
        replace hk10 := Nat.le_trans hk10 E12.1
        replace O0 : Ext Z.heap h12 := ext_trans O0 E12
        have F_previous_b12 : Fld Z h12 b12 "com/example/anteroom/anteroom/store/VersionChanges" "previous" "Ljava/lang/String;" .null := D12 (Or.inr (wq hw 39 rfl)) (ty := (.object "java/lang/String")) (by decide)
        have F_added_b12 : Fld Z h12 b12 "com/example/anteroom/anteroom/store/VersionChanges" "added" "J" (.long 0) := D12 (Or.inr (wq hw 41 rfl)) (ty := .long) (by decide)
        have F_modified_b12 : Fld Z h12 b12 "com/example/anteroom/anteroom/store/VersionChanges" "modified" "J" (.long 0) := D12 (Or.inr (wq hw 43 rfl)) (ty := .long) (by decide)
        have F_removed_b12 : Fld Z h12 b12 "com/example/anteroom/anteroom/store/VersionChanges" "removed" "Ljava/util/List;" .null := D12 (Or.inr (wq hw 45 rfl)) (ty := (.object "java/util/List")) (by decide)
        have F_unchanged_b12 : Fld Z h12 b12 "com/example/anteroom/anteroom/store/VersionChanges" "unchanged" "J" (.long 0) := D12 (Or.inr (wq hw 47 rfl)) (ty := .long) (by decide)
        refine OEndsH.st (S' := T12.setTop (mkF m 147 #[vi p0, vj p1, .second, vj p2, .second, vj p3, .second, vi p4, vi 1, vi 1, vj y3, .second, vj y4, .second, vr b5, vr b6, .unset, .unset] [(.long p3), (.ref b6), (.long y4), (.long y3), (.ref b5), (.ref b12), (.ref b12)])) (fun _ k => ?_) ?_
        · refine XS.dup X12.here hx rfl (hb hby at_136) rfl rfl ?_
          refine XS.aload X12.here hx rfl (hb hby at_137) rfl rfl ?_
          refine XS.lload X12.here hx rfl (hb hby at_139) rfl ?_
          refine XS.lload X12.here hx rfl (hb hby at_141) rfl ?_
          show Steps p.tables e below (T12.setTop (mkF m 143 #[vi p0, vj p1, .second, vj p2, .second, vj p3, .second, vi p4, vi 1, vi 1, vj y3, .second, vj y4, .second, vr b5, vr b6, .unset, .unset] [(.long y4), (.long y3), (.ref b5), (.ref b12), (.ref b12)])) _
          refine XS.aload X12.here hx rfl (hb hby at_143) rfl rfl ?_
          refine XS.lload X12.here hx rfl (hb hby at_145) rfl ?_
          exact k
        obtain ⟨_, T13, h13, L13, X13, e13, hQ13, st13⟩ := specC X12 hx hZ10 rfl hown10 (wq hw 29 rfl) (wq hw 30 rfl) (wq hw 31 rfl) (by decide) (kc := 0) (ks := 0) (Con.sb (W := 1) (rm_vcInit l hD b12 (.ref b5) y3 y4 b6 p3 O0 A12 F_previous_b12 F_added_b12 F_modified_b12 F_removed_b12 F_unchanged_b12 ge_b12 rfl) hZ10 (wq hw 31 rfl) (wq hw 28 rfl) (by decide) (by decide)) e12 (a := b12) (g := (mkF m 147 #[vi p0, vj p1, .second, vj p2, .second, vj p3, .second, vi p4, vi 1, vi 1, vj y3, .second, vj y4, .second, vr b5, vr b6, .unset, .unset] [(.long p3), (.ref b6), (.long y4), (.long y3), (.ref b5), (.ref b12), (.ref b12)])) rfl (by rw [hml]; rfl) (argsL := [(.ref b5), (.long y3), (.long y4), (.ref b6), (.long p3)]) (rest := [(.ref b12)]) (lenOf pd_21 rfl) rfl (by show 2 * 0 + _ ≤ _; exact Nat.le_of_eq rfl) (hb hby at_147) (by decide) (by decide)
        obtain ⟨rfl, Nq13, Kq13, Eq13, F013, F113, F213, F313, F413⟩ := hQ13
        refine OEndsH.st st13 ?_
        replace N4 := Fr.app N4 Nq13
        replace A6 := A6.keep Kq13
        replace Fs11 := Fs11.keep Kq13 (ninS ne_b6_b12 nin0)
        replace A12 := A12.keep Kq13
        have S_b6' : Safe Z EL vm10 h13 b6 := Safe.keep Kq13 (sfS S_b12 sf0) A0.1 S_b6
        have S_b12' : Safe Z EL vm10 h13 b12 := Safe.keep Kq13 (sfS S_b12 sf0) A0.1 S_b12
        have A' : CHr Z EL s.vm s.heap vm10 h13 := A0.trans (CHr.keep Kq13 (sfS S_b12 sf0) A0.1)
        replace S_b6 := S_b6'
        replace S_b12 := S_b12'
        replace A0 := A'
        replace hk10 := Nat.le_trans hk10 Kq13.1
        replace O0 : Ext Z.heap h13 := ext_keep O0 Kq13 (allS ge_b12 all0)
        refine OEndsH.st (S' := T13.setTop (mkF m 152 #[vi p0, vj p1, .second, vj p2, .second, vj p3, .second, vi p4, vi 1, vi 1, vj y3, .second, vj y4, .second, vr b5, vr b6, vr b12, .unset] [])) (fun _ k => ?_) ?_
        · refine XS.astore X13.here hx rfl (hb hby at_150) rfl rfl (l' := #[vi p0, vj p1, .second, vj p2, .second, vj p3, .second, vi p4, vi 1, vi 1, vj y3, .second, vj y4, .second, vr b5, vr b6, vr b12, .unset]) rfl ?_
          exact k
        refine OEndsH.st (S' := T13.setTop (mkF m 161 #[vi p0, vj p1, .second, vj p2, .second, vj p3, .second, vi p4, vi 1, vi 1, vj y3, .second, vj y4, .second, vr b5, vr b6, vr b12, .unset] [(.int (lcmpW y3 (0 : Int64)))])) (fun _ k => ?_) ?_
        · refine XS.iload X13.here hx rfl (hb hby at_152) rfl ?_
          refine XS.ifNo X13.here hx rfl (hb hby at_154) rfl ((if0 _ _).trans (feq (by decide)).1) ?_
          refine XS.lload X13.here hx rfl (hb hby at_157) rfl ?_
          refine XS.lconst X13.here hx rfl (hb hby at_159) ?_
          show Steps p.tables e below (T13.setTop (mkF m 160 #[vi p0, vj p1, .second, vj p2, .second, vj p3, .second, vi p4, vi 1, vi 1, vj y3, .second, vj y4, .second, vr b5, vr b6, vr b12, .unset] [(.long 0), (.long y3)])) _
          refine XS.lcmp X13.here hx rfl (hb hby at_160) rfl ?_
          exact k
        obtain ⟨_, ⟨y14, T14, lc14, hy14, X14, e14, N14, rfl⟩, st14⟩ : OJ p e below (fun S' => ∃ (y14 : Int32) (T' : State) (lc : List Loc), ((y14 = 1 ∧ (¬ ((.ref b5) : Value) = .null ∧ lcmpW y3 0 = 0 ∧ lcmpW y4 0 = 0 ∧ False)) ∨ (y14 = 0 ∧ ¬ (¬ ((.ref b5) : Value) = .null ∧ lcmpW y3 0 = 0 ∧ lcmpW y4 0 = 0 ∧ False))) ∧ Stand p l e room_1 (s.setVm vm10) m #[(.int p0), (.long p1), (.long p2), (.long p3), (.int p4)] below meth c T' lc 20 139 ∧ T'.heap = h13 ∧ Fr Z.heap.size lc ∧ S' = T'.setTop (mkF m 181 #[vi p0, vj p1, .second, vj p2, .second, vj p3, .second, vi p4, vi 1, vi 1, vj y3, .second, vj y4, .second, vr b5, vr b6, vr b12, .unset] [(.int y14)])) (T13.setTop (mkF m 161 #[vi p0, vj p1, .second, vj p2, .second, vj p3, .second, vi p4, vi 1, vi 1, vj y3, .second, vj y4, .second, vr b5, vr b6, vr b12, .unset] [(.int (lcmpW y3 (0 : Int64)))])) := by
          rcases Classical.em ((lcmpW y3 (0 : Int64)) = (0 : Int32)) with f1 | f1
          · refine OJ.st (S' := T13.setTop (mkF m 168 #[vi p0, vj p1, .second, vj p2, .second, vj p3, .second, vi p4, vi 1, vi 1, vj y3, .second, vj y4, .second, vr b5, vr b6, vr b12, .unset] [(.int (lcmpW y4 (0 : Int64)))])) (fun _ k => ?_) ?_
            · refine XS.ifNo X13.here hx rfl (hb hby at_161) rfl ((if0 _ _).trans (teq f1).2) ?_
              refine XS.lload X13.here hx rfl (hb hby at_164) rfl ?_
              refine XS.lconst X13.here hx rfl (hb hby at_166) ?_
              refine XS.lcmp X13.here hx rfl (hb hby at_167) rfl ?_
              exact k
            rcases Classical.em ((lcmpW y4 (0 : Int64)) = (0 : Int32)) with f2 | f2
            · refine OJ.st (S' := T13.setTop (mkF m 181 #[vi p0, vj p1, .second, vj p2, .second, vj p3, .second, vi p4, vi 1, vi 1, vj y3, .second, vj y4, .second, vr b5, vr b6, vr b12, .unset] [(.int 0)])) (fun _ k => ?_) ?_
              · refine XS.ifNo X13.here hx rfl (hb hby at_168) rfl ((if0 _ _).trans (teq f2).2) ?_
                refine XS.iload X13.here hx rfl (hb hby at_171) rfl ?_
                refine XS.ifYes X13.here hx rfl (pc0 := 173) (pc' := 180) rfl (hb hby at_173) rfl ((if0 _ _).trans (feq (by decide)).2) (by decide) (by decide) ?_
                refine XS.iconst X13.here hx rfl (hb hby at_180) ?_
                exact k
              exact OJ.here ⟨(0 : Int32), T13, _, Or.inr ⟨rfl, fun q => q.2.2.2⟩, X13, e13, N4, rfl⟩
            · refine OJ.st (S' := T13.setTop (mkF m 181 #[vi p0, vj p1, .second, vj p2, .second, vj p3, .second, vi p4, vi 1, vi 1, vj y3, .second, vj y4, .second, vr b5, vr b6, vr b12, .unset] [(.int 0)])) (fun _ k => ?_) ?_
              · refine XS.ifYes X13.here hx rfl (pc0 := 168) (pc' := 180) rfl (hb hby at_168) rfl ((if0 _ _).trans (feq f2).2) (by decide) (by decide) ?_
                refine XS.iconst X13.here hx rfl (hb hby at_180) ?_
                exact k
              exact OJ.here ⟨(0 : Int32), T13, _, Or.inr ⟨rfl, fun q => f2 q.2.2.1⟩, X13, e13, N4, rfl⟩
          · refine OJ.st (S' := T13.setTop (mkF m 181 #[vi p0, vj p1, .second, vj p2, .second, vj p3, .second, vi p4, vi 1, vi 1, vj y3, .second, vj y4, .second, vr b5, vr b6, vr b12, .unset] [(.int 0)])) (fun _ k => ?_) ?_
            · refine XS.ifYes X13.here hx rfl (pc0 := 161) (pc' := 180) rfl (hb hby at_161) rfl ((if0 _ _).trans (feq f1).2) (by decide) (by decide) ?_
              refine XS.iconst X13.here hx rfl (hb hby at_180) ?_
              exact k
            exact OJ.here ⟨(0 : Int32), T13, _, Or.inr ⟨rfl, fun q => f1 q.2.1⟩, X13, e13, N4, rfl⟩
        refine OEndsH.st st14 ?_
        refine OEndsH.st (S' := T14.setTop (mkF m 183 #[vi p0, vj p1, .second, vj p2, .second, vj p3, .second, vi p4, vi 1, vi 1, vj y3, .second, vj y4, .second, vr b5, vr b6, vr b12, vi y14] [])) (fun _ k => ?_) ?_
        · refine XS.istore X14.here hx rfl (hb hby at_181) rfl (l' := #[vi p0, vj p1, .second, vj p2, .second, vj p3, .second, vi p4, vi 1, vi 1, vj y3, .second, vj y4, .second, vr b5, vr b6, vr b12, vi y14]) rfl ?_
          exact k
        refine OEndsH.st (S' := T14.setTop (mkF m 185 #[vi p0, vj p1, .second, vj p2, .second, vj p3, .second, vi p4, vi 1, vi 1, vj y3, .second, vj y4, .second, vr b5, vr b6, vr b12, vi y14] [(.ref b12)])) (fun _ k => ?_) ?_
        · refine XS.aload X14.here hx rfl (hb hby at_183) rfl rfl ?_
          exact k
        obtain ⟨_, T15, h15, L15, X15, e15, hQ15, st15⟩ := virtC X14 hx hZ10 (y := (⟨"com/example/anteroom/anteroom/store/VersionChanges", "isNone", "()Z"⟩ : MethodName)) (z := (⟨"com/example/anteroom/anteroom/store/VersionChanges", "isNone", "()Z"⟩ : MethodName)) hown10 (wq hw 48 rfl) (wq hw 49 rfl) (nf_sel (args := #[]) (mvT hZ10 (wq hw 51 rfl)) rfl) (wq hw 51 rfl) (wq hw 50 rfl) (by decide) (kc := 0) (ks := 0) (Con.sb (W := 0) (rm_isNone1 l hD b12 (.ref b5) y3 y4 b6 O0 A12 F013 F113 F213 F313 A6 Fs11 rfl) hZ10 (wq hw 52 rfl) (wq hw 28 rfl) (by decide) (by decide)) e14 A12 (g := (mkF m 185 #[vi p0, vj p1, .second, vj p2, .second, vj p3, .second, vi p4, vi 1, vi 1, vj y3, .second, vj y4, .second, vr b5, vr b6, vr b12, vi y14] [(.ref b12)])) rfl (by rw [hml]; rfl) (argsL := []) (rest := []) (lenOf pd_8 rfl) rfl (by show 2 * 0 + _ ≤ _; exact Nat.le_of_eq rfl) (hb hby at_185) (by decide) (by decide)
        obtain ⟨r15, rfl, hr15, Nq15, Hq15⟩ := hQ15
        refine OEndsH.st st15 ?_
        replace N14 := Fr.app N14 Nq15
        replace e15 := e15.trans Hq15
        have hry : r15 = y14 := by
          rcases hr15 with ⟨q1, q2⟩ | ⟨q1, q2⟩ <;> rcases hy14 with ⟨q3, q4⟩ | ⟨q3, q4⟩
          · rw [q1, q3]
          · exact absurd q2 q4
          · exact absurd q4 q2
          · rw [q1, q3]
        refine OEndsH.st (S' := T15.setTop (mkF m 198 #[vi p0, vj p1, .second, vj p2, .second, vj p3, .second, vi p4, vi 1, vi 1, vj y3, .second, vj y4, .second, vr b5, vr b6, vr b12, vi y14] [(.int 1)])) (fun _ k => ?_) ?_
        · refine XS.iload X15.here hx rfl (hb hby at_188) rfl ?_
          refine XS.icmpNo X15.here hx rfl (hb hby at_190) rfl (teq hry).2 ?_
          refine XS.iconst X15.here hx rfl (hb hby at_193) ?_
          refine XS.goto X15.here hx rfl (pc0 := 194) (pc' := 198) rfl (hb hby at_194) (by decide) (by decide) ?_
          exact k
        exact OEndsH.ret X15 hx hZ10 hEL e15 hS10 hk10 A0 hret hlk (by decide) (Or.inl ⟨rfl, by simp, _, rfl⟩) (hb hby at_198) (by decide) (by decide) ⟨rfl, N14⟩
theorem consts_in : ∀ q ∈ EL, q ∈ consts_1 := by decide
set_option maxRecDepth 65536 in
set_option maxHeartbeats 40000000 in
theorem comes_1 {Post : Tables → Env → Array Value → State → Outcome → State → Prop} (hpost : ∀ tb e args s v u, (limb_1_1.after args s (.returned v) u = true ∧ limb_1_2.after args s (.returned v) u = true ∧ True) → Jvm.D.FramedW s (.returned v) u (Jvm.fieldLocs frame_1_writes args s ++ Jvm.arrayLocs frame_1_arrays args s ++ Jvm.staticLocs frame_1_statics s) 40 7360 → Post tb e args s (.returned v) u) :
    ArmFor flags0 classFile x code maxLocals ret World_1 tables_1 room_1 Calls_1 rest_1 Pre_1 Post := by
  intro l hfl _ _ p e ha hc hk s m args below hf hA hF happ hP
  obtain ⟨hcalls, hrest, hpre⟩ := hP
  obtain ⟨-, -, -, hnamed, -, -, -, hat⟩ := (Spec.applies_iff hf).mp happ
  obtain ⟨hg, hn⟩ := and_e (Cond.before_iff.mp (show (Jvm.Cond.and given_1 narrow_1).before args s = true from hpre))
  obtain ⟨g0, g1⟩ := and_e hg
  obtain ⟨ga0, g2⟩ := and_e g1
  obtain ⟨ga1, g3⟩ := and_e g2
  obtain ⟨ga2, g4⟩ := and_e g3
  obtain ⟨ga3, g5⟩ := and_e g4
  obtain ⟨w0, w1, w2, w3, w4, rfl⟩ : ∃ w0 w1 w2 w3 w4 : Value, args = #[w0, w1, w2, w3, w4] := by
    have hs : args.size = 5 := by simpa [Cond.value, given_1] using g0
    obtain ⟨L⟩ := args
    match L, hs with
    | [w0, w1, w2, w3, w4], _ => exact ⟨w0, w1, w2, w3, w4, rfl⟩
  have hw := fun d (hd : d ∈ tables_1) => atoms_spec (ws := Jvm.Cond.code x code maxLocals ret :: tables_1) hat d (List.mem_cons_of_mem _ hd)
  have hfit : Fit s := fun {y c} hc i hi => by
    obtain ⟨ha, rfl⟩ := Array.getElem?_eq_some_iff.mp hc
    have q := List.all_eq_true.mp ((Array.all_eq_true_iff_forall_mem.mp hF) _ (Array.getElem_mem ha)) i (List.mem_range.mpr hi)
    simpa [Array.getElem?_eq_getElem hi] using q
  obtain ⟨hsets, hown0⟩ := atoms_of _ (rest_1_c_eq ▸ (show rest_1_c.before _ s = true from hrest))
  obtain ⟨i0, ei0⟩ := is_v ga0
  obtain rfl : w0 = (.int i0) := Option.some.inj ei0
  obtain ⟨i1, ei1⟩ := isL_v ga1
  obtain rfl : w1 = (.long i1) := Option.some.inj ei1
  obtain ⟨i2, ei2⟩ := isL_v ga2
  obtain rfl : w2 = (.long i2) := Option.some.inj ei2
  obtain ⟨i3, ei3⟩ := isL_v ga3
  obtain rfl : w3 = (.long i3) := Option.some.inj ei3
  obtain ⟨i4, ei4⟩ := is_v g5
  obtain rfl : w4 = (.int i4) := Option.some.inj ei4
  obtain ⟨cz, ecz⟩ := is_v (Cond.before_iff.mp (hsets _ (List.mem_of_getElem? (i := 10) rfl)))
  have S_CS : Sta s s.heap "java/lang/String" "COMPACT_STRINGS" "Z" (.int cz) := Sta.start ecz (Or.inl (hsets _ (List.mem_of_getElem? (i := 9) rfl)))
  have hcz : ¬ (cz = (0 : Int32)) := gotF (Cond.eq_ints ecz (Term.int_eval (0))) (not_v (Cond.before_iff.mp (hsets _ (List.mem_of_getElem? (i := 11) rfl))))
  obtain ⟨sf, S_SF, hsf⟩ : ∃ w : Value, Sta s s.heap "jdk/internal/util/Preconditions" "SIOOBE_FORMATTER" "Ljava/util/function/BiFunction;" w ∧ w.isRef = true := by
    obtain ⟨w, ew, hw'⟩ := isR_v (Cond.before_iff.mp (hsets _ (List.mem_of_getElem? (i := 17) rfl)))
    exact ⟨w, Sta.start ew (Or.inl (hsets _ (List.mem_of_getElem? (i := 16) rfl))), hw'⟩
  obtain ⟨xde, ede⟩ := arr_v (Cond.before_iff.mp (hsets _ (List.mem_of_getElem? (i := 6) rfl)))
  have S_DE : Sta s s.heap "java/util/ArrayList" "DEFAULTCAPACITY_EMPTY_ELEMENTDATA" "[Ljava/lang/Object;" (.ref xde) := Sta.start ede (Or.inr ⟨hw _ (List.mem_of_getElem? (i := 2) rfl), (hsets _ (List.mem_of_getElem? (i := 2) rfl))⟩)
  obtain ⟨cde, Ade⟩ := Arr.start ede (Cond.before_iff.mp (hsets _ (List.mem_of_getElem? (i := 6) rfl)))
  have V_DE : Arv s s.heap xde cde.cls (.object "java/lang/Object") (0 : Int32) [] .null := arv_empty hfit Ade ede (Cond.eq_int (hsets _ (List.mem_of_getElem? (i := 8) rfl)) rfl)
  have hD : Wd s _ := ⟨hw, ⟨cz, S_CS, hcz⟩, ⟨sf, S_SF, hsf⟩, ⟨xde, _, S_DE, V_DE⟩⟩
  have hC : CHv s EL s.vm s.heap := CHv.start (el_of hw) (fun q hq => hcalls.1 q (consts_in q hq)) (hsets _ (List.mem_of_getElem? (i := 11) rfl)) (wq hw 70 rfl) (wq hw 55 rfl)
  obtain ⟨n, o, h1, h2, h3, _, L, rfl, ⟨rfl, N⟩, -, hq⟩ := rm_law l hD i0 i1 i2 i3 i4 (ext_refl s.heap) p e ha hc hk s m _ below hf ((Spec.applies_iff_loose hf).mp happ).1 ⟨rfl, State.Warmed39.refl s, rfl, hC, fun x hx => nomatch hx⟩ trivial
  refine ⟨n, _, h1, h2, h3, hpost _ _ _ _ _ _ ⟨Cond.after_iff.mpr rfl, Cond.after_iff.mpr (eq_i res_at (Term.int_eval (1)) rfl), trivial⟩ ⟨hq.1, hq.2.1, hq.2.2.1, (hq.2.2.2.sift fun y hy => Or.inr (N y hy)).mono (by decide) (by decide)⟩⟩
theorem main_1_1 : Claimed_1_1 := comes_1 fun _ _ _ _ _ _ h hF => ⟨h.1, hF⟩
theorem main_1_2 : Claimed_1_2 := comes_1 fun _ _ _ _ _ _ h hF => ⟨h.2.1, hF⟩
end Jvm.Pilot.@@N@@
namespace Jvm.Pilot.@@N@@
open Jvm Jvm.ClassFile Sem Op Lib Jvm.Free Jvm.Stand Jvm.Pilot.@@N@@.Jvm.D
/-! MADE BY PROGRAM (witnessworld.py) out of the Statement's table words and the real class files: 34 classes; the members and pool entries that the words name. The judged class is class 1, her method 1. -/
namespace start1
open Jvm.ClassFile
def u (s : String) : CpInfo := .utf8 (stringToUtf16 s)
/-- a pool by its gaps: so many unusable entries, then the entry; so many at the end -/
def gap : Nat → List CpInfo → List CpInfo
  | 0, r => r
  | n + 1, r => .unusable :: gap n r
def poolList (es : List (Nat × CpInfo)) (last : Nat) : List CpInfo := es.foldr (fun e r => gap e.1 (e.2 :: r)) (gap last [])
def pool (es : List (Nat × CpInfo)) (last : Nat) : Array CpInfo := ⟨poolList es last⟩
def fileOf (pool : Array CpInfo) (this : Nat) (attrs : Array Attribute := #[]) (ms : Array MethodInfo := #[]) (fl : Nat := 33) (sup : Nat := 0) (ifs : Array Nat := #[]) (fds : Array FieldInfo := #[]) : ClassFile where
  minorVersion := 0
  majorVersion := 65
  constantPool := pool
  accessFlags := fl
  thisClass := this
  superClass := sup
  interfaces := ifs
  fields := fds
  methods := ms
  attributes := attrs
def plain (name : String) (sup : Option ClassId) : Class where
  name := name
  kind := .ordinary
  loader := none
  accessFlags := 33
  super := sup
  interfaces := #[]
  cf := none
  fields := #[]
  methods := #[]
  instanceTypes := #[]
  staticTypes := #[]
  resolved := #[]
  callSites := []
  init := .initialized
  statics := none
  mirror := none

def pool0 : Array CpInfo := pool [(5, u "<init>"), (0, u "()V"), (1, .class_ 10), (1, u "java/lang/Object")] 113

def k0c0 : Code := { maxStack := 0, maxLocals := 1, code := object_method_1_code, exceptionTable := #[], attributes := #[] }
def k0m0 : Method := { name := "<init>", desc := "()V", sig := { parameters := [], returnType := none }, accessFlags := 1, code := some k0c0 }
/-- java/lang/Object -/
def k0 : Class := { plain "java/lang/Object" none with
  accessFlags := 33
  interfaces := #[]
  cf := some (fileOf pool0 8 #[] #[{ accessFlags := 1, nameIndex := 5, descriptorIndex := 6, attributes := #[] }] 33 0 #[] #[])
  fields := #[]
  methods := #[k0m0]
  instanceTypes := #[]
  staticTypes := #[]
  resolved := Array.replicate 124 none
  statics := none }

def pool1 : Array CpInfo := pool [(2, .class_ 4), (0, .nameAndType 5 6), (0, u "java/lang/Object"), (0, u "<init>"), (0, u "()V"), (0, .string 8), (0, u ""), (0, .class_ 10), (0, u "java/lang/String"), (0, .methodref 9 12), (0, .nameAndType 5 13), (0, u "([C)V"), (0, .class_ 15), (0, u "java/util/ArrayList"), (0, .methodref 14 3), (0, .class_ 18), (0, u "com/example/anteroom/anteroom/store/LogicalPath"), (0, .string 20), (0, u "a"), (0, .methodref 17 22), (0, .nameAndType 5 23), (0, u "(Ljava/lang/String;)V"), (0, .interfaceMethodref 25 26), (0, .class_ 27), (0, .nameAndType 28 29), (0, u "java/util/List"), (0, u "add"), (0, u "(Ljava/lang/Object;)Z"), (0, .class_ 31), (0, u "com/example/anteroom/anteroom/store/VersionChanges"), (0, .methodref 30 33), (0, .nameAndType 5 34), (0, u "(Ljava/lang/String;JJLjava/util/List;J)V"), (0, .methodref 30 36), (0, .nameAndType 37 38), (0, u "isNone"), (0, u "()Z"), (0, .class_ 40), (0, u "com/example/anteroom/anteroom/store/VersionChangesIsNonePinLaw"), (2, u "law"), (0, u "(IJJJI)Z")] 3

def k1m0 : Method := { name := "<init>", desc := "()V", sig := { parameters := [], returnType := none }, accessFlags := 1, code := none }
def k1c1 : Code := { maxStack := 10, maxLocals := 18, code := code, exceptionTable := #[], attributes := #[] }
def k1m1 : Method := { name := "law", desc := "(IJJJI)Z", sig := { parameters := [.int, .long, .long, .long, .int], returnType := some .boolean }, accessFlags := 9, code := some k1c1 }
/-- com/example/anteroom/anteroom/store/VersionChangesIsNonePinLaw -/
def k1 : Class := { plain "com/example/anteroom/anteroom/store/VersionChangesIsNonePinLaw" (some 0) with
  accessFlags := 49
  interfaces := #[]
  cf := some (fileOf pool1 39 #[] #[{ accessFlags := 1, nameIndex := 5, descriptorIndex := 6, attributes := #[] }, { accessFlags := 9, nameIndex := 43, descriptorIndex := 44, attributes := #[] }] 49 2 #[] #[])
  fields := #[]
  methods := #[k1m0, k1m1]
  instanceTypes := #[]
  staticTypes := #[]
  resolved := Array.replicate 48 none
  statics := none }

def pool2 : Array CpInfo := pool [(8, .class_ 10), (1, u "java/lang/Iterable"), (24, .class_ 36), (0, u "java/lang/Object")] 25

/-- java/lang/Iterable -/
def k2 : Class := { plain "java/lang/Iterable" (some 0) with
  accessFlags := 1537
  interfaces := #[]
  cf := some (fileOf pool2 8 #[] #[] 1537 35 #[] #[])
  fields := #[]
  methods := #[]
  instanceTypes := #[]
  staticTypes := #[]
  resolved := Array.replicate 62 none
  statics := none }

def pool3 : Array CpInfo := pool [(10, .class_ 12), (1, u "java/util/Collection"), (47, .class_ 61), (0, u "java/lang/Object"), (0, .class_ 63), (0, u "java/lang/Iterable")] 51

/-- java/util/Collection -/
def k3 : Class := { plain "java/util/Collection" (some 0) with
  accessFlags := 1537
  interfaces := #[2]
  cf := some (fileOf pool3 10 #[] #[] 1537 60 #[62] #[])
  fields := #[]
  methods := #[]
  instanceTypes := #[]
  staticTypes := #[]
  resolved := Array.replicate 115 none
  statics := none }

def pool4 : Array CpInfo := pool [(1, .methodref 2 3), (0, .class_ 4), (0, .nameAndType 5 6), (0, u "java/lang/Object"), (0, u "<init>"), (0, u "()V"), (1, .class_ 10), (1, u "java/util/AbstractCollection"), (66, .class_ 78), (0, u "java/util/Collection")] 81

def k4c0 : Code := { maxStack := 1, maxLocals := 1, code := jdk_22_method_1_code, exceptionTable := #[], attributes := #[] }
def k4m0 : Method := { name := "<init>", desc := "()V", sig := { parameters := [], returnType := none }, accessFlags := 4, code := some k4c0 }
/-- java/util/AbstractCollection -/
def k4 : Class := { plain "java/util/AbstractCollection" (some 0) with
  accessFlags := 1057
  interfaces := #[3]
  cf := some (fileOf pool4 8 #[] #[{ accessFlags := 4, nameIndex := 5, descriptorIndex := 6, attributes := #[] }] 1057 2 #[77] #[])
  fields := #[]
  methods := #[k4m0]
  instanceTypes := #[]
  staticTypes := #[]
  resolved := Array.replicate 160 none
  statics := none }

def pool5 : Array CpInfo := pool [(8, .class_ 10), (1, u "java/util/SequencedCollection"), (15, .class_ 27), (0, u "java/lang/Object"), (0, .class_ 29), (0, u "java/util/Collection")] 27

/-- java/util/SequencedCollection -/
def k5 : Class := { plain "java/util/SequencedCollection" (some 0) with
  accessFlags := 1537
  interfaces := #[3]
  cf := some (fileOf pool5 8 #[] #[] 1537 26 #[28] #[])
  fields := #[]
  methods := #[]
  instanceTypes := #[]
  staticTypes := #[]
  resolved := Array.replicate 57 none
  statics := none }

def pool6 : Array CpInfo := pool [(8, .class_ 10), (1, u "java/util/List"), (7, u "()Z"), (41, u "add"), (3, u "(Ljava/lang/Object;)Z"), (2, u "isEmpty"), (35, .class_ 104), (0, u "java/lang/Object"), (15, .class_ 121), (0, u "java/util/SequencedCollection")] 129

def k6m0 : Method := { name := "isEmpty", desc := "()Z", sig := { parameters := [], returnType := some .boolean }, accessFlags := 1025, code := none }
def k6m1 : Method := { name := "add", desc := "(Ljava/lang/Object;)Z", sig := { parameters := [(.object "java/lang/Object")], returnType := some .boolean }, accessFlags := 1025, code := none }
/-- java/util/List -/
def k6 : Class := { plain "java/util/List" (some 0) with
  accessFlags := 1537
  interfaces := #[5]
  cf := some (fileOf pool6 8 #[] #[{ accessFlags := 1025, nameIndex := 67, descriptorIndex := 18, attributes := #[] }, { accessFlags := 1025, nameIndex := 60, descriptorIndex := 64, attributes := #[] }] 1537 103 #[120] #[])
  fields := #[]
  methods := #[k6m0, k6m1]
  instanceTypes := #[]
  staticTypes := #[]
  resolved := Array.replicate 251 none
  statics := none }

def pool7 : Array CpInfo := pool [(1, .methodref 2 3), (0, .class_ 4), (0, .nameAndType 5 6), (0, u "java/util/AbstractCollection"), (0, u "<init>"), (0, u "()V"), (0, .fieldref 8 9), (0, .class_ 10), (0, .nameAndType 11 12), (0, u "java/util/AbstractList"), (0, u "modCount"), (0, u "I"), (64, .class_ 78), (0, u "java/util/AbstractList$Itr"), (3, .class_ 83), (0, u "java/util/AbstractList$ListItr"), (9, .class_ 94), (0, u "java/util/AbstractList$RandomAccessSubList"), (3, .class_ 99), (0, u "java/util/AbstractList$SubList"), (33, .class_ 134), (0, u "java/util/List"), (73, .class_ 209), (0, u "java/util/AbstractList$SubList$1"), (0, .class_ 211), (0, u "java/util/AbstractList$RandomAccessSpliterator")] 6

def k7c0 : Code := { maxStack := 2, maxLocals := 1, code := jdk_39_method_1_code, exceptionTable := #[], attributes := #[] }
def k7m0 : Method := { name := "<init>", desc := "()V", sig := { parameters := [], returnType := none }, accessFlags := 4, code := some k7c0 }
/-- java/util/AbstractList -/
def k7 : Class := { plain "java/util/AbstractList" (some 4) with
  accessFlags := 1057
  interfaces := #[6]
  cf := some (fileOf pool7 8 #[.nestMembers #[93, 98, 208, 210, 82, 77]] #[{ accessFlags := 4, nameIndex := 5, descriptorIndex := 6, attributes := #[] }] 1057 2 #[133] #[{ accessFlags := 132, nameIndex := 11, descriptorIndex := 12, attributes := #[] }])
  fields := #[{ name := "modCount", type := .int, accessFlags := 132, slot := 0, constantValue := 0 }]
  methods := #[k7m0]
  instanceTypes := #[.int]
  staticTypes := #[]
  resolved := Array.replicate 218 none
  statics := none }

def pool8 : Array CpInfo := pool [(1, .class_ 2), (0, u "java/util/RandomAccess"), (0, .class_ 4), (0, u "java/lang/Object")] 2

/-- java/util/RandomAccess -/
def k8 : Class := { plain "java/util/RandomAccess" (some 0) with
  accessFlags := 1537
  interfaces := #[]
  cf := some (fileOf pool8 1 #[] #[] 1537 3 #[] #[])
  fields := #[]
  methods := #[]
  instanceTypes := #[]
  staticTypes := #[]
  resolved := Array.replicate 7 none
  statics := none }

def pool9 : Array CpInfo := pool [(1, .class_ 2), (0, u "java/lang/Cloneable"), (0, .class_ 4), (0, u "java/lang/Object")] 2

/-- java/lang/Cloneable -/
def k9 : Class := { plain "java/lang/Cloneable" (some 0) with
  accessFlags := 1537
  interfaces := #[]
  cf := some (fileOf pool9 1 #[] #[] 1537 3 #[] #[])
  fields := #[]
  methods := #[]
  instanceTypes := #[]
  staticTypes := #[]
  resolved := Array.replicate 7 none
  statics := none }

def pool10 : Array CpInfo := pool [(1, .class_ 2), (0, u "java/io/Serializable"), (0, .class_ 4), (0, u "java/lang/Object")] 2

/-- java/io/Serializable -/
def k10 : Class := { plain "java/io/Serializable" (some 0) with
  accessFlags := 1537
  interfaces := #[]
  cf := some (fileOf pool10 1 #[] #[] 1537 3 #[] #[])
  fields := #[]
  methods := #[]
  instanceTypes := #[]
  staticTypes := #[]
  resolved := Array.replicate 7 none
  statics := none }

def pool11 : Array CpInfo := pool [(1, .methodref 2 3), (0, .class_ 4), (0, .nameAndType 5 6), (0, u "java/util/AbstractList"), (0, u "<init>"), (0, u "()V"), (0, .class_ 8), (0, u "java/lang/Object"), (0, .fieldref 10 11), (0, .class_ 12), (0, .nameAndType 13 14), (0, u "java/util/ArrayList"), (0, u "elementData"), (0, u "[Ljava/lang/Object;"), (2, u "EMPTY_ELEMENTDATA"), (21, .fieldref 10 40), (0, .nameAndType 41 14), (0, u "DEFAULTCAPACITY_EMPTY_ELEMENTDATA"), (5, u "()[Ljava/lang/Object;"), (0, .fieldref 10 49), (0, .nameAndType 50 51), (0, u "size"), (0, u "I"), (11, .fieldref 10 64), (0, .nameAndType 65 51), (0, u "modCount"), (3, .methodref 10 70), (0, .nameAndType 71 72), (0, u "grow"), (0, u "(I)[Ljava/lang/Object;"), (6, .methodref 80 81), (0, .class_ 82), (0, .nameAndType 83 84), (0, u "java/lang/Math"), (0, u "max"), (0, u "(II)I"), (11, u "(Ljava/lang/Object;)Z"), (32, .methodref 10 130), (0, .nameAndType 71 47), (0, .methodref 10 132), (0, .nameAndType 133 134), (0, u "add"), (0, u "(Ljava/lang/Object;[Ljava/lang/Object;I)V"), (13, .class_ 149), (0, u "java/util/List"), (23, u "()Z"), (88, .class_ 263), (0, u "java/util/ArrayList$ListItr"), (3, .class_ 268), (0, u "java/util/ArrayList$Itr"), (7, .class_ 277), (0, u "java/util/ArrayList$SubList"), (12, .class_ 291), (0, u "java/util/ArrayList$ArrayListSpliterator"), (37, .class_ 330), (0, u "java/util/RandomAccess"), (0, .class_ 332), (0, u "java/lang/Cloneable"), (0, .class_ 334), (0, u "java/io/Serializable"), (0, u "serialVersionUID"), (0, u "J"), (3, u "DEFAULT_CAPACITY"), (22, u "isEmpty"), (136, .class_ 501), (0, u "java/util/ArrayList$SubList$2"), (0, .class_ 503), (0, u "java/util/ArrayList$SubList$1")] 5

def k11c0 : Code := { maxStack := 2, maxLocals := 1, code := jdk_38_method_2_code, exceptionTable := #[], attributes := #[] }
def k11m0 : Method := { name := "<init>", desc := "()V", sig := { parameters := [], returnType := none }, accessFlags := 1, code := some k11c0 }
def k11c1 : Code := { maxStack := 4, maxLocals := 4, code := jdk_38_method_6_code, exceptionTable := #[], attributes := #[] }
def k11m1 : Method := { name := "grow", desc := "(I)[Ljava/lang/Object;", sig := { parameters := [.int], returnType := some (.array (.object "java/lang/Object")) }, accessFlags := 2, code := some k11c1 }
def k11c2 : Code := { maxStack := 3, maxLocals := 1, code := jdk_38_method_7_code, exceptionTable := #[], attributes := #[] }
def k11m2 : Method := { name := "grow", desc := "()[Ljava/lang/Object;", sig := { parameters := [], returnType := some (.array (.object "java/lang/Object")) }, accessFlags := 2, code := some k11c2 }
def k11c3 : Code := { maxStack := 1, maxLocals := 1, code := jdk_38_method_9_code, exceptionTable := #[], attributes := #[] }
def k11m3 : Method := { name := "isEmpty", desc := "()Z", sig := { parameters := [], returnType := some .boolean }, accessFlags := 1, code := some k11c3 }
def k11c4 : Code := { maxStack := 3, maxLocals := 4, code := jdk_38_method_24_code, exceptionTable := #[], attributes := #[] }
def k11m4 : Method := { name := "add", desc := "(Ljava/lang/Object;[Ljava/lang/Object;I)V", sig := { parameters := [(.object "java/lang/Object"), (.array (.object "java/lang/Object")), .int], returnType := none }, accessFlags := 2, code := some k11c4 }
def k11c5 : Code := { maxStack := 4, maxLocals := 2, code := jdk_38_method_25_code, exceptionTable := #[], attributes := #[] }
def k11m5 : Method := { name := "add", desc := "(Ljava/lang/Object;)Z", sig := { parameters := [(.object "java/lang/Object")], returnType := some .boolean }, accessFlags := 1, code := some k11c5 }
/-- java/util/ArrayList -/
def k11 : Class := { plain "java/util/ArrayList" (some 7) with
  accessFlags := 33
  interfaces := #[6, 8, 9, 10]
  cf := some (fileOf pool11 10 #[.nestMembers #[290, 276, 500, 502, 262, 267]] #[{ accessFlags := 1, nameIndex := 5, descriptorIndex := 6, attributes := #[] }, { accessFlags := 2, nameIndex := 71, descriptorIndex := 72, attributes := #[] }, { accessFlags := 2, nameIndex := 71, descriptorIndex := 47, attributes := #[] }, { accessFlags := 1, nameIndex := 363, descriptorIndex := 173, attributes := #[] }, { accessFlags := 2, nameIndex := 133, descriptorIndex := 134, attributes := #[] }, { accessFlags := 1, nameIndex := 133, descriptorIndex := 96, attributes := #[] }] 33 2 #[148, 329, 331, 333] #[{ accessFlags := 26, nameIndex := 335, descriptorIndex := 336, attributes := #[] }, { accessFlags := 26, nameIndex := 340, descriptorIndex := 51, attributes := #[] }, { accessFlags := 26, nameIndex := 17, descriptorIndex := 14, attributes := #[] }, { accessFlags := 26, nameIndex := 41, descriptorIndex := 14, attributes := #[] }, { accessFlags := 128, nameIndex := 13, descriptorIndex := 14, attributes := #[] }, { accessFlags := 2, nameIndex := 50, descriptorIndex := 51, attributes := #[] }])
  fields := #[{ name := "serialVersionUID", type := .long, accessFlags := 26, slot := 0, constantValue := 0 }, { name := "DEFAULT_CAPACITY", type := .int, accessFlags := 26, slot := 1, constantValue := 0 }, { name := "EMPTY_ELEMENTDATA", type := (.array (.object "java/lang/Object")), accessFlags := 26, slot := 2, constantValue := 0 }, { name := "DEFAULTCAPACITY_EMPTY_ELEMENTDATA", type := (.array (.object "java/lang/Object")), accessFlags := 26, slot := 3, constantValue := 0 }, { name := "elementData", type := (.array (.object "java/lang/Object")), accessFlags := 128, slot := 1, constantValue := 0 }, { name := "size", type := .int, accessFlags := 2, slot := 2, constantValue := 0 }]
  methods := #[k11m0, k11m1, k11m2, k11m3, k11m4, k11m5]
  instanceTypes := #[.int, (.array (.object "java/lang/Object")), .int]
  staticTypes := #[.long, .int, (.array (.object "java/lang/Object")), (.array (.object "java/lang/Object"))]
  resolved := Array.replicate 509 none
  statics := some 0 }

def pool12 : Array CpInfo := pool [(1, .methodref 2 3), (0, .class_ 4), (0, .nameAndType 5 6), (0, u "java/lang/Object"), (0, u "<init>"), (0, u "()V"), (0, .class_ 8), (0, u "java/lang/Record")] 13

def k12c0 : Code := { maxStack := 1, maxLocals := 1, code := jdk_30_method_1_code, exceptionTable := #[], attributes := #[] }
def k12m0 : Method := { name := "<init>", desc := "()V", sig := { parameters := [], returnType := none }, accessFlags := 4, code := some k12c0 }
/-- java/lang/Record -/
def k12 : Class := { plain "java/lang/Record" (some 0) with
  accessFlags := 1057
  interfaces := #[]
  cf := some (fileOf pool12 7 #[] #[{ accessFlags := 4, nameIndex := 5, descriptorIndex := 6, attributes := #[] }] 1057 2 #[] #[])
  fields := #[]
  methods := #[k12m0]
  instanceTypes := #[]
  staticTypes := #[]
  resolved := Array.replicate 22 none
  statics := none }

def pool13 : Array CpInfo := pool [(1, .methodref 2 3), (0, .class_ 4), (0, .nameAndType 5 6), (0, u "java/lang/Record"), (0, u "<init>"), (0, u "()V"), (0, .fieldref 8 9), (0, .class_ 10), (0, .nameAndType 11 12), (0, u "com/example/anteroom/anteroom/store/VersionChanges"), (0, u "previous"), (0, u "Ljava/lang/String;"), (0, .fieldref 8 14), (0, .nameAndType 15 16), (0, u "added"), (0, u "J"), (0, .fieldref 8 18), (0, .nameAndType 19 16), (0, u "modified"), (0, .fieldref 8 21), (0, .nameAndType 22 23), (0, u "removed"), (0, u "Ljava/util/List;"), (0, .fieldref 8 25), (0, .nameAndType 26 16), (0, u "unchanged"), (0, .interfaceMethodref 28 29), (0, .class_ 30), (0, .nameAndType 31 32), (0, u "java/util/List"), (0, u "isEmpty"), (0, u "()Z"), (14, u "(Ljava/lang/String;JJLjava/util/List;J)V"), (4, u "isNone")] 31

def k13c0 : Code := { maxStack := 3, maxLocals := 9, code := prog_51_method_1_code, exceptionTable := #[], attributes := #[] }
def k13m0 : Method := { name := "<init>", desc := "(Ljava/lang/String;JJLjava/util/List;J)V", sig := { parameters := [(.object "java/lang/String"), .long, .long, (.object "java/util/List"), .long], returnType := none }, accessFlags := 1, code := some k13c0 }
def k13c1 : Code := { maxStack := 4, maxLocals := 1, code := prog_51_method_2_code, exceptionTable := #[], attributes := #[] }
def k13m1 : Method := { name := "isNone", desc := "()Z", sig := { parameters := [], returnType := some .boolean }, accessFlags := 1, code := some k13c1 }
/-- com/example/anteroom/anteroom/store/VersionChanges -/
def k13 : Class := { plain "com/example/anteroom/anteroom/store/VersionChanges" (some 12) with
  accessFlags := 49
  interfaces := #[]
  cf := some (fileOf pool13 8 #[] #[{ accessFlags := 1, nameIndex := 5, descriptorIndex := 47, attributes := #[] }, { accessFlags := 1, nameIndex := 52, descriptorIndex := 32, attributes := #[] }] 49 2 #[] #[{ accessFlags := 18, nameIndex := 11, descriptorIndex := 12, attributes := #[] }, { accessFlags := 18, nameIndex := 15, descriptorIndex := 16, attributes := #[] }, { accessFlags := 18, nameIndex := 19, descriptorIndex := 16, attributes := #[] }, { accessFlags := 18, nameIndex := 22, descriptorIndex := 23, attributes := #[] }, { accessFlags := 18, nameIndex := 26, descriptorIndex := 16, attributes := #[] }])
  fields := #[{ name := "previous", type := (.object "java/lang/String"), accessFlags := 18, slot := 0, constantValue := 0 }, { name := "added", type := .long, accessFlags := 18, slot := 1, constantValue := 0 }, { name := "modified", type := .long, accessFlags := 18, slot := 2, constantValue := 0 }, { name := "removed", type := (.object "java/util/List"), accessFlags := 18, slot := 3, constantValue := 0 }, { name := "unchanged", type := .long, accessFlags := 18, slot := 4, constantValue := 0 }]
  methods := #[k13m0, k13m1]
  instanceTypes := #[(.object "java/lang/String"), .long, .long, (.object "java/util/List"), .long]
  staticTypes := #[]
  resolved := Array.replicate 84 none
  statics := none }

def pool14 : Array CpInfo := pool [(1, .class_ 2), (0, u "java/lang/Comparable"), (0, .class_ 4), (0, u "java/lang/Object")] 7

/-- java/lang/Comparable -/
def k14 : Class := { plain "java/lang/Comparable" (some 0) with
  accessFlags := 1537
  interfaces := #[]
  cf := some (fileOf pool14 1 #[] #[] 1537 3 #[] #[])
  fields := #[]
  methods := #[]
  instanceTypes := #[]
  staticTypes := #[]
  resolved := Array.replicate 12 none
  statics := none }

def pool15 : Array CpInfo := pool [(2, .class_ 4), (1, u "java/lang/CharSequence"), (42, .class_ 48), (0, u "java/lang/CharSequence$1CodePointIterator"), (10, .class_ 60), (0, u "java/lang/CharSequence$1CharIterator"), (5, .class_ 67), (0, u "java/lang/Object")] 63

/-- java/lang/CharSequence -/
def k15 : Class := { plain "java/lang/CharSequence" (some 0) with
  accessFlags := 1537
  interfaces := #[]
  cf := some (fileOf pool15 2 #[.nestMembers #[47, 59]] #[] 1537 66 #[] #[])
  fields := #[]
  methods := #[]
  instanceTypes := #[]
  staticTypes := #[]
  resolved := Array.replicate 131 none
  statics := none }

def pool16 : Array CpInfo := pool [(1, .class_ 2), (0, u "java/lang/constant/Constable"), (0, .class_ 4), (0, u "java/lang/Object")] 6

/-- java/lang/constant/Constable -/
def k16 : Class := { plain "java/lang/constant/Constable" (some 0) with
  accessFlags := 1537
  interfaces := #[]
  cf := some (fileOf pool16 1 #[] #[] 1537 3 #[] #[])
  fields := #[]
  methods := #[]
  instanceTypes := #[]
  staticTypes := #[]
  resolved := Array.replicate 11 none
  statics := none }

def pool17 : Array CpInfo := pool [(1, .class_ 2), (0, u "java/lang/constant/ConstantDesc"), (0, .class_ 4), (0, u "java/lang/Object")] 32

/-- java/lang/constant/ConstantDesc -/
def k17 : Class := { plain "java/lang/constant/ConstantDesc" (some 0) with
  accessFlags := 1537
  interfaces := #[]
  cf := some (fileOf pool17 1 #[] #[] 1537 3 #[] #[])
  fields := #[]
  methods := #[]
  instanceTypes := #[]
  staticTypes := #[]
  resolved := Array.replicate 37 none
  statics := none }

def pool18 : Array CpInfo := pool [(1, .methodref 2 3), (0, .class_ 4), (0, .nameAndType 5 6), (0, u "java/lang/Object"), (0, u "<init>"), (0, u "()V"), (2, .fieldref 10 11), (0, .class_ 12), (0, .nameAndType 13 14), (0, u "java/lang/String"), (0, u "value"), (0, u "[B"), (0, .fieldref 10 16), (0, .nameAndType 17 18), (0, u "coder"), (0, u "B"), (2, u "hash"), (0, u "I"), (2, u "hashIsZero"), (0, u "Z"), (0, .methodref 10 28), (0, .nameAndType 5 29), (0, u "([CIILjava/lang/Void;)V"), (8, .fieldref 10 39), (0, .nameAndType 40 26), (0, u "COMPACT_STRINGS"), (1, .class_ 44), (1, u "java/lang/StringUTF16"), (0, u "compress"), (1, .methodref 42 48), (0, .nameAndType 49 50), (0, u "coderFromArrayLen"), (0, u "([BI)B"), (56, .class_ 109), (1, u "java/lang/StringLatin1"), (32, u "()Z"), (34, .methodref 42 178), (0, .nameAndType 45 179), (0, u "([CII)[B"), (154, u "()I"), (0, .methodref 10 336), (0, .nameAndType 17 337), (0, u "()B"), (25, u "([BI)C"), (27, u "(II)V"), (35, u "(I)C"), (64, .methodref 10 493), (0, .nameAndType 494 142), (0, u "isLatin1"), (0, .methodref 107 496), (0, .nameAndType 497 363), (0, u "charAt"), (3, u "checkIndex"), (3, .methodref 10 506), (0, .nameAndType 507 334), (0, u "length"), (33, .methodref 107 542), (0, .nameAndType 543 544), (0, u "equals"), (0, u "([B[B)Z"), (28, u "(Ljava/lang/Object;)Z"), (1, .class_ 576), (0, u "java/lang/CharSequence"), (1, .nameAndType 497 427), (20, u "CASE_INSENSITIVE_ORDER"), (0, u "Ljava/util/Comparator;"), (32, .methodref 10 634), (0, .nameAndType 635 636), (0, u "indexOf"), (0, u "(II)I"), (0, .methodref 107 638), (0, .nameAndType 635 639), (0, u "([BIII)I"), (16, .methodref 10 578), (35, u "isEmpty"), (64, .methodref 10 758), (0, .nameAndType 759 760), (0, u "split"), (0, u "(Ljava/lang/String;IZ)[Ljava/lang/String;"), (0, .string 762), (0, u ".$|()[{^?*+\\"), (0, .methodref 10 764), (0, .nameAndType 635 765), (0, u "(I)I"), (0, .integer 55296), (1, .methodref 10 769), (0, .nameAndType 759 770), (0, u "(CIZ)[Ljava/lang/String;"), (6, .class_ 778), (0, u "java/util/ArrayList"), (0, .methodref 777 3), (230, u "([C)V"), (42, .fieldref 1054 1055), (0, .class_ 1056), (0, .nameAndType 1057 1058), (0, u "jdk/internal/util/Preconditions"), (0, u "SIOOBE_FORMATTER"), (0, u "Ljava/util/function/BiFunction;"), (0, .methodref 1054 1060), (0, .nameAndType 501 1061), (0, u "(IILjava/util/function/BiFunction;)I"), (39, u "serialPersistentFields"), (0, u "[Ljava/io/ObjectStreamField;"), (0, .class_ 1104), (0, u "java/lang/String$CaseInsensitiveComparator"), (1, .class_ 1107), (0, u "java/io/Serializable"), (0, .class_ 1109), (0, u "java/lang/Comparable"), (0, .class_ 1111), (0, u "java/lang/constant/Constable"), (0, .class_ 1113), (0, u "java/lang/constant/ConstantDesc"), (2, u "serialVersionUID"), (0, u "J"), (3, u "REPL"), (0, u "C"), (2, u "LATIN1"), (1, u "UTF16"), (179, u "(Ljava/lang/String;I)[Ljava/lang/String;")] 143

def k18m0 : Method := { name := "<init>", desc := "()V", sig := { parameters := [], returnType := none }, accessFlags := 1, code := none }
def k18c1 : Code := { maxStack := 5, maxLocals := 2, code := jdk_42_method_3_code, exceptionTable := #[], attributes := #[] }
def k18m1 : Method := { name := "<init>", desc := "([C)V", sig := { parameters := [(.array .char)], returnType := none }, accessFlags := 1, code := some k18c1 }
def k18c2 : Code := { maxStack := 2, maxLocals := 1, code := jdk_42_method_54_code, exceptionTable := #[], attributes := #[] }
def k18m2 : Method := { name := "length", desc := "()I", sig := { parameters := [], returnType := some .int }, accessFlags := 1, code := some k18c2 }
def k18c3 : Code := { maxStack := 1, maxLocals := 1, code := jdk_42_method_55_code, exceptionTable := #[], attributes := #[] }
def k18m3 : Method := { name := "isEmpty", desc := "()Z", sig := { parameters := [], returnType := some .boolean }, accessFlags := 1, code := some k18c3 }
def k18c4 : Code := { maxStack := 2, maxLocals := 2, code := jdk_42_method_56_code, exceptionTable := #[], attributes := #[] }
def k18m4 : Method := { name := "charAt", desc := "(I)C", sig := { parameters := [.int], returnType := some .char }, accessFlags := 1, code := some k18c4 }
def k18c5 : Code := { maxStack := 2, maxLocals := 3, code := jdk_42_method_66_code, exceptionTable := #[], attributes := #[] }
def k18m5 : Method := { name := "equals", desc := "(Ljava/lang/Object;)Z", sig := { parameters := [(.object "java/lang/Object")], returnType := some .boolean }, accessFlags := 1, code := some k18c5 }
def k18c6 : Code := { maxStack := 3, maxLocals := 2, code := jdk_42_method_79_code, exceptionTable := #[], attributes := #[] }
def k18m6 : Method := { name := "indexOf", desc := "(I)I", sig := { parameters := [.int], returnType := some .int }, accessFlags := 1, code := some k18c6 }
def k18c7 : Code := { maxStack := 4, maxLocals := 3, code := jdk_42_method_80_code, exceptionTable := #[], attributes := #[] }
def k18m7 : Method := { name := "indexOf", desc := "(II)I", sig := { parameters := [.int, .int], returnType := some .int }, accessFlags := 1, code := some k18c7 }
def k18c8 : Code := { maxStack := 4, maxLocals := 3, code := jdk_42_method_101_code, exceptionTable := #[], attributes := #[] }
def k18m8 : Method := { name := "split", desc := "(Ljava/lang/String;I)[Ljava/lang/String;", sig := { parameters := [(.object "java/lang/String"), .int], returnType := some (.array (.object "java/lang/String")) }, accessFlags := 1, code := some k18c8 }
def k18c9 : Code := { maxStack := 4, maxLocals := 6, code := jdk_42_method_103_code, exceptionTable := #[], attributes := #[] }
def k18m9 : Method := { name := "split", desc := "(Ljava/lang/String;IZ)[Ljava/lang/String;", sig := { parameters := [(.object "java/lang/String"), .int, .boolean], returnType := some (.array (.object "java/lang/String")) }, accessFlags := 2, code := some k18c9 }
def k18c10 : Code := { maxStack := 4, maxLocals := 12, code := jdk_42_method_104_code, exceptionTable := #[], attributes := #[] }
def k18m10 : Method := { name := "split", desc := "(CIZ)[Ljava/lang/String;", sig := { parameters := [.char, .int, .boolean], returnType := some (.array (.object "java/lang/String")) }, accessFlags := 2, code := some k18c10 }
def k18c11 : Code := { maxStack := 4, maxLocals := 6, code := jdk_42_method_149_code, exceptionTable := #[], attributes := #[] }
def k18m11 : Method := { name := "<init>", desc := "([CIILjava/lang/Void;)V", sig := { parameters := [(.array .char), .int, .int, (.object "java/lang/Void")], returnType := none }, accessFlags := 2, code := some k18c11 }
def k18c12 : Code := { maxStack := 1, maxLocals := 1, code := jdk_42_method_152_code, exceptionTable := #[], attributes := #[] }
def k18m12 : Method := { name := "coder", desc := "()B", sig := { parameters := [], returnType := some .byte }, accessFlags := 0, code := some k18c12 }
def k18c13 : Code := { maxStack := 1, maxLocals := 1, code := jdk_42_method_154_code, exceptionTable := #[], attributes := #[] }
def k18m13 : Method := { name := "isLatin1", desc := "()Z", sig := { parameters := [], returnType := some .boolean }, accessFlags := 0, code := some k18c13 }
def k18c14 : Code := { maxStack := 3, maxLocals := 2, code := jdk_42_method_155_code, exceptionTable := #[], attributes := #[] }
def k18m14 : Method := { name := "checkIndex", desc := "(II)V", sig := { parameters := [.int, .int], returnType := none }, accessFlags := 8, code := some k18c14 }
/-- java/lang/String -/
def k18 : Class := { plain "java/lang/String" (some 0) with
  accessFlags := 49
  interfaces := #[10, 14, 15, 16, 17]
  cf := some (fileOf pool18 10 #[.nestMembers #[1103]] #[{ accessFlags := 1, nameIndex := 5, descriptorIndex := 6, attributes := #[] }, { accessFlags := 1, nameIndex := 5, descriptorIndex := 1010, attributes := #[] }, { accessFlags := 1, nameIndex := 507, descriptorIndex := 334, attributes := #[] }, { accessFlags := 1, nameIndex := 692, descriptorIndex := 142, attributes := #[] }, { accessFlags := 1, nameIndex := 497, descriptorIndex := 427, attributes := #[] }, { accessFlags := 1, nameIndex := 543, descriptorIndex := 573, attributes := #[] }, { accessFlags := 1, nameIndex := 635, descriptorIndex := 765, attributes := #[] }, { accessFlags := 1, nameIndex := 635, descriptorIndex := 636, attributes := #[] }, { accessFlags := 1, nameIndex := 759, descriptorIndex := 1307, attributes := #[] }, { accessFlags := 2, nameIndex := 759, descriptorIndex := 760, attributes := #[] }, { accessFlags := 2, nameIndex := 759, descriptorIndex := 770, attributes := #[] }, { accessFlags := 2, nameIndex := 5, descriptorIndex := 29, attributes := #[] }, { accessFlags := 0, nameIndex := 17, descriptorIndex := 337, attributes := #[] }, { accessFlags := 0, nameIndex := 494, descriptorIndex := 142, attributes := #[] }, { accessFlags := 8, nameIndex := 501, descriptorIndex := 391, attributes := #[] }] 49 2 #[1106, 1108, 575, 1110, 1112] #[{ accessFlags := 18, nameIndex := 13, descriptorIndex := 14, attributes := #[] }, { accessFlags := 18, nameIndex := 17, descriptorIndex := 18, attributes := #[] }, { accessFlags := 2, nameIndex := 21, descriptorIndex := 22, attributes := #[] }, { accessFlags := 2, nameIndex := 25, descriptorIndex := 26, attributes := #[] }, { accessFlags := 26, nameIndex := 1116, descriptorIndex := 1117, attributes := #[] }, { accessFlags := 24, nameIndex := 40, descriptorIndex := 26, attributes := #[] }, { accessFlags := 26, nameIndex := 1101, descriptorIndex := 1102, attributes := #[] }, { accessFlags := 26, nameIndex := 1121, descriptorIndex := 1122, attributes := #[] }, { accessFlags := 25, nameIndex := 599, descriptorIndex := 600, attributes := #[] }, { accessFlags := 24, nameIndex := 1125, descriptorIndex := 18, attributes := #[] }, { accessFlags := 24, nameIndex := 1127, descriptorIndex := 18, attributes := #[] }])
  fields := #[{ name := "value", type := (.array .byte), accessFlags := 18, slot := 0, constantValue := 0 }, { name := "coder", type := .byte, accessFlags := 18, slot := 1, constantValue := 0 }, { name := "hash", type := .int, accessFlags := 2, slot := 2, constantValue := 0 }, { name := "hashIsZero", type := .boolean, accessFlags := 2, slot := 3, constantValue := 0 }, { name := "serialVersionUID", type := .long, accessFlags := 26, slot := 0, constantValue := 0 }, { name := "COMPACT_STRINGS", type := .boolean, accessFlags := 24, slot := 1, constantValue := 0 }, { name := "serialPersistentFields", type := (.array (.object "java/io/ObjectStreamField")), accessFlags := 26, slot := 2, constantValue := 0 }, { name := "REPL", type := .char, accessFlags := 26, slot := 3, constantValue := 0 }, { name := "CASE_INSENSITIVE_ORDER", type := (.object "java/util/Comparator"), accessFlags := 25, slot := 4, constantValue := 0 }, { name := "LATIN1", type := .byte, accessFlags := 24, slot := 5, constantValue := 0 }, { name := "UTF16", type := .byte, accessFlags := 24, slot := 6, constantValue := 0 }]
  methods := #[k18m0, k18m1, k18m2, k18m3, k18m4, k18m5, k18m6, k18m7, k18m8, k18m9, k18m10, k18m11, k18m12, k18m13, k18m14]
  instanceTypes := #[(.array .byte), .byte, .int, .boolean]
  staticTypes := #[.long, .boolean, (.array (.object "java/io/ObjectStreamField")), .char, (.object "java/util/Comparator"), .byte, .byte]
  resolved := Array.replicate 1451 none
  statics := some 1 }

def pool19 : Array CpInfo := pool [(6, .class_ 8), (1, u "java/lang/Object"), (0, u "<init>"), (0, u "()V"), (1, .class_ 14), (1, u "java/lang/StringUTF16"), (31, u "$assertionsDisabled"), (0, u "Z"), (13, u "HI_BYTE_SHIFT"), (0, u "I"), (2, u "LO_BYTE_SHIFT"), (49, .methodref 12 116), (0, .nameAndType 117 118), (0, u "compress"), (0, u "([CI[BII)I"), (3, u "([CII)[B"), (138, u "coderFromArrayLen"), (0, u "([BI)B"), (106, .class_ 371), (1, u "java/lang/StringUTF16$LinesSpliterator"), (58, u "MAX_LENGTH"), (196, .class_ 628), (0, u "java/lang/StringUTF16$CodePointsSpliterator"), (0, .class_ 630), (0, u "java/lang/StringUTF16$CharsSpliterator")] 4

def k19m0 : Method := { name := "<init>", desc := "()V", sig := { parameters := [], returnType := none }, accessFlags := 0, code := none }
def k19c1 : Code := { maxStack := 2, maxLocals := 2, code := jdk_52_method_15_code, exceptionTable := #[], attributes := #[] }
def k19m1 : Method := { name := "coderFromArrayLen", desc := "([BI)B", sig := { parameters := [(.array .byte), .int], returnType := some .byte }, accessFlags := 8, code := some k19c1 }
def k19c2 : Code := { maxStack := 5, maxLocals := 6, code := jdk_52_method_16_code, exceptionTable := #[], attributes := #[] }
def k19m2 : Method := { name := "compress", desc := "([CII)[B", sig := { parameters := [(.array .char), .int, .int], returnType := some (.array .byte) }, accessFlags := 9, code := some k19c2 }
def k19c3 : Code := { maxStack := 3, maxLocals := 7, code := jdk_52_method_21_code, exceptionTable := #[], attributes := #[] }
def k19m3 : Method := { name := "compress", desc := "([CI[BII)I", sig := { parameters := [(.array .char), .int, (.array .byte), .int, .int], returnType := some .int }, accessFlags := 9, code := some k19c3 }
/-- java/lang/StringUTF16 -/
def k19 : Class := { plain "java/lang/StringUTF16" (some 0) with
  accessFlags := 48
  interfaces := #[]
  cf := some (fileOf pool19 12 #[.nestMembers #[627, 629, 369]] #[{ accessFlags := 0, nameIndex := 9, descriptorIndex := 10, attributes := #[] }, { accessFlags := 8, nameIndex := 261, descriptorIndex := 262, attributes := #[] }, { accessFlags := 9, nameIndex := 117, descriptorIndex := 122, attributes := #[] }, { accessFlags := 9, nameIndex := 117, descriptorIndex := 118, attributes := #[] }] 48 6 #[] #[{ accessFlags := 26, nameIndex := 61, descriptorIndex := 62, attributes := #[] }, { accessFlags := 26, nameIndex := 65, descriptorIndex := 62, attributes := #[] }, { accessFlags := 24, nameIndex := 430, descriptorIndex := 62, attributes := #[] }, { accessFlags := 4120, nameIndex := 46, descriptorIndex := 47, attributes := #[] }])
  fields := #[{ name := "HI_BYTE_SHIFT", type := .int, accessFlags := 26, slot := 0, constantValue := 0 }, { name := "LO_BYTE_SHIFT", type := .int, accessFlags := 26, slot := 1, constantValue := 0 }, { name := "MAX_LENGTH", type := .int, accessFlags := 24, slot := 2, constantValue := 0 }, { name := "$assertionsDisabled", type := .boolean, accessFlags := 4120, slot := 3, constantValue := 0 }]
  methods := #[k19m0, k19m1, k19m2, k19m3]
  instanceTypes := #[]
  staticTypes := #[.int, .int, .int, .boolean]
  resolved := Array.replicate 635 none
  statics := none }

def pool20 : Array CpInfo := pool [(1, .methodref 2 3), (0, .class_ 4), (0, .nameAndType 5 6), (0, u "java/lang/Record"), (0, u "<init>"), (0, u "()V"), (0, .methodref 8 9), (0, .class_ 10), (0, .nameAndType 11 12), (0, u "com/example/anteroom/anteroom/store/LogicalPath"), (0, u "isValid"), (0, u "(Ljava/lang/String;)Z"), (8, u "(Ljava/lang/String;)V"), (0, .fieldref 8 23), (0, .nameAndType 24 25), (0, u "value"), (0, u "Ljava/lang/String;"), (0, .string 24), (0, .methodref 28 29), (0, .class_ 30), (0, .nameAndType 31 32), (0, u "java/util/Objects"), (0, u "requireNonNull"), (0, u "(Ljava/lang/Object;Ljava/lang/String;)Ljava/lang/Object;"), (0, .string 34), (0, u "/"), (0, .methodref 36 37), (0, .class_ 38), (0, .nameAndType 39 40), (0, u "java/lang/String"), (0, u "split"), (0, u "(Ljava/lang/String;I)[Ljava/lang/String;"), (0, .methodref 36 42), (0, .nameAndType 43 44), (0, u "isEmpty"), (0, u "()Z"), (0, .string 46), (0, u "."), (0, .methodref 36 48), (0, .nameAndType 49 50), (0, u "equals"), (0, u "(Ljava/lang/Object;)Z"), (0, .string 52), (0, u "..")] 42

def k20c0 : Code := { maxStack := 3, maxLocals := 2, code := prog_35_method_1_code, exceptionTable := #[], attributes := #[] }
def k20m0 : Method := { name := "<init>", desc := "(Ljava/lang/String;)V", sig := { parameters := [(.object "java/lang/String")], returnType := none }, accessFlags := 1, code := some k20c0 }
def k20c1 : Code := { maxStack := 3, maxLocals := 5, code := prog_35_method_2_code, exceptionTable := #[], attributes := #[] }
def k20m1 : Method := { name := "isValid", desc := "(Ljava/lang/String;)Z", sig := { parameters := [(.object "java/lang/String")], returnType := some .boolean }, accessFlags := 9, code := some k20c1 }
/-- com/example/anteroom/anteroom/store/LogicalPath -/
def k20 : Class := { plain "com/example/anteroom/anteroom/store/LogicalPath" (some 12) with
  accessFlags := 49
  interfaces := #[]
  cf := some (fileOf pool20 8 #[] #[{ accessFlags := 1, nameIndex := 5, descriptorIndex := 21, attributes := #[] }, { accessFlags := 9, nameIndex := 11, descriptorIndex := 12, attributes := #[] }] 49 2 #[] #[{ accessFlags := 18, nameIndex := 24, descriptorIndex := 25, attributes := #[] }])
  fields := #[{ name := "value", type := (.object "java/lang/String"), accessFlags := 18, slot := 0, constantValue := 0 }]
  methods := #[k20m0, k20m1]
  instanceTypes := #[(.object "java/lang/String")]
  staticTypes := #[]
  resolved := Array.replicate 95 none
  statics := none }

def pool21 : Array CpInfo := pool [(2, .class_ 4), (1, u "java/lang/Object"), (0, u "<init>"), (0, u "()V"), (35, .class_ 44), (1, u "java/util/Objects"), (0, u "requireNonNull"), (48, u "(Ljava/lang/Object;Ljava/lang/String;)Ljava/lang/Object;")] 89

def k21m0 : Method := { name := "<init>", desc := "()V", sig := { parameters := [], returnType := none }, accessFlags := 2, code := none }
def k21c1 : Code := { maxStack := 3, maxLocals := 2, code := jdk_31_method_11_code, exceptionTable := #[], attributes := #[] }
def k21m1 : Method := { name := "requireNonNull", desc := "(Ljava/lang/Object;Ljava/lang/String;)Ljava/lang/Object;", sig := { parameters := [(.object "java/lang/Object"), (.object "java/lang/String")], returnType := some (.object "java/lang/Object") }, accessFlags := 9, code := some k21c1 }
/-- java/util/Objects -/
def k21 : Class := { plain "java/util/Objects" (some 0) with
  accessFlags := 49
  interfaces := #[]
  cf := some (fileOf pool21 42 #[] #[{ accessFlags := 2, nameIndex := 5, descriptorIndex := 6, attributes := #[] }, { accessFlags := 9, nameIndex := 45, descriptorIndex := 94, attributes := #[] }] 49 2 #[] #[])
  fields := #[]
  methods := #[k21m0, k21m1]
  instanceTypes := #[]
  staticTypes := #[]
  resolved := Array.replicate 184 none
  statics := none }

def pool22 : Array CpInfo := pool [(1, .class_ 2), (0, u "java/lang/String"), (1, .class_ 6), (1, u "java/lang/Object"), (0, u "<init>"), (0, u "()V"), (0, .methodref 1 10), (0, .nameAndType 11 12), (0, u "checkIndex"), (0, u "(II)V"), (1, .class_ 16), (1, u "java/lang/StringLatin1"), (21, .methodref 39 40), (0, .class_ 41), (0, .nameAndType 42 43), (0, u "java/lang/Math"), (0, u "min"), (0, u "(II)I"), (9, u "([BI)C"), (34, .methodref 14 89), (0, .nameAndType 90 91), (0, u "canEncode"), (0, u "(I)Z"), (0, .methodref 39 93), (0, .nameAndType 94 43), (0, u "max"), (0, .methodref 14 96), (0, .nameAndType 97 98), (0, u "indexOfChar"), (0, u "([BIII)I"), (2, u "indexOf"), (19, u "$assertionsDisabled"), (0, u "Z"), (98, .class_ 223), (1, u "java/lang/StringLatin1$LinesSpliterator"), (28, u "charAt"), (28, u "equals"), (0, u "([B[B)Z"), (107, .class_ 391), (0, u "java/lang/StringLatin1$CharsSpliterator")] 3

def k22m0 : Method := { name := "<init>", desc := "()V", sig := { parameters := [], returnType := none }, accessFlags := 0, code := none }
def k22c1 : Code := { maxStack := 2, maxLocals := 2, code := jdk_43_method_2_code, exceptionTable := #[], attributes := #[] }
def k22m1 : Method := { name := "charAt", desc := "([BI)C", sig := { parameters := [(.array .byte), .int], returnType := some .char }, accessFlags := 9, code := some k22c1 }
def k22c2 : Code := { maxStack := 2, maxLocals := 1, code := jdk_43_method_4_code, exceptionTable := #[], attributes := #[] }
def k22m2 : Method := { name := "canEncode", desc := "(I)Z", sig := { parameters := [.int], returnType := some .boolean }, accessFlags := 9, code := some k22c2 }
def k22c3 : Code := { maxStack := 3, maxLocals := 3, code := jdk_43_method_13_code, exceptionTable := #[], attributes := #[] }
def k22m3 : Method := { name := "equals", desc := "([B[B)Z", sig := { parameters := [(.array .byte), (.array .byte)], returnType := some .boolean }, accessFlags := 9, code := some k22c3 }
def k22c4 : Code := { maxStack := 4, maxLocals := 4, code := jdk_43_method_22_code, exceptionTable := #[], attributes := #[] }
def k22m4 : Method := { name := "indexOf", desc := "([BIII)I", sig := { parameters := [(.array .byte), .int, .int, .int], returnType := some .int }, accessFlags := 9, code := some k22c4 }
def k22c5 : Code := { maxStack := 2, maxLocals := 6, code := jdk_43_method_23_code, exceptionTable := #[], attributes := #[] }
def k22m5 : Method := { name := "indexOfChar", desc := "([BIII)I", sig := { parameters := [(.array .byte), .int, .int, .int], returnType := some .int }, accessFlags := 10, code := some k22c5 }
/-- java/lang/StringLatin1 -/
def k22 : Class := { plain "java/lang/StringLatin1" (some 0) with
  accessFlags := 48
  interfaces := #[]
  cf := some (fileOf pool22 14 #[.nestMembers #[390, 221]] #[{ accessFlags := 0, nameIndex := 7, descriptorIndex := 8, attributes := #[] }, { accessFlags := 9, nameIndex := 252, descriptorIndex := 53, attributes := #[] }, { accessFlags := 9, nameIndex := 90, descriptorIndex := 91, attributes := #[] }, { accessFlags := 9, nameIndex := 281, descriptorIndex := 282, attributes := #[] }, { accessFlags := 9, nameIndex := 101, descriptorIndex := 98, attributes := #[] }, { accessFlags := 10, nameIndex := 97, descriptorIndex := 98, attributes := #[] }] 48 4 #[] #[{ accessFlags := 4120, nameIndex := 121, descriptorIndex := 122, attributes := #[] }])
  fields := #[{ name := "$assertionsDisabled", type := .boolean, accessFlags := 4120, slot := 0, constantValue := 0 }]
  methods := #[k22m0, k22m1, k22m2, k22m3, k22m4, k22m5]
  instanceTypes := #[]
  staticTypes := #[.boolean]
  resolved := Array.replicate 395 none
  statics := none }

def pool23 : Array CpInfo := pool [(2, .class_ 4), (1, u "java/lang/Object"), (0, u "<init>"), (0, u "()V"), (17, .class_ 26), (1, u "jdk/internal/util/Preconditions"), (6, u "checkIndex"), (21, .class_ 56), (0, u "jdk/internal/util/Preconditions$4"), (57, .class_ 115), (0, u "jdk/internal/util/Preconditions$1"), (7, u "SIOOBE_FORMATTER"), (0, u "Ljava/util/function/BiFunction;"), (0, .class_ 126), (0, u "jdk/internal/util/Preconditions$2"), (3, u "AIOOBE_FORMATTER"), (0, .class_ 132), (0, u "jdk/internal/util/Preconditions$3"), (3, u "IOOBE_FORMATTER"), (41, u "(IILjava/util/function/BiFunction;)I")] 15

def k23m0 : Method := { name := "<init>", desc := "()V", sig := { parameters := [], returnType := none }, accessFlags := 1, code := none }
def k23c1 : Code := { maxStack := 3, maxLocals := 3, code := jdk_41_method_11_code, exceptionTable := #[], attributes := #[] }
def k23m1 : Method := { name := "checkIndex", desc := "(IILjava/util/function/BiFunction;)I", sig := { parameters := [.int, .int, (.object "java/util/function/BiFunction")], returnType := some .int }, accessFlags := 9, code := some k23c1 }
/-- jdk/internal/util/Preconditions -/
def k23 : Class := { plain "jdk/internal/util/Preconditions" (some 0) with
  accessFlags := 33
  interfaces := #[]
  cf := some (fileOf pool23 24 #[.nestMembers #[55, 131, 125, 114]] #[{ accessFlags := 1, nameIndex := 5, descriptorIndex := 6, attributes := #[] }, { accessFlags := 9, nameIndex := 33, descriptorIndex := 178, attributes := #[] }] 33 2 #[] #[{ accessFlags := 25, nameIndex := 123, descriptorIndex := 124, attributes := #[] }, { accessFlags := 25, nameIndex := 130, descriptorIndex := 124, attributes := #[] }, { accessFlags := 25, nameIndex := 136, descriptorIndex := 124, attributes := #[] }])
  fields := #[{ name := "SIOOBE_FORMATTER", type := (.object "java/util/function/BiFunction"), accessFlags := 25, slot := 0, constantValue := 0 }, { name := "AIOOBE_FORMATTER", type := (.object "java/util/function/BiFunction"), accessFlags := 25, slot := 1, constantValue := 0 }, { name := "IOOBE_FORMATTER", type := (.object "java/util/function/BiFunction"), accessFlags := 25, slot := 2, constantValue := 0 }]
  methods := #[k23m0, k23m1]
  instanceTypes := #[]
  staticTypes := #[(.object "java/util/function/BiFunction"), (.object "java/util/function/BiFunction"), (.object "java/util/function/BiFunction")]
  resolved := Array.replicate 194 none
  statics := some 2 }

def pool24 : Array CpInfo := pool [(1, .class_ 2), (0, u "java/lang/Math"), (1, .class_ 6), (1, u "java/lang/Object"), (0, u "<init>"), (0, u "()V"), (89, .class_ 100), (1, u "java/lang/Math$RandomNumberGeneratorHolder"), (71, u "negativeZeroFloatBits"), (0, u "J"), (2, u "negativeZeroDoubleBits"), (21, u "max"), (2, u "min"), (43, u "$assertionsDisabled"), (0, u "Z"), (88, u "(II)I"), (2, u "twoToTheDoubleScaleDown"), (0, u "D"), (4, u "twoToTheDoubleScaleUp"), (9, u "E"), (3, u "PI"), (2, u "TAU"), (2, u "DEGREES_TO_RADIANS"), (0, u "RADIANS_TO_DEGREES")] 94

def k24m0 : Method := { name := "<init>", desc := "()V", sig := { parameters := [], returnType := none }, accessFlags := 2, code := none }
def k24c1 : Code := { maxStack := 2, maxLocals := 2, code := jdk_29_method_65_code, exceptionTable := #[], attributes := #[] }
def k24m1 : Method := { name := "max", desc := "(II)I", sig := { parameters := [.int, .int], returnType := some .int }, accessFlags := 9, code := some k24c1 }
def k24c2 : Code := { maxStack := 2, maxLocals := 2, code := jdk_29_method_69_code, exceptionTable := #[], attributes := #[] }
def k24m2 : Method := { name := "min", desc := "(II)I", sig := { parameters := [.int, .int], returnType := some .int }, accessFlags := 9, code := some k24c2 }
/-- java/lang/Math -/
def k24 : Class := { plain "java/lang/Math" (some 0) with
  accessFlags := 49
  interfaces := #[]
  cf := some (fileOf pool24 1 #[.nestMembers #[98]] #[{ accessFlags := 2, nameIndex := 7, descriptorIndex := 8, attributes := #[] }, { accessFlags := 9, nameIndex := 198, descriptorIndex := 335, attributes := #[] }, { accessFlags := 9, nameIndex := 201, descriptorIndex := 335, attributes := #[] }] 49 4 #[] #[{ accessFlags := 25, nameIndex := 354, descriptorIndex := 339, attributes := #[] }, { accessFlags := 25, nameIndex := 358, descriptorIndex := 339, attributes := #[] }, { accessFlags := 25, nameIndex := 361, descriptorIndex := 339, attributes := #[] }, { accessFlags := 26, nameIndex := 364, descriptorIndex := 339, attributes := #[] }, { accessFlags := 26, nameIndex := 365, descriptorIndex := 339, attributes := #[] }, { accessFlags := 26, nameIndex := 172, descriptorIndex := 173, attributes := #[] }, { accessFlags := 26, nameIndex := 176, descriptorIndex := 173, attributes := #[] }, { accessFlags := 8, nameIndex := 344, descriptorIndex := 339, attributes := #[] }, { accessFlags := 8, nameIndex := 338, descriptorIndex := 339, attributes := #[] }, { accessFlags := 4120, nameIndex := 245, descriptorIndex := 246, attributes := #[] }])
  fields := #[{ name := "E", type := .double, accessFlags := 25, slot := 0, constantValue := 0 }, { name := "PI", type := .double, accessFlags := 25, slot := 1, constantValue := 0 }, { name := "TAU", type := .double, accessFlags := 25, slot := 2, constantValue := 0 }, { name := "DEGREES_TO_RADIANS", type := .double, accessFlags := 26, slot := 3, constantValue := 0 }, { name := "RADIANS_TO_DEGREES", type := .double, accessFlags := 26, slot := 4, constantValue := 0 }, { name := "negativeZeroFloatBits", type := .long, accessFlags := 26, slot := 5, constantValue := 0 }, { name := "negativeZeroDoubleBits", type := .long, accessFlags := 26, slot := 6, constantValue := 0 }, { name := "twoToTheDoubleScaleUp", type := .double, accessFlags := 8, slot := 7, constantValue := 0 }, { name := "twoToTheDoubleScaleDown", type := .double, accessFlags := 8, slot := 8, constantValue := 0 }, { name := "$assertionsDisabled", type := .boolean, accessFlags := 4120, slot := 9, constantValue := 0 }]
  methods := #[k24m0, k24m1, k24m2]
  instanceTypes := #[]
  staticTypes := #[.double, .double, .double, .double, .double, .long, .long, .double, .double, .boolean]
  resolved := Array.replicate 460 none
  statics := none }

def pool25 : Array CpInfo := pool [(9, u "<init>"), (6, .class_ 18), (1, u "java/lang/Object"), (0, u "()V"), (1, .class_ 23), (1, u "jdk/internal/util/ArraysSupport"), (0, u "LOG2_ARRAY_LONG_INDEX_SCALE"), (0, u "I"), (2, u "U"), (0, u "Ljdk/internal/misc/Unsafe;"), (8, u "BIG_ENDIAN"), (0, u "Z"), (8, u "LOG2_BYTE_BIT_SIZE"), (4, u "LOG2_ARRAY_INT_INDEX_SCALE"), (54, u "JLA"), (0, u "Ljdk/internal/access/JavaLangAccess;"), (11, u "LOG2_ARRAY_BOOLEAN_INDEX_SCALE"), (9, u "LOG2_ARRAY_BYTE_INDEX_SCALE"), (5, u "LOG2_ARRAY_CHAR_INDEX_SCALE"), (5, u "LOG2_ARRAY_SHORT_INDEX_SCALE"), (18, u "LOG2_ARRAY_FLOAT_INDEX_SCALE"), (24, u "LOG2_ARRAY_DOUBLE_INDEX_SCALE"), (89, u "T_BOOLEAN"), (2, u "T_CHAR"), (1, u "T_FLOAT"), (1, u "T_DOUBLE"), (1, u "T_BYTE"), (1, u "T_SHORT"), (1, u "T_INT"), (1, u "T_LONG"), (1, u "SOFT_MAX_ARRAY_LENGTH")] 83

def k25m0 : Method := { name := "<init>", desc := "()V", sig := { parameters := [], returnType := none }, accessFlags := 2, code := none }
/-- jdk/internal/util/ArraysSupport -/
def k25 : Class := { plain "jdk/internal/util/ArraysSupport" (some 0) with
  accessFlags := 33
  interfaces := #[]
  cf := some (fileOf pool25 21 #[] #[{ accessFlags := 2, nameIndex := 9, descriptorIndex := 19, attributes := #[] }] 33 16 #[] #[{ accessFlags := 24, nameIndex := 28, descriptorIndex := 29, attributes := #[] }, { accessFlags := 26, nameIndex := 38, descriptorIndex := 39, attributes := #[] }, { accessFlags := 25, nameIndex := 121, descriptorIndex := 25, attributes := #[] }, { accessFlags := 25, nameIndex := 131, descriptorIndex := 25, attributes := #[] }, { accessFlags := 25, nameIndex := 137, descriptorIndex := 25, attributes := #[] }, { accessFlags := 25, nameIndex := 143, descriptorIndex := 25, attributes := #[] }, { accessFlags := 25, nameIndex := 53, descriptorIndex := 25, attributes := #[] }, { accessFlags := 25, nameIndex := 24, descriptorIndex := 25, attributes := #[] }, { accessFlags := 25, nameIndex := 162, descriptorIndex := 25, attributes := #[] }, { accessFlags := 25, nameIndex := 187, descriptorIndex := 25, attributes := #[] }, { accessFlags := 26, nameIndex := 48, descriptorIndex := 25, attributes := #[] }, { accessFlags := 25, nameIndex := 277, descriptorIndex := 25, attributes := #[] }, { accessFlags := 25, nameIndex := 280, descriptorIndex := 25, attributes := #[] }, { accessFlags := 25, nameIndex := 282, descriptorIndex := 25, attributes := #[] }, { accessFlags := 25, nameIndex := 284, descriptorIndex := 25, attributes := #[] }, { accessFlags := 25, nameIndex := 286, descriptorIndex := 25, attributes := #[] }, { accessFlags := 25, nameIndex := 288, descriptorIndex := 25, attributes := #[] }, { accessFlags := 25, nameIndex := 290, descriptorIndex := 25, attributes := #[] }, { accessFlags := 25, nameIndex := 292, descriptorIndex := 25, attributes := #[] }, { accessFlags := 26, nameIndex := 108, descriptorIndex := 109, attributes := #[] }, { accessFlags := 25, nameIndex := 294, descriptorIndex := 25, attributes := #[] }])
  fields := #[{ name := "U", type := (.object "jdk/internal/misc/Unsafe"), accessFlags := 24, slot := 0, constantValue := 0 }, { name := "BIG_ENDIAN", type := .boolean, accessFlags := 26, slot := 1, constantValue := 0 }, { name := "LOG2_ARRAY_BOOLEAN_INDEX_SCALE", type := .int, accessFlags := 25, slot := 2, constantValue := 0 }, { name := "LOG2_ARRAY_BYTE_INDEX_SCALE", type := .int, accessFlags := 25, slot := 3, constantValue := 0 }, { name := "LOG2_ARRAY_CHAR_INDEX_SCALE", type := .int, accessFlags := 25, slot := 4, constantValue := 0 }, { name := "LOG2_ARRAY_SHORT_INDEX_SCALE", type := .int, accessFlags := 25, slot := 5, constantValue := 0 }, { name := "LOG2_ARRAY_INT_INDEX_SCALE", type := .int, accessFlags := 25, slot := 6, constantValue := 0 }, { name := "LOG2_ARRAY_LONG_INDEX_SCALE", type := .int, accessFlags := 25, slot := 7, constantValue := 0 }, { name := "LOG2_ARRAY_FLOAT_INDEX_SCALE", type := .int, accessFlags := 25, slot := 8, constantValue := 0 }, { name := "LOG2_ARRAY_DOUBLE_INDEX_SCALE", type := .int, accessFlags := 25, slot := 9, constantValue := 0 }, { name := "LOG2_BYTE_BIT_SIZE", type := .int, accessFlags := 26, slot := 10, constantValue := 0 }, { name := "T_BOOLEAN", type := .int, accessFlags := 25, slot := 11, constantValue := 0 }, { name := "T_CHAR", type := .int, accessFlags := 25, slot := 12, constantValue := 0 }, { name := "T_FLOAT", type := .int, accessFlags := 25, slot := 13, constantValue := 0 }, { name := "T_DOUBLE", type := .int, accessFlags := 25, slot := 14, constantValue := 0 }, { name := "T_BYTE", type := .int, accessFlags := 25, slot := 15, constantValue := 0 }, { name := "T_SHORT", type := .int, accessFlags := 25, slot := 16, constantValue := 0 }, { name := "T_INT", type := .int, accessFlags := 25, slot := 17, constantValue := 0 }, { name := "T_LONG", type := .int, accessFlags := 25, slot := 18, constantValue := 0 }, { name := "JLA", type := (.object "jdk/internal/access/JavaLangAccess"), accessFlags := 26, slot := 19, constantValue := 0 }, { name := "SOFT_MAX_ARRAY_LENGTH", type := .int, accessFlags := 25, slot := 20, constantValue := 0 }]
  methods := #[k25m0]
  instanceTypes := #[]
  staticTypes := #[(.object "jdk/internal/misc/Unsafe"), .boolean, .int, .int, .int, .int, .int, .int, .int, .int, .int, .int, .int, .int, .int, .int, .int, .int, .int, (.object "jdk/internal/access/JavaLangAccess"), .int]
  resolved := Array.replicate 378 none
  statics := none }

/-- the primitive byte -/
def k26 : Class := { plain "byte" none with kind := .primitive 'B', accessFlags := 0x411 }
/-- [B -/
def k27 : Class := { plain "[B" (some 0) with kind := .array 26 .byte, interfaces := #[9, 10], accessFlags := 1041 }

/-- the primitive char -/
def k28 : Class := { plain "char" none with kind := .primitive 'C', accessFlags := 0x411 }
/-- [C -/
def k29 : Class := { plain "[C" (some 0) with kind := .array 28 .char, interfaces := #[9, 10], accessFlags := 1041 }

/-- the primitive int -/
def k30 : Class := { plain "int" none with kind := .primitive 'I', accessFlags := 0x411 }
/-- [I -/
def k31 : Class := { plain "[I" (some 0) with kind := .array 30 .int, interfaces := #[9, 10], accessFlags := 1041 }

/-- [Ljava/lang/Object; -/
def k32 : Class := { plain "[Ljava/lang/Object;" (some 0) with kind := .array 0 (.object "java/lang/Object"), interfaces := #[9, 10], accessFlags := 1041 }

/-- [Ljava/lang/String; -/
def k33 : Class := { plain "[Ljava/lang/String;" (some 0) with kind := .array 18 (.object "java/lang/String"), interfaces := #[9, 10], accessFlags := 1041 }

def heap : Heap := #[{ cls := 11, slots := #[.long 0, .int 0, .ref 3, .ref 4], vm := .statics 11 },
  { cls := 18, slots := #[.long 0, .int 1, .null, .int 0, .null, .int 0, .int 0], vm := .statics 18 },
  { cls := 23, slots := #[.null, .null, .null], vm := .statics 23 },
  { cls := 32, slots := #[], vm := .none },
  { cls := 32, slots := #[], vm := .none }]
def classes : Array Class := #[k0, k1, k2, k3, k4, k5, k6, k7, k8, k9, k10, k11, k12, k13, k14, k15, k16, k17, k18, k19, k20, k21, k22, k23, k24, k25, k26, k27, k28, k29, k30, k31, k32, k33]
def interned : List (Array UInt16 × Addr) := []
def slotsUsed : Nat := 14
def theMethod : MethodId := ⟨1, 1⟩
def args0 : Array Value := #[.int 5, .long 5, .long 5, .long 5, .int 5]
def aboutOver (below : List Frame) : State where
  vm := { classes := classes, interned := interned.toArray }
  heap := heap
  slotsUsed := slotsUsed
  threads := #[{ frames := .invoking theMethod args0 :: below }]
def below0 : List Frame := [.native { method := ⟨0, 0⟩, args := #[] }]
def about1 : State := aboutOver below0
def p0 : Program := .bare "" "" ""
def e0 : Env := launch0.env 0 0 0
theorem w_frames : about1.frames = Frame.invoking theMethod args0 :: below0 := rfl
set_option maxRecDepth 65536 in
theorem w_args : argsFit about1.vm theMethod args0 = true := by decide +kernel
set_option maxRecDepth 65536 in
theorem w_heap : heapFits about1 = true := by decide +kernel
set_option maxRecDepth 65536 in
theorem w_runnable : about1.curStatus? = some .runnable := by decide +kernel
set_option maxRecDepth 65536 in
theorem w_alone : about1.alone = true := by decide +kernel
set_option maxRecDepth 65536 in
theorem w_named : about1.methodNamed? x = some theMethod := by decide +kernel
set_option maxRecDepth 65536 in
theorem w_hears : about1.hears theMethod below0 = true := by decide +kernel
set_option maxRecDepth 65536 in
theorem w_ripe : about1.ripe theMethod args0 below0 = true := by decide +kernel
theorem w_running : about1.status = .running := rfl
set_option maxRecDepth 65536 in
theorem w_room : about1.hasRoom e0.platform room_1 = true :=
  launch0.hasRoom_least _ room_1 (by decide +kernel) (by decide +kernel) (by decide +kernel) (by decide +kernel) (by decide +kernel) (by decide +kernel)
theorem allAtoms_all (ts : List Jvm.Cond) (a : Array Jvm.Value) (st : Jvm.State) : (allAtoms ts).before a st = ts.all (fun c => c.before a st) := by
  induction ts with
  | nil => rfl
  | cons c t ih =>
    show (Jvm.Cond.and c (allAtoms t)).before a st = _
    rw [Jvm.Cond.before_and, ih, List.all_cons]
def words1 : List Jvm.Cond := Jvm.Cond.code x code maxLocals ret :: tables_1
/-- a 'code' word, met by the world's own term for the bytes: nothing is compared byte by byte -/
theorem code_word {y : MethodName} {bytes : ByteArray} {mx : Nat} {rt : Option FieldType} {a : Array Value} {s : State} {m : MethodId} {meth : Method} {c : Code} (h1 : s.methodNamed? y = some m) (h2 : s.vm.method? m = some meth) (h3 : meth.code = some c) (h4 : c.code = bytes)
    (h5 : (c.maxLocals == mx && c.exceptionTable.isEmpty && decide (c.maxStack ≤ mostOperands) && decide (meth.sig.returnType = rt) && !meth.locks && decide (parseMethodDescriptor y.desc = some meth.sig)) = true) : (Jvm.Cond.code y bytes mx rt).before a s = true := by
  simp only [Bool.and_eq_true, beq_iff_eq, Bool.not_eq_true', decide_eq_true_eq] at h5
  obtain ⟨⟨⟨⟨⟨g1, g2⟩, g3⟩, g4⟩, g5⟩, g6⟩ := h5
  simp [Cond.before, Cond.holds, Cond.value, h1, h2, h3, h4, g1, g2, g3, g4, g5, g6]
def isCode : Jvm.Cond → Bool
  | .code _ _ _ _ => true
  | _ => false
theorem all_split {L : List Jvm.Cond} {P : Jvm.Cond → Bool} (h1 : L.all (fun c => isCode c || P c) = true) (h2 : ∀ c ∈ L.filter isCode, P c = true) : L.all P = true := by
  refine List.all_eq_true.mpr fun c hc => ?_
  have h := List.all_eq_true.mp h1 c hc
  rcases Bool.eq_false_or_eq_true (isCode c) with hi | hi
  · exact h2 c (List.mem_filter.mpr ⟨hc, hi⟩)
  · simpa [hi] using h
set_option maxRecDepth 65536 in
theorem w_c0 : (Jvm.Cond.code x code maxLocals ret).before args0 about1 = true := code_word (m := ⟨1, 1⟩) (meth := k1m1) (c := k1c1) (by decide +kernel) rfl rfl rfl (by decide +kernel)
set_option maxRecDepth 65536 in
theorem w_c1 : (Jvm.Cond.code ({ cls := "java/util/ArrayList", name := "<init>", desc := "()V" } : Jvm.MethodName) jdk_38_method_2_code (1 : Nat) (Option.none : Option Jvm.ClassFile.FieldType)).before args0 about1 = true := code_word (m := ⟨11, 0⟩) (meth := k11m0) (c := k11c0) (by decide +kernel) rfl rfl rfl (by decide +kernel)
set_option maxRecDepth 65536 in
theorem w_c2 : (Jvm.Cond.code ({ cls := "java/util/AbstractList", name := "<init>", desc := "()V" } : Jvm.MethodName) jdk_39_method_1_code (1 : Nat) (Option.none : Option Jvm.ClassFile.FieldType)).before args0 about1 = true := code_word (m := ⟨7, 0⟩) (meth := k7m0) (c := k7c0) (by decide +kernel) rfl rfl rfl (by decide +kernel)
set_option maxRecDepth 65536 in
theorem w_c3 : (Jvm.Cond.code ({ cls := "java/util/AbstractCollection", name := "<init>", desc := "()V" } : Jvm.MethodName) jdk_22_method_1_code (1 : Nat) (Option.none : Option Jvm.ClassFile.FieldType)).before args0 about1 = true := code_word (m := ⟨4, 0⟩) (meth := k4m0) (c := k4c0) (by decide +kernel) rfl rfl rfl (by decide +kernel)
set_option maxRecDepth 65536 in
theorem w_c4 : (Jvm.Cond.code ({ cls := "java/lang/Object", name := "<init>", desc := "()V" } : Jvm.MethodName) object_method_1_code (1 : Nat) (Option.none : Option Jvm.ClassFile.FieldType)).before args0 about1 = true := code_word (m := ⟨0, 0⟩) (meth := k0m0) (c := k0c0) (by decide +kernel) rfl rfl rfl (by decide +kernel)
set_option maxRecDepth 65536 in
theorem w_c5 : (Jvm.Cond.code ({ cls := "com/example/anteroom/anteroom/store/VersionChanges", name := "<init>", desc := "(Ljava/lang/String;JJLjava/util/List;J)V" } : Jvm.MethodName) prog_51_method_1_code (9 : Nat) (Option.none : Option Jvm.ClassFile.FieldType)).before args0 about1 = true := code_word (m := ⟨13, 0⟩) (meth := k13m0) (c := k13c0) (by decide +kernel) rfl rfl rfl (by decide +kernel)
set_option maxRecDepth 65536 in
theorem w_c6 : (Jvm.Cond.code ({ cls := "java/lang/Record", name := "<init>", desc := "()V" } : Jvm.MethodName) jdk_30_method_1_code (1 : Nat) (Option.none : Option Jvm.ClassFile.FieldType)).before args0 about1 = true := code_word (m := ⟨12, 0⟩) (meth := k12m0) (c := k12c0) (by decide +kernel) rfl rfl rfl (by decide +kernel)
set_option maxRecDepth 65536 in
theorem w_c7 : (Jvm.Cond.code ({ cls := "com/example/anteroom/anteroom/store/VersionChanges", name := "isNone", desc := "()Z" } : Jvm.MethodName) prog_51_method_2_code (1 : Nat) (Option.some Jvm.ClassFile.FieldType.boolean)).before args0 about1 = true := code_word (m := ⟨13, 1⟩) (meth := k13m1) (c := k13c1) (by decide +kernel) rfl rfl rfl (by decide +kernel)
set_option maxRecDepth 65536 in
theorem w_c8 : (Jvm.Cond.code ({ cls := "java/lang/String", name := "<init>", desc := "([C)V" } : Jvm.MethodName) jdk_42_method_3_code (2 : Nat) (Option.none : Option Jvm.ClassFile.FieldType)).before args0 about1 = true := code_word (m := ⟨18, 1⟩) (meth := k18m1) (c := k18c1) (by decide +kernel) rfl rfl rfl (by decide +kernel)
set_option maxRecDepth 65536 in
theorem w_c9 : (Jvm.Cond.code ({ cls := "java/lang/String", name := "<init>", desc := "([CIILjava/lang/Void;)V" } : Jvm.MethodName) jdk_42_method_149_code (6 : Nat) (Option.none : Option Jvm.ClassFile.FieldType)).before args0 about1 = true := code_word (m := ⟨18, 11⟩) (meth := k18m11) (c := k18c11) (by decide +kernel) rfl rfl rfl (by decide +kernel)
set_option maxRecDepth 65536 in
theorem w_c10 : (Jvm.Cond.code ({ cls := "java/lang/StringUTF16", name := "compress", desc := "([CII)[B" } : Jvm.MethodName) jdk_52_method_16_code (6 : Nat) (Option.some (Jvm.ClassFile.FieldType.array Jvm.ClassFile.FieldType.byte))).before args0 about1 = true := code_word (m := ⟨19, 2⟩) (meth := k19m2) (c := k19c2) (by decide +kernel) rfl rfl rfl (by decide +kernel)
set_option maxRecDepth 65536 in
theorem w_c11 : (Jvm.Cond.code ({ cls := "java/lang/StringUTF16", name := "compress", desc := "([CI[BII)I" } : Jvm.MethodName) jdk_52_method_21_code (7 : Nat) (Option.some Jvm.ClassFile.FieldType.int)).before args0 about1 = true := code_word (m := ⟨19, 3⟩) (meth := k19m3) (c := k19c3) (by decide +kernel) rfl rfl rfl (by decide +kernel)
set_option maxRecDepth 65536 in
theorem w_c12 : (Jvm.Cond.code ({ cls := "java/lang/StringUTF16", name := "coderFromArrayLen", desc := "([BI)B" } : Jvm.MethodName) jdk_52_method_15_code (2 : Nat) (Option.some Jvm.ClassFile.FieldType.byte)).before args0 about1 = true := code_word (m := ⟨19, 1⟩) (meth := k19m1) (c := k19c1) (by decide +kernel) rfl rfl rfl (by decide +kernel)
set_option maxRecDepth 65536 in
theorem w_c13 : (Jvm.Cond.code ({ cls := "com/example/anteroom/anteroom/store/LogicalPath", name := "<init>", desc := "(Ljava/lang/String;)V" } : Jvm.MethodName) prog_35_method_1_code (2 : Nat) (Option.none : Option Jvm.ClassFile.FieldType)).before args0 about1 = true := code_word (m := ⟨20, 0⟩) (meth := k20m0) (c := k20c0) (by decide +kernel) rfl rfl rfl (by decide +kernel)
set_option maxRecDepth 65536 in
theorem w_c14 : (Jvm.Cond.code ({ cls := "com/example/anteroom/anteroom/store/LogicalPath", name := "isValid", desc := "(Ljava/lang/String;)Z" } : Jvm.MethodName) prog_35_method_2_code (5 : Nat) (Option.some Jvm.ClassFile.FieldType.boolean)).before args0 about1 = true := code_word (m := ⟨20, 1⟩) (meth := k20m1) (c := k20c1) (by decide +kernel) rfl rfl rfl (by decide +kernel)
set_option maxRecDepth 65536 in
theorem w_c15 : (Jvm.Cond.code ({ cls := "java/util/Objects", name := "requireNonNull", desc := "(Ljava/lang/Object;Ljava/lang/String;)Ljava/lang/Object;" } : Jvm.MethodName) jdk_31_method_11_code (2 : Nat) (Option.some (Jvm.ClassFile.FieldType.object "java/lang/Object"))).before args0 about1 = true := code_word (m := ⟨21, 1⟩) (meth := k21m1) (c := k21c1) (by decide +kernel) rfl rfl rfl (by decide +kernel)
set_option maxRecDepth 65536 in
theorem w_c16 : (Jvm.Cond.code ({ cls := "java/lang/String", name := "split", desc := "(Ljava/lang/String;I)[Ljava/lang/String;" } : Jvm.MethodName) jdk_42_method_101_code (3 : Nat) (Option.some (Jvm.ClassFile.FieldType.array (Jvm.ClassFile.FieldType.object "java/lang/String")))).before args0 about1 = true := code_word (m := ⟨18, 8⟩) (meth := k18m8) (c := k18c8) (by decide +kernel) rfl rfl rfl (by decide +kernel)
set_option maxRecDepth 65536 in
theorem w_c17 : (Jvm.Cond.code ({ cls := "java/lang/String", name := "split", desc := "(Ljava/lang/String;IZ)[Ljava/lang/String;" } : Jvm.MethodName) jdk_42_method_103_code (6 : Nat) (Option.some (Jvm.ClassFile.FieldType.array (Jvm.ClassFile.FieldType.object "java/lang/String")))).before args0 about1 = true := code_word (m := ⟨18, 9⟩) (meth := k18m9) (c := k18c9) (by decide +kernel) rfl rfl rfl (by decide +kernel)
set_option maxRecDepth 65536 in
theorem w_c18 : (Jvm.Cond.code ({ cls := "java/lang/String", name := "length", desc := "()I" } : Jvm.MethodName) jdk_42_method_54_code (1 : Nat) (Option.some Jvm.ClassFile.FieldType.int)).before args0 about1 = true := code_word (m := ⟨18, 2⟩) (meth := k18m2) (c := k18c2) (by decide +kernel) rfl rfl rfl (by decide +kernel)
set_option maxRecDepth 65536 in
theorem w_c19 : (Jvm.Cond.code ({ cls := "java/lang/String", name := "coder", desc := "()B" } : Jvm.MethodName) jdk_42_method_152_code (1 : Nat) (Option.some Jvm.ClassFile.FieldType.byte)).before args0 about1 = true := code_word (m := ⟨18, 12⟩) (meth := k18m12) (c := k18c12) (by decide +kernel) rfl rfl rfl (by decide +kernel)
set_option maxRecDepth 65536 in
theorem w_c20 : (Jvm.Cond.code ({ cls := "java/lang/String", name := "charAt", desc := "(I)C" } : Jvm.MethodName) jdk_42_method_56_code (2 : Nat) (Option.some Jvm.ClassFile.FieldType.char)).before args0 about1 = true := code_word (m := ⟨18, 4⟩) (meth := k18m4) (c := k18c4) (by decide +kernel) rfl rfl rfl (by decide +kernel)
set_option maxRecDepth 65536 in
theorem w_c21 : (Jvm.Cond.code ({ cls := "java/lang/String", name := "isLatin1", desc := "()Z" } : Jvm.MethodName) jdk_42_method_154_code (1 : Nat) (Option.some Jvm.ClassFile.FieldType.boolean)).before args0 about1 = true := code_word (m := ⟨18, 13⟩) (meth := k18m13) (c := k18c13) (by decide +kernel) rfl rfl rfl (by decide +kernel)
set_option maxRecDepth 65536 in
theorem w_c22 : (Jvm.Cond.code ({ cls := "java/lang/StringLatin1", name := "charAt", desc := "([BI)C" } : Jvm.MethodName) jdk_43_method_2_code (2 : Nat) (Option.some Jvm.ClassFile.FieldType.char)).before args0 about1 = true := code_word (m := ⟨22, 1⟩) (meth := k22m1) (c := k22c1) (by decide +kernel) rfl rfl rfl (by decide +kernel)
set_option maxRecDepth 65536 in
theorem w_c23 : (Jvm.Cond.code ({ cls := "java/lang/String", name := "checkIndex", desc := "(II)V" } : Jvm.MethodName) jdk_42_method_155_code (2 : Nat) (Option.none : Option Jvm.ClassFile.FieldType)).before args0 about1 = true := code_word (m := ⟨18, 14⟩) (meth := k18m14) (c := k18c14) (by decide +kernel) rfl rfl rfl (by decide +kernel)
set_option maxRecDepth 65536 in
theorem w_c24 : (Jvm.Cond.code ({ cls := "jdk/internal/util/Preconditions", name := "checkIndex", desc := "(IILjava/util/function/BiFunction;)I" } : Jvm.MethodName) jdk_41_method_11_code (3 : Nat) (Option.some Jvm.ClassFile.FieldType.int)).before args0 about1 = true := code_word (m := ⟨23, 1⟩) (meth := k23m1) (c := k23c1) (by decide +kernel) rfl rfl rfl (by decide +kernel)
set_option maxRecDepth 65536 in
theorem w_c25 : (Jvm.Cond.code ({ cls := "java/lang/String", name := "indexOf", desc := "(I)I" } : Jvm.MethodName) jdk_42_method_79_code (2 : Nat) (Option.some Jvm.ClassFile.FieldType.int)).before args0 about1 = true := code_word (m := ⟨18, 6⟩) (meth := k18m6) (c := k18c6) (by decide +kernel) rfl rfl rfl (by decide +kernel)
set_option maxRecDepth 65536 in
theorem w_c26 : (Jvm.Cond.code ({ cls := "java/lang/String", name := "indexOf", desc := "(II)I" } : Jvm.MethodName) jdk_42_method_80_code (3 : Nat) (Option.some Jvm.ClassFile.FieldType.int)).before args0 about1 = true := code_word (m := ⟨18, 7⟩) (meth := k18m7) (c := k18c7) (by decide +kernel) rfl rfl rfl (by decide +kernel)
set_option maxRecDepth 65536 in
theorem w_c27 : (Jvm.Cond.code ({ cls := "java/lang/StringLatin1", name := "indexOf", desc := "([BIII)I" } : Jvm.MethodName) jdk_43_method_22_code (4 : Nat) (Option.some Jvm.ClassFile.FieldType.int)).before args0 about1 = true := code_word (m := ⟨22, 4⟩) (meth := k22m4) (c := k22c4) (by decide +kernel) rfl rfl rfl (by decide +kernel)
set_option maxRecDepth 65536 in
theorem w_c28 : (Jvm.Cond.code ({ cls := "java/lang/StringLatin1", name := "canEncode", desc := "(I)Z" } : Jvm.MethodName) jdk_43_method_4_code (1 : Nat) (Option.some Jvm.ClassFile.FieldType.boolean)).before args0 about1 = true := code_word (m := ⟨22, 2⟩) (meth := k22m2) (c := k22c2) (by decide +kernel) rfl rfl rfl (by decide +kernel)
set_option maxRecDepth 65536 in
theorem w_c29 : (Jvm.Cond.code ({ cls := "java/lang/Math", name := "max", desc := "(II)I" } : Jvm.MethodName) jdk_29_method_65_code (2 : Nat) (Option.some Jvm.ClassFile.FieldType.int)).before args0 about1 = true := code_word (m := ⟨24, 1⟩) (meth := k24m1) (c := k24c1) (by decide +kernel) rfl rfl rfl (by decide +kernel)
set_option maxRecDepth 65536 in
theorem w_c30 : (Jvm.Cond.code ({ cls := "java/lang/Math", name := "min", desc := "(II)I" } : Jvm.MethodName) jdk_29_method_69_code (2 : Nat) (Option.some Jvm.ClassFile.FieldType.int)).before args0 about1 = true := code_word (m := ⟨24, 2⟩) (meth := k24m2) (c := k24c2) (by decide +kernel) rfl rfl rfl (by decide +kernel)
set_option maxRecDepth 65536 in
theorem w_c31 : (Jvm.Cond.code ({ cls := "java/lang/StringLatin1", name := "indexOfChar", desc := "([BIII)I" } : Jvm.MethodName) jdk_43_method_23_code (6 : Nat) (Option.some Jvm.ClassFile.FieldType.int)).before args0 about1 = true := code_word (m := ⟨22, 5⟩) (meth := k22m5) (c := k22c5) (by decide +kernel) rfl rfl rfl (by decide +kernel)
set_option maxRecDepth 65536 in
theorem w_c32 : (Jvm.Cond.code ({ cls := "java/lang/String", name := "split", desc := "(CIZ)[Ljava/lang/String;" } : Jvm.MethodName) jdk_42_method_104_code (12 : Nat) (Option.some (Jvm.ClassFile.FieldType.array (Jvm.ClassFile.FieldType.object "java/lang/String")))).before args0 about1 = true := code_word (m := ⟨18, 10⟩) (meth := k18m10) (c := k18c10) (by decide +kernel) rfl rfl rfl (by decide +kernel)
set_option maxRecDepth 65536 in
theorem w_c33 : (Jvm.Cond.code ({ cls := "java/lang/String", name := "isEmpty", desc := "()Z" } : Jvm.MethodName) jdk_42_method_55_code (1 : Nat) (Option.some Jvm.ClassFile.FieldType.boolean)).before args0 about1 = true := code_word (m := ⟨18, 3⟩) (meth := k18m3) (c := k18c3) (by decide +kernel) rfl rfl rfl (by decide +kernel)
set_option maxRecDepth 65536 in
theorem w_c34 : (Jvm.Cond.code ({ cls := "java/lang/String", name := "equals", desc := "(Ljava/lang/Object;)Z" } : Jvm.MethodName) jdk_42_method_66_code (3 : Nat) (Option.some Jvm.ClassFile.FieldType.boolean)).before args0 about1 = true := code_word (m := ⟨18, 5⟩) (meth := k18m5) (c := k18c5) (by decide +kernel) rfl rfl rfl (by decide +kernel)
set_option maxRecDepth 65536 in
theorem w_c35 : (Jvm.Cond.code ({ cls := "java/lang/StringLatin1", name := "equals", desc := "([B[B)Z" } : Jvm.MethodName) jdk_43_method_13_code (3 : Nat) (Option.some Jvm.ClassFile.FieldType.boolean)).before args0 about1 = true := code_word (m := ⟨22, 3⟩) (meth := k22m3) (c := k22c3) (by decide +kernel) rfl rfl rfl (by decide +kernel)
set_option maxRecDepth 65536 in
theorem w_c36 : (Jvm.Cond.code ({ cls := "java/util/ArrayList", name := "add", desc := "(Ljava/lang/Object;)Z" } : Jvm.MethodName) jdk_38_method_25_code (2 : Nat) (Option.some Jvm.ClassFile.FieldType.boolean)).before args0 about1 = true := code_word (m := ⟨11, 5⟩) (meth := k11m5) (c := k11c5) (by decide +kernel) rfl rfl rfl (by decide +kernel)
set_option maxRecDepth 65536 in
theorem w_c37 : (Jvm.Cond.code ({ cls := "java/util/ArrayList", name := "add", desc := "(Ljava/lang/Object;[Ljava/lang/Object;I)V" } : Jvm.MethodName) jdk_38_method_24_code (4 : Nat) (Option.none : Option Jvm.ClassFile.FieldType)).before args0 about1 = true := code_word (m := ⟨11, 4⟩) (meth := k11m4) (c := k11c4) (by decide +kernel) rfl rfl rfl (by decide +kernel)
set_option maxRecDepth 65536 in
theorem w_c38 : (Jvm.Cond.code ({ cls := "java/util/ArrayList", name := "grow", desc := "()[Ljava/lang/Object;" } : Jvm.MethodName) jdk_38_method_7_code (1 : Nat) (Option.some (Jvm.ClassFile.FieldType.array (Jvm.ClassFile.FieldType.object "java/lang/Object")))).before args0 about1 = true := code_word (m := ⟨11, 2⟩) (meth := k11m2) (c := k11c2) (by decide +kernel) rfl rfl rfl (by decide +kernel)
set_option maxRecDepth 65536 in
theorem w_c39 : (Jvm.Cond.code ({ cls := "java/util/ArrayList", name := "grow", desc := "(I)[Ljava/lang/Object;" } : Jvm.MethodName) jdk_38_method_6_code (4 : Nat) (Option.some (Jvm.ClassFile.FieldType.array (Jvm.ClassFile.FieldType.object "java/lang/Object")))).before args0 about1 = true := code_word (m := ⟨11, 1⟩) (meth := k11m1) (c := k11c1) (by decide +kernel) rfl rfl rfl (by decide +kernel)
set_option maxRecDepth 65536 in
theorem w_c40 : (Jvm.Cond.code ({ cls := "java/util/ArrayList", name := "isEmpty", desc := "()Z" } : Jvm.MethodName) jdk_38_method_9_code (1 : Nat) (Option.some Jvm.ClassFile.FieldType.boolean)).before args0 about1 = true := code_word (m := ⟨11, 3⟩) (meth := k11m3) (c := k11c3) (by decide +kernel) rfl rfl rfl (by decide +kernel)
def codes1 : List Jvm.Cond := [Jvm.Cond.code x code maxLocals ret, Jvm.Cond.code ({ cls := "java/util/ArrayList", name := "<init>", desc := "()V" } : Jvm.MethodName) jdk_38_method_2_code (1 : Nat) (Option.none : Option Jvm.ClassFile.FieldType), Jvm.Cond.code ({ cls := "java/util/AbstractList", name := "<init>", desc := "()V" } : Jvm.MethodName) jdk_39_method_1_code (1 : Nat) (Option.none : Option Jvm.ClassFile.FieldType), Jvm.Cond.code ({ cls := "java/util/AbstractCollection", name := "<init>", desc := "()V" } : Jvm.MethodName) jdk_22_method_1_code (1 : Nat) (Option.none : Option Jvm.ClassFile.FieldType), Jvm.Cond.code ({ cls := "java/lang/Object", name := "<init>", desc := "()V" } : Jvm.MethodName) object_method_1_code (1 : Nat) (Option.none : Option Jvm.ClassFile.FieldType), Jvm.Cond.code ({ cls := "com/example/anteroom/anteroom/store/VersionChanges", name := "<init>", desc := "(Ljava/lang/String;JJLjava/util/List;J)V" } : Jvm.MethodName) prog_51_method_1_code (9 : Nat) (Option.none : Option Jvm.ClassFile.FieldType), Jvm.Cond.code ({ cls := "java/lang/Record", name := "<init>", desc := "()V" } : Jvm.MethodName) jdk_30_method_1_code (1 : Nat) (Option.none : Option Jvm.ClassFile.FieldType), Jvm.Cond.code ({ cls := "com/example/anteroom/anteroom/store/VersionChanges", name := "isNone", desc := "()Z" } : Jvm.MethodName) prog_51_method_2_code (1 : Nat) (Option.some Jvm.ClassFile.FieldType.boolean), Jvm.Cond.code ({ cls := "java/lang/String", name := "<init>", desc := "([C)V" } : Jvm.MethodName) jdk_42_method_3_code (2 : Nat) (Option.none : Option Jvm.ClassFile.FieldType), Jvm.Cond.code ({ cls := "java/lang/String", name := "<init>", desc := "([CIILjava/lang/Void;)V" } : Jvm.MethodName) jdk_42_method_149_code (6 : Nat) (Option.none : Option Jvm.ClassFile.FieldType), Jvm.Cond.code ({ cls := "java/lang/StringUTF16", name := "compress", desc := "([CII)[B" } : Jvm.MethodName) jdk_52_method_16_code (6 : Nat) (Option.some (Jvm.ClassFile.FieldType.array Jvm.ClassFile.FieldType.byte)), Jvm.Cond.code ({ cls := "java/lang/StringUTF16", name := "compress", desc := "([CI[BII)I" } : Jvm.MethodName) jdk_52_method_21_code (7 : Nat) (Option.some Jvm.ClassFile.FieldType.int), Jvm.Cond.code ({ cls := "java/lang/StringUTF16", name := "coderFromArrayLen", desc := "([BI)B" } : Jvm.MethodName) jdk_52_method_15_code (2 : Nat) (Option.some Jvm.ClassFile.FieldType.byte), Jvm.Cond.code ({ cls := "com/example/anteroom/anteroom/store/LogicalPath", name := "<init>", desc := "(Ljava/lang/String;)V" } : Jvm.MethodName) prog_35_method_1_code (2 : Nat) (Option.none : Option Jvm.ClassFile.FieldType), Jvm.Cond.code ({ cls := "com/example/anteroom/anteroom/store/LogicalPath", name := "isValid", desc := "(Ljava/lang/String;)Z" } : Jvm.MethodName) prog_35_method_2_code (5 : Nat) (Option.some Jvm.ClassFile.FieldType.boolean), Jvm.Cond.code ({ cls := "java/util/Objects", name := "requireNonNull", desc := "(Ljava/lang/Object;Ljava/lang/String;)Ljava/lang/Object;" } : Jvm.MethodName) jdk_31_method_11_code (2 : Nat) (Option.some (Jvm.ClassFile.FieldType.object "java/lang/Object")), Jvm.Cond.code ({ cls := "java/lang/String", name := "split", desc := "(Ljava/lang/String;I)[Ljava/lang/String;" } : Jvm.MethodName) jdk_42_method_101_code (3 : Nat) (Option.some (Jvm.ClassFile.FieldType.array (Jvm.ClassFile.FieldType.object "java/lang/String"))), Jvm.Cond.code ({ cls := "java/lang/String", name := "split", desc := "(Ljava/lang/String;IZ)[Ljava/lang/String;" } : Jvm.MethodName) jdk_42_method_103_code (6 : Nat) (Option.some (Jvm.ClassFile.FieldType.array (Jvm.ClassFile.FieldType.object "java/lang/String"))), Jvm.Cond.code ({ cls := "java/lang/String", name := "length", desc := "()I" } : Jvm.MethodName) jdk_42_method_54_code (1 : Nat) (Option.some Jvm.ClassFile.FieldType.int), Jvm.Cond.code ({ cls := "java/lang/String", name := "coder", desc := "()B" } : Jvm.MethodName) jdk_42_method_152_code (1 : Nat) (Option.some Jvm.ClassFile.FieldType.byte), Jvm.Cond.code ({ cls := "java/lang/String", name := "charAt", desc := "(I)C" } : Jvm.MethodName) jdk_42_method_56_code (2 : Nat) (Option.some Jvm.ClassFile.FieldType.char), Jvm.Cond.code ({ cls := "java/lang/String", name := "isLatin1", desc := "()Z" } : Jvm.MethodName) jdk_42_method_154_code (1 : Nat) (Option.some Jvm.ClassFile.FieldType.boolean), Jvm.Cond.code ({ cls := "java/lang/StringLatin1", name := "charAt", desc := "([BI)C" } : Jvm.MethodName) jdk_43_method_2_code (2 : Nat) (Option.some Jvm.ClassFile.FieldType.char), Jvm.Cond.code ({ cls := "java/lang/String", name := "checkIndex", desc := "(II)V" } : Jvm.MethodName) jdk_42_method_155_code (2 : Nat) (Option.none : Option Jvm.ClassFile.FieldType), Jvm.Cond.code ({ cls := "jdk/internal/util/Preconditions", name := "checkIndex", desc := "(IILjava/util/function/BiFunction;)I" } : Jvm.MethodName) jdk_41_method_11_code (3 : Nat) (Option.some Jvm.ClassFile.FieldType.int), Jvm.Cond.code ({ cls := "java/lang/String", name := "indexOf", desc := "(I)I" } : Jvm.MethodName) jdk_42_method_79_code (2 : Nat) (Option.some Jvm.ClassFile.FieldType.int), Jvm.Cond.code ({ cls := "java/lang/String", name := "indexOf", desc := "(II)I" } : Jvm.MethodName) jdk_42_method_80_code (3 : Nat) (Option.some Jvm.ClassFile.FieldType.int), Jvm.Cond.code ({ cls := "java/lang/StringLatin1", name := "indexOf", desc := "([BIII)I" } : Jvm.MethodName) jdk_43_method_22_code (4 : Nat) (Option.some Jvm.ClassFile.FieldType.int), Jvm.Cond.code ({ cls := "java/lang/StringLatin1", name := "canEncode", desc := "(I)Z" } : Jvm.MethodName) jdk_43_method_4_code (1 : Nat) (Option.some Jvm.ClassFile.FieldType.boolean), Jvm.Cond.code ({ cls := "java/lang/Math", name := "max", desc := "(II)I" } : Jvm.MethodName) jdk_29_method_65_code (2 : Nat) (Option.some Jvm.ClassFile.FieldType.int), Jvm.Cond.code ({ cls := "java/lang/Math", name := "min", desc := "(II)I" } : Jvm.MethodName) jdk_29_method_69_code (2 : Nat) (Option.some Jvm.ClassFile.FieldType.int), Jvm.Cond.code ({ cls := "java/lang/StringLatin1", name := "indexOfChar", desc := "([BIII)I" } : Jvm.MethodName) jdk_43_method_23_code (6 : Nat) (Option.some Jvm.ClassFile.FieldType.int), Jvm.Cond.code ({ cls := "java/lang/String", name := "split", desc := "(CIZ)[Ljava/lang/String;" } : Jvm.MethodName) jdk_42_method_104_code (12 : Nat) (Option.some (Jvm.ClassFile.FieldType.array (Jvm.ClassFile.FieldType.object "java/lang/String"))), Jvm.Cond.code ({ cls := "java/lang/String", name := "isEmpty", desc := "()Z" } : Jvm.MethodName) jdk_42_method_55_code (1 : Nat) (Option.some Jvm.ClassFile.FieldType.boolean), Jvm.Cond.code ({ cls := "java/lang/String", name := "equals", desc := "(Ljava/lang/Object;)Z" } : Jvm.MethodName) jdk_42_method_66_code (3 : Nat) (Option.some Jvm.ClassFile.FieldType.boolean), Jvm.Cond.code ({ cls := "java/lang/StringLatin1", name := "equals", desc := "([B[B)Z" } : Jvm.MethodName) jdk_43_method_13_code (3 : Nat) (Option.some Jvm.ClassFile.FieldType.boolean), Jvm.Cond.code ({ cls := "java/util/ArrayList", name := "add", desc := "(Ljava/lang/Object;)Z" } : Jvm.MethodName) jdk_38_method_25_code (2 : Nat) (Option.some Jvm.ClassFile.FieldType.boolean), Jvm.Cond.code ({ cls := "java/util/ArrayList", name := "add", desc := "(Ljava/lang/Object;[Ljava/lang/Object;I)V" } : Jvm.MethodName) jdk_38_method_24_code (4 : Nat) (Option.none : Option Jvm.ClassFile.FieldType), Jvm.Cond.code ({ cls := "java/util/ArrayList", name := "grow", desc := "()[Ljava/lang/Object;" } : Jvm.MethodName) jdk_38_method_7_code (1 : Nat) (Option.some (Jvm.ClassFile.FieldType.array (Jvm.ClassFile.FieldType.object "java/lang/Object"))), Jvm.Cond.code ({ cls := "java/util/ArrayList", name := "grow", desc := "(I)[Ljava/lang/Object;" } : Jvm.MethodName) jdk_38_method_6_code (4 : Nat) (Option.some (Jvm.ClassFile.FieldType.array (Jvm.ClassFile.FieldType.object "java/lang/Object"))), Jvm.Cond.code ({ cls := "java/util/ArrayList", name := "isEmpty", desc := "()Z" } : Jvm.MethodName) jdk_38_method_9_code (1 : Nat) (Option.some Jvm.ClassFile.FieldType.boolean)]
set_option maxRecDepth 65536 in
theorem codes_eq : words1.filter isCode = codes1 := rfl
theorem w_codes : ∀ c ∈ words1.filter isCode, c.before args0 about1 = true := by
  rw [codes_eq]
  intro c hc
  simp only [codes1, List.mem_cons, List.not_mem_nil, or_false] at hc
  rcases hc with rfl | rfl | rfl | rfl | rfl | rfl | rfl | rfl | rfl | rfl | rfl | rfl | rfl | rfl | rfl | rfl | rfl | rfl | rfl | rfl | rfl | rfl | rfl | rfl | rfl | rfl | rfl | rfl | rfl | rfl | rfl | rfl | rfl | rfl | rfl | rfl | rfl | rfl | rfl | rfl | rfl
  · exact w_c0
  · exact w_c1
  · exact w_c2
  · exact w_c3
  · exact w_c4
  · exact w_c5
  · exact w_c6
  · exact w_c7
  · exact w_c8
  · exact w_c9
  · exact w_c10
  · exact w_c11
  · exact w_c12
  · exact w_c13
  · exact w_c14
  · exact w_c15
  · exact w_c16
  · exact w_c17
  · exact w_c18
  · exact w_c19
  · exact w_c20
  · exact w_c21
  · exact w_c22
  · exact w_c23
  · exact w_c24
  · exact w_c25
  · exact w_c26
  · exact w_c27
  · exact w_c28
  · exact w_c29
  · exact w_c30
  · exact w_c31
  · exact w_c32
  · exact w_c33
  · exact w_c34
  · exact w_c35
  · exact w_c36
  · exact w_c37
  · exact w_c38
  · exact w_c39
  · exact w_c40
set_option maxRecDepth 65536 in
theorem w_t1 : (words1.take 24).all (fun c => isCode c || c.before args0 about1) = true := by decide +kernel
set_option maxRecDepth 65536 in
theorem w_t2 : ((words1.drop 24).take 24).all (fun c => isCode c || c.before args0 about1) = true := by decide +kernel
set_option maxRecDepth 65536 in
theorem w_t3 : (((words1.drop 24).drop 24).take 24).all (fun c => isCode c || c.before args0 about1) = true := by decide +kernel
set_option maxRecDepth 65536 in
theorem w_t4 : ((((words1.drop 24).drop 24).drop 24).take 24).all (fun c => isCode c || c.before args0 about1) = true := by decide +kernel
set_option maxRecDepth 65536 in
theorem w_t5 : (((((words1.drop 24).drop 24).drop 24).drop 24).take 24).all (fun c => isCode c || c.before args0 about1) = true := by decide +kernel
set_option maxRecDepth 65536 in
theorem w_t6 : ((((((words1.drop 24).drop 24).drop 24).drop 24).drop 24).take 24).all (fun c => isCode c || c.before args0 about1) = true := by decide +kernel
set_option maxRecDepth 65536 in
theorem w_t7 : (((((((words1.drop 24).drop 24).drop 24).drop 24).drop 24).drop 24).take 24).all (fun c => isCode c || c.before args0 about1) = true := by decide +kernel
set_option maxRecDepth 65536 in
theorem w_t8 : ((((((((words1.drop 24).drop 24).drop 24).drop 24).drop 24).drop 24).drop 24).take 24).all (fun c => isCode c || c.before args0 about1) = true := by decide +kernel
set_option maxRecDepth 65536 in
theorem w_t9 : (((((((((words1.drop 24).drop 24).drop 24).drop 24).drop 24).drop 24).drop 24).drop 24).take 24).all (fun c => isCode c || c.before args0 about1) = true := by decide +kernel
set_option maxRecDepth 65536 in
theorem w_t10 : (((((((((words1.drop 24).drop 24).drop 24).drop 24).drop 24).drop 24).drop 24).drop 24).drop 24).all (fun c => isCode c || c.before args0 about1) = true := by decide +kernel
theorem w_tables : (allAtoms (Jvm.Cond.code x code maxLocals ret :: tables_1)).before args0 about1 = true := by
  rw [allAtoms_all]
  show words1.all (fun c => c.before args0 about1) = true
  refine all_split ?_ w_codes
  rw [← List.take_append_drop 24 words1, List.all_append, w_t1, ← List.take_append_drop 24 (words1.drop 24), List.all_append, w_t2, ← List.take_append_drop 24 ((words1.drop 24).drop 24), List.all_append, w_t3, ← List.take_append_drop 24 (((words1.drop 24).drop 24).drop 24), List.all_append, w_t4, ← List.take_append_drop 24 ((((words1.drop 24).drop 24).drop 24).drop 24), List.all_append, w_t5, ← List.take_append_drop 24 (((((words1.drop 24).drop 24).drop 24).drop 24).drop 24), List.all_append, w_t6, ← List.take_append_drop 24 ((((((words1.drop 24).drop 24).drop 24).drop 24).drop 24).drop 24), List.all_append, w_t7, ← List.take_append_drop 24 (((((((words1.drop 24).drop 24).drop 24).drop 24).drop 24).drop 24).drop 24), List.all_append, w_t8, ← List.take_append_drop 24 ((((((((words1.drop 24).drop 24).drop 24).drop 24).drop 24).drop 24).drop 24).drop 24), List.all_append, w_t9, w_t10]
  rfl
set_option maxRecDepth 65536 in
theorem w_rest : rest_1_c.before args0 about1 = true := by decide +kernel
set_option maxRecDepth 65536 in
theorem w_case : (Jvm.Cond.and given_1 narrow_1).before args0 about1 = true := by decide +kernel
set_option maxRecDepth 65536 in
theorem w_consts : constsHeld consts_1 about1 := Jvm.Lit.constsHeldB_iff.mp (by decide +kernel)
theorem w_applies : (headSpec (Jvm.Cond.code x code maxLocals ret :: tables_1) room_1).applies x e0.platform about1 = true :=
  (Spec.applies_iff w_frames).mpr ⟨w_running, w_runnable, w_alone, w_named, w_hears, w_ripe, w_room, w_tables⟩
theorem atStart : AtStart classFile x code maxLocals ret World_1 tables_1 room_1 Calls_1 rest_1 Pre_1 launch0 p0 e0 about1 theMethod args0 below0 :=
  ⟨lists_1, trivial, launch0.admits_env _ _ _, launch0.least_env, fairChoices_fair.cas, fairChoices_fair.clock, w_frames, w_args, w_heap, w_applies, ⟨w_consts, trivial⟩, w_rest, w_case⟩
end start1
theorem witness_1 : WitnessClaimed_1 := ⟨start1.p0, start1.e0, start1.about1, start1.theMethod, start1.args0, start1.below0, start1.atStart⟩
end Jvm.Pilot.@@N@@
